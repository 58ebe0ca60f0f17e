import JvmDerived
import JvmDerived.Pilot.@@N@@Statement
import JvmDerived.Pilot.@@N@@Code
set_option linter.unusedVariables false
set_option linter.unusedSimpArgs false
namespace Jvm.RoadKit
open Sem ClassFile Op Lib Jvm.Stand Jvm.Free Jvm.LawKit
section New
variable {p : Program} {l : Launch} {e : Env} {R : Room} {s : State} {m : MethodId} {args : Array Value} {below : List Frame} {meth : Method} {c : Code} {T : State} {locs : List Loc} {cells slots : Nat}
theorem retI (X : Stand p l e R s m args below meth c T locs cells slots) (hx : p.tables.exec = Jvm.exec) {pc : Nat} {Ls : Array Slot} {z : Int32} {rest : List Value} (hret : meth.sig.returnType = some .int) (hd : decode c.code pc = .ok (.ireturn, 1)) {fs : List Frame}
    (hl : ∀ (f : JFrame) (acts : List Action), f.method = m → f.locked = none → f.entered = [] → (doReturn e (T.setTop f) acts (some (.int z))).1 = T.setFrames fs) : Steps p.tables e below (T.setTop (mkF m pc Ls (.int z :: rest))) (T.setFrames fs) := by
  have hm' : T.vm.method? m = some meth := X.method'
  have hn : narrow .int (.int z) = .int z := rfl
  show Steps p.tables e below (T.setTop { method := m, pc := pc, locals := Ls, stack := _ :: rest, locked := none }) _
  jvm_step X.here [X.here.top, hx, hd, hm', hret, hn]
  first | (intro acts; rw [hl _ acts rfl rfl rfl]) | rw [hl _ _ rfl rfl rfl]
  exact Steps.refl _
end New
end Jvm.RoadKit
namespace Jvm.Pilot.@@N@@.FV
open Jvm.FP.Core
/-- the datum is `i * 2^e` (a zero of either sign is 0) -/
def Val (i e : Int) : Datum → Prop
  | .fin s c q => signed s c * ((2 ^ (q - e).toNat : Nat) : Int) = i * ((2 ^ (e - q).toNat : Nat) : Int)
  | _ => False
theorem p2 (n : Nat) : (0 : Int) < ((2 ^ n : Nat) : Int) := by have := Nat.two_pow_pos n; omega
theorem p2ne (n : Nat) : ((2 ^ n : Nat) : Int) ≠ 0 := by have := p2 n; omega
theorem p2add (a b : Nat) : ((2 ^ (a + b) : Nat) : Int) = ((2 ^ a : Nat) : Int) * ((2 ^ b : Nat) : Int) := by rw [Nat.pow_add, Int.natCast_mul]
theorem units_int (s : Bool) (c : Nat) (q m : Int) : signed s (inUnits c q m) = signed s c * ((2 ^ (q - m).toNat : Nat) : Int) := by
  unfold inUnits; rw [signed_mul]
theorem val_iff {i e m : Int} {s : Bool} {c : Nat} {q : Int} (h1 : m ≤ q) (h2 : m ≤ e) :
    Val i e (.fin s c q) ↔ signed s c * ((2 ^ (q - m).toNat : Nat) : Int) = i * ((2 ^ (e - m).toNat : Nat) : Int) := by
  show signed s c * ((2 ^ (q - e).toNat : Nat) : Int) = i * ((2 ^ (e - q).toNat : Nat) : Int) ↔ _
  by_cases h : e ≤ q
  · rw [show (e - q).toNat = 0 by omega, show (q - m).toNat = (q - e).toNat + (e - m).toNat by omega, p2add, ← Int.mul_assoc]
    constructor
    · intro h3; rw [h3]; simp
    · intro h3; have := Int.eq_of_mul_eq_mul_right (p2ne _) h3; rw [this]; simp
  · rw [show (q - e).toNat = 0 by omega, show (e - m).toNat = (e - q).toNat + (q - m).toNat by omega, p2add, ← Int.mul_assoc]
    constructor
    · intro h3; rw [← h3]; simp
    · intro h3; have := Int.eq_of_mul_eq_mul_right (p2ne _) h3; rw [← this]; simp
theorem val_fin {i e : Int} {d : Datum} (h : Val i e d) : ∃ s c q, d = .fin s c q := by
  cases d with
  | nan => exact h.elim
  | inf => exact h.elim
  | fin s c q => exact ⟨s, c, q, rfl⟩
theorem val_ne_nan {i e : Int} {d : Datum} (h : Val i e d) : d ≠ .nan := by
  obtain ⟨s, c, q, rfl⟩ := val_fin h; exact Datum.noConfusion
theorem val_abs {i e : Int} {s : Bool} {c : Nat} {q : Int} (h : Val i e (.fin s c q)) : c * 2 ^ (q - e).toNat = i.natAbs * 2 ^ (e - q).toNat := by
  have := congrArg Int.natAbs (show signed s c * ((2 ^ (q - e).toNat : Nat) : Int) = i * ((2 ^ (e - q).toNat : Nat) : Int) from h)
  rw [Int.natAbs_mul, Int.natAbs_mul, natAbs_signed, Int.natAbs_natCast, Int.natAbs_natCast] at this
  exact this
theorem val_zero {i e : Int} {s : Bool} {c : Nat} {q : Int} (h : Val i e (.fin s c q)) : c = 0 ↔ i = 0 := by
  have h1 := val_abs h
  have p1 := Nat.two_pow_pos (q - e).toNat
  have p2 := Nat.two_pow_pos (e - q).toNat
  constructor
  · rintro rfl
    rw [Nat.zero_mul] at h1
    have := Nat.mul_eq_zero.mp h1.symm
    omega
  · rintro rfl
    rw [show (0 : Int).natAbs = 0 from rfl, Nat.zero_mul] at h1
    have := Nat.mul_eq_zero.mp h1
    omega
theorem val_sign {i e : Int} {s : Bool} {c : Nat} {q : Int} (h : Val i e (.fin s c q)) (hi : i ≠ 0) : s = decide (i < 0) := by
  have h' : signed s c * ((2 ^ (q - e).toNat : Nat) : Int) = i * ((2 ^ (e - q).toNat : Nat) : Int) := h
  have hc : 0 < c := by have := val_zero h; omega
  have a1 := p2 (q - e).toNat
  have a2 := p2 (e - q).toNat
  have h1 : decide (signed s c < 0) = s := signed_lt_zero s hc
  rw [← h1, decide_eq_decide]
  constructor
  · intro hlt
    have := Int.mul_neg_of_neg_of_pos hlt a1
    rw [h'] at this
    exact Int.lt_of_not_ge fun hge => by have := Int.mul_nonneg hge (Int.le_of_lt a2); omega
  · intro hlt
    have := Int.mul_neg_of_neg_of_pos hlt a2
    rw [← h'] at this
    exact Int.lt_of_not_ge fun hge => by have := Int.mul_nonneg hge (Int.le_of_lt a1); omega
theorem val_signed {i e : Int} {s : Bool} {c : Nat} {q : Int} (h : Val i e (.fin s c q)) : signed s i.natAbs = i := by
  by_cases hi : i = 0
  · rw [hi]; exact signed_zero s
  · rw [val_sign h hi]; unfold signed
    by_cases h : i < 0 <;> simp [h] <;> omega
theorem val_whole {i : Int} {d : Datum} : Val i 0 d ↔ Whole i d := by
  cases d with
  | nan => exact Iff.rfl
  | inf => exact Iff.rfl
  | fin s c q =>
    show signed s c * ((2 ^ (q - 0).toNat : Nat) : Int) = i * ((2 ^ (0 - q).toNat : Nat) : Int) ↔ signed s (c * 2 ^ q.toNat) = i * ((2 ^ (-q).toNat : Nat) : Int)
    rw [signed_mul, show (q - 0).toNat = q.toNat by omega, show (0 - q).toNat = (-q).toNat by omega]
theorem val_shift {i e : Int} {d : Datum} (k : Nat) : Val i e d ↔ Val (i * ((2 ^ k : Nat) : Int)) (e - k) d := by
  cases d with
  | nan => exact Iff.rfl
  | inf => exact Iff.rfl
  | fin s c q =>
    rw [val_iff (m := min q (e - k)) (by omega) (by omega), val_iff (m := min q (e - k)) (by omega) (by omega),
      show (e - min q (e - k)).toNat = k + (e - k - min q (e - k)).toNat by omega, p2add, Int.mul_assoc]
theorem val_zero_any {e e' : Int} {d : Datum} (h : Val 0 e d) : Val 0 e' d := by
  obtain ⟨s, c, q, rfl⟩ := val_fin h
  have := (val_zero h).mpr rfl
  subst this
  show signed s 0 * _ = 0 * _
  rw [signed_zero]; simp
theorem val_ofInt (i : Int) : Val i 0 (ofInt i) := val_whole.mpr (whole_ofInt i)
theorem val_sum {i j e : Int} {x y : Datum} (hx : Val i e x) (hy : Val j e y) : Val (i + j) e (exactSum x y) := by
  obtain ⟨s, c, q, rfl⟩ := val_fin hx
  obtain ⟨t, d, r, rfl⟩ := val_fin hy
  rw [val_iff (m := min (min q r) e) (by omega) (by omega)] at hx hy
  show Val (i + j) e (.fin (sumSign s t (sumUnits s c q t d r (min q r))) (sumUnits s c q t d r (min q r)).natAbs (min q r))
  rw [val_iff (m := min (min q r) e) (by omega) (by omega), signed_sumSign]
  unfold sumUnits
  rw [units_int, units_int, Int.add_mul, Int.add_mul, Int.mul_assoc, Int.mul_assoc, ← p2add, ← p2add,
    show (q - min q r).toNat + (min q r - min (min q r) e).toNat = (q - min (min q r) e).toNat by omega,
    show (r - min q r).toNat + (min q r - min (min q r) e).toNat = (r - min (min q r) e).toNat by omega, hx, hy]
theorem val_neg {i e : Int} {x : Datum} (hx : Val i e x) : Val (-i) e (negate x) := by
  obtain ⟨s, c, q, rfl⟩ := val_fin hx
  have h : signed s c * ((2 ^ (q - e).toNat : Nat) : Int) = i * ((2 ^ (e - q).toNat : Nat) : Int) := hx
  show signed (!s) c * ((2 ^ (q - e).toNat : Nat) : Int) = -i * ((2 ^ (e - q).toNat : Nat) : Int)
  rw [signed_not, Int.neg_mul, Int.neg_mul, h]
theorem val_prod {i j e g : Int} {x y : Datum} (hx : Val i e x) (hy : Val j g y) : Val (i * j) (e + g) (exactProduct x y) := by
  obtain ⟨s, c, q, rfl⟩ := val_fin hx
  obtain ⟨t, d, r, rfl⟩ := val_fin hy
  rw [val_iff (m := min q e) (by omega) (by omega)] at hx
  rw [val_iff (m := min r g) (by omega) (by omega)] at hy
  show Val (i * j) (e + g) (.fin (s != t) (c * d) (q + r))
  rw [val_iff (m := min q e + min r g) (by omega) (by omega), signed_xor,
    show (q + r - (min q e + min r g)).toNat = (q - min q e).toNat + (r - min r g).toNat by omega,
    show (e + g - (min q e + min r g)).toNat = (e - min q e).toNat + (g - min r g).toNat by omega, p2add, p2add]
  calc signed s c * signed t d * (((2 ^ (q - min q e).toNat : Nat) : Int) * ((2 ^ (r - min r g).toNat : Nat) : Int))
      = (signed s c * ((2 ^ (q - min q e).toNat : Nat) : Int)) * (signed t d * ((2 ^ (r - min r g).toNat : Nat) : Int)) := by ac_rfl
    _ = _ := by rw [hx, hy]; ac_rfl
/-- a number of at most p digits, its exponent in range, rounds to itself -/
theorem val_round {f : Fmt} (hf : Good f) {i e : Int} {x : Datum} (hx : Val i e x) (hi : i.natAbs < 2 ^ f.p) (h1 : f.qmin ≤ e) (h2 : e ≤ f.qmax) : Val i e (round f x) := by
  obtain ⟨s, c, q, rfl⟩ := val_fin hx
  have ha := val_abs hx
  have hs := val_signed hx
  have e1 : round f (.fin s c q) = round f (.fin s i.natAbs e) := roundRatio_congr (by decide) (by decide) (by simpa using ha)
  obtain ⟨c', q', h3, h4⟩ := round_exact hf s hi h1 h2
  have hfit := round_fits hf (.fin s i.natAbs e)
  rw [e1]
  rw [h3] at hfit ⊢
  rw [val_iff (m := f.qmin) hfit.2.1 h1, ← units_int, h4, units_int, hs]
theorem val_order {i j e : Int} {x y : Datum} (hx : Val i e x) (hy : Val j e y) : order x y = some (compare i j) := by
  obtain ⟨s, c, q, rfl⟩ := val_fin hx
  obtain ⟨t, d, r, rfl⟩ := val_fin hy
  rw [val_iff (m := min (min q r) e) (by omega) (by omega)] at hx hy
  show some (compare (signed s (inUnits c q (min q r))) (signed t (inUnits d r (min q r)))) = _
  rw [← compare_mul_pos (signed s _) _ _ (p2 (min q r - min (min q r) e).toNat), units_int, units_int, Int.mul_assoc, Int.mul_assoc, ← p2add, ← p2add,
    show (q - min q r).toNat + (min q r - min (min q r) e).toNat = (q - min (min q r) e).toNat by omega,
    show (r - min q r).toNat + (min q r - min (min q r) e).toNat = (r - min (min q r) e).toNat by omega, hx, hy, compare_mul_pos _ _ _ (p2 _)]
theorem scale_eq {X Y P N t : Nat} (h : X * 2 ^ (P + t) = Y * 2 ^ (N + t)) : X * 2 ^ P = Y * 2 ^ N := by
  rw [Nat.pow_add, Nat.pow_add, ← Nat.mul_assoc, ← Nat.mul_assoc] at h
  exact Nat.eq_of_mul_eq_mul_right (Nat.two_pow_pos t) h
theorem ratio_cross {c d n m : Nat} {q r e g : Int} (hx : c * 2 ^ (q - e).toNat = n * 2 ^ (e - q).toNat) (hy : d * 2 ^ (r - g).toNat = m * 2 ^ (g - r).toNat) :
    c * m * 2 ^ ((q - r) - (e - g)).toNat = n * d * 2 ^ ((e - g) - (q - r)).toNat := by
  have e1 : c * m * 2 ^ ((q - e).toNat + (g - r).toNat) = n * d * 2 ^ ((e - q).toNat + (r - g).toNat) := by
    rw [Nat.pow_add, Nat.pow_add]
    calc c * m * (2 ^ (q - e).toNat * 2 ^ (g - r).toNat) = (c * 2 ^ (q - e).toNat) * (m * 2 ^ (g - r).toNat) := by ac_rfl
      _ = (n * 2 ^ (e - q).toNat) * (d * 2 ^ (r - g).toNat) := by rw [hx, hy]
      _ = _ := by ac_rfl
  have k : ((q - e).toNat : Int) + (g - r).toNat - ((e - q).toNat + (r - g).toNat) = (q - r) - (e - g) := by omega
  refine scale_eq (t := min ((q - e).toNat + (g - r).toNat) ((e - q).toNat + (r - g).toNat)) ?_
  rw [show ((q - r) - (e - g)).toNat + min ((q - e).toNat + (g - r).toNat) ((e - q).toNat + (r - g).toNat) = (q - e).toNat + (g - r).toNat by omega,
    show ((e - g) - (q - r)).toNat + min ((q - e).toNat + (g - r).toNat) ((e - q).toNat + (r - g).toNat) = (e - q).toNat + (r - g).toNat by omega]
  exact e1
/-- a quotient is the rounding of the ratio of the two values -/
theorem quot_ratio {f : Fmt} {s t : Bool} {c d : Nat} {q r i j e g : Int} (hx : Val i e (.fin s c q)) (hy : Val j g (.fin t d r)) (hj : j ≠ 0) :
    quotient f (.fin s c q) (.fin t d r) = roundRatio f (s != t) i.natAbs j.natAbs (e - g) := by
  have hd : d ≠ 0 := fun z => hj ((val_zero hy).mp z)
  show (if d = 0 then _ else roundRatio f (s != t) c d (q - r)) = _
  rw [if_neg hd]
  exact roundRatio_congr (by omega) (by omega) (ratio_cross (val_abs hx) (val_abs hy))
theorem val_quot {f : Fmt} (hf : Good f) {i j k e g : Int} {x y : Datum} (hx : Val i e x) (hy : Val j g y) (hj : j ≠ 0) (hk : i = k * j) (hb : k.natAbs < 2 ^ f.p) (h1 : f.qmin ≤ e - g) (h2 : e - g ≤ f.qmax) : Val k (e - g) (quotient f x y) := by
  obtain ⟨s, c, q, rfl⟩ := val_fin hx
  obtain ⟨t, d, r, rfl⟩ := val_fin hy
  rw [quot_ratio hx hy hj]
  have hv : Val k (e - g) (.fin (s != t) k.natAbs (e - g)) := by
    show signed (s != t) k.natAbs * _ = k * _
    congr 1
    by_cases h0 : k = 0
    · rw [h0]; exact signed_zero _
    · have hi : i ≠ 0 := by rw [hk]; exact Int.mul_ne_zero h0 hj
      rw [val_sign hx hi, val_sign hy hj, hk]
      have q : (decide (k * j < 0) != decide (j < 0)) = decide (k < 0) := by
        rcases Int.lt_or_gt_of_ne hj with hj | hj <;> rcases Int.lt_or_gt_of_ne h0 with h0 | h0
        · have := Int.mul_pos_of_neg_of_neg h0 hj
          rw [decide_eq_false (show ¬ k * j < 0 by omega), decide_eq_true hj, decide_eq_true h0]; rfl
        · have := Int.mul_neg_of_pos_of_neg h0 hj
          rw [decide_eq_true this, decide_eq_true hj, decide_eq_false (show ¬ k < 0 by omega)]; rfl
        · have := Int.mul_neg_of_neg_of_pos h0 hj
          rw [decide_eq_true this, decide_eq_false (show ¬ j < 0 by omega), decide_eq_true h0]; rfl
        · have := Int.mul_pos h0 hj
          rw [decide_eq_false (show ¬ k * j < 0 by omega), decide_eq_false (show ¬ j < 0 by omega), decide_eq_false (show ¬ k < 0 by omega)]; rfl
      rw [q]; unfold signed
      by_cases h : k < 0 <;> simp [h] <;> omega
  have e1 : roundRatio f (s != t) i.natAbs j.natAbs (e - g) = round f (.fin (s != t) k.natAbs (e - g)) := by
    refine roundRatio_congr (by omega) (by decide) ?_
    rw [hk, Int.natAbs_mul]; simp
  rw [e1]
  exact val_round hf hv hb h1 h2
/-! on the bits of a double -/
def DV (i e : Int) (a : UInt64) : Prop := Val i e (val64 a)
theorem DV.fin {i e : Int} {a : UInt64} (h : DV i e a) : DFin a := val_fin h
theorem DV.fin64 {i e : Int} {a : UInt64} (h : DV i e a) : Jvm.Free.Fl.Fin64 a := Jvm.Free.Fl.fin64_core.mpr h.fin
theorem DV.nn {i e : Int} {a : UInt64} (h : DV i e a) : Jvm.Free.Fl.NoNaN64 a := h.fin64.noNaN
theorem dv_lit {i e : Int} {a : UInt64} (s : Bool) (c : Nat) (q : Int) (h1 : val64 a = .fin s c q) (h2 : signed s c * ((2 ^ (q - e).toNat : Nat) : Int) = i * ((2 ^ (e - q).toNat : Nat) : Int)) : DV i e a := by
  unfold DV; rw [h1]; exact h2
theorem dv_int {i : Int} {a : UInt64} : DV i 0 a ↔ DInt i a := val_whole
theorem dv_shift {i e : Int} {a : UInt64} (k : Nat) : DV i e a ↔ DV (i * ((2 ^ k : Nat) : Int)) (e - k) a := val_shift k
theorem dv_add {i j e : Int} {a b : UInt64} (ha : DV i e a) (hb : DV j e b) (h : (i + j).natAbs < 2 ^ 53) (h1 : -1074 ≤ e) (h2 : e ≤ 971) : DV (i + j) e (FP.dadd a b) := by
  unfold DV; rw [show FP.dadd a b = dadd a b from rfl, val64_dadd]; exact val_round good_b64 (val_sum ha hb) h h1 h2
theorem dv_sub {i j e : Int} {a b : UInt64} (ha : DV i e a) (hb : DV j e b) (h : (i - j).natAbs < 2 ^ 53) (h1 : -1074 ≤ e) (h2 : e ≤ 971) : DV (i - j) e (FP.dsub a b) := by
  unfold DV; rw [show FP.dsub a b = dsub a b from rfl, val64_dsub]; exact val_round good_b64 (val_sum ha (val_neg hb)) h h1 h2
theorem dv_mul {i j e g : Int} {a b : UInt64} (ha : DV i e a) (hb : DV j g b) (h : (i * j).natAbs < 2 ^ 53) (h1 : -1074 ≤ e + g) (h2 : e + g ≤ 971) : DV (i * j) (e + g) (FP.dmul a b) := by
  unfold DV; rw [show FP.dmul a b = dmul a b from rfl, val64_dmul]; exact val_round good_b64 (val_prod ha hb) h h1 h2
theorem dv_div {i j k e g : Int} {a b : UInt64} (ha : DV i e a) (hb : DV j g b) (hj : j ≠ 0) (hk : i = k * j) (h : k.natAbs < 2 ^ 53) (h1 : -1074 ≤ e - g) (h2 : e - g ≤ 971) : DV k (e - g) (FP.ddiv a b) := by
  unfold DV; rw [show FP.ddiv a b = ddiv a b from rfl, val64_ddiv]; exact val_quot good_b64 ha hb hj hk h h1 h2
theorem dv_cmp {i j e : Int} {a b : UInt64} (ha : DV i e a) (hb : DV j e b) : FP.dcmp a b = some (compare i j) := val_order ha hb
theorem dv_i2d (n : Int32) : DV n.toInt 0 (FP.i2d n) := dv_int.mpr (i2d_int n)
theorem dv_l2d {n : Int64} (h : n.toInt.natAbs ≤ 2 ^ 53) : DV n.toInt 0 (FP.l2d n) := dv_int.mpr (l2d_int h)
/-- what dcmpl and dcmpg push -/
theorem cv_eq {i j e : Int} {a b : UInt64} (ha : DV i e a) (hb : DV j e b) (o : Jvm.ClassFile.CmpOp) (h : i = j) : Jvm.Op.cmpValue (FP.dcmp a b) o = 0 := by
  rw [dv_cmp ha hb, (compare_eq_iff i j).mpr h]; cases o <;> rfl
theorem cv_lt {i j e : Int} {a b : UInt64} (ha : DV i e a) (hb : DV j e b) (o : Jvm.ClassFile.CmpOp) (h : i < j) : Jvm.Op.cmpValue (FP.dcmp a b) o = -1 := by
  rw [dv_cmp ha hb, (compare_lt_iff i j).mpr h]; cases o <;> rfl
theorem cv_gt {i j e : Int} {a b : UInt64} (ha : DV i e a) (hb : DV j e b) (o : Jvm.ClassFile.CmpOp) (h : j < i) : Jvm.Op.cmpValue (FP.dcmp a b) o = 1 := by
  rw [dv_cmp ha hb, (compare_gt_iff i j).mpr h]; cases o <;> rfl
theorem cv_neg {i j e : Int} {a b : UInt64} (ha : DV i e a) (hb : DV j e b) (o : Jvm.ClassFile.CmpOp) : (Jvm.Op.cmpValue (FP.dcmp a b) o < (0 : Int32)) ↔ i < j := by
  rcases Int.lt_trichotomy i j with h | h | h
  · rw [cv_lt ha hb o h]; exact ⟨fun _ => h, fun _ => by decide⟩
  · rw [cv_eq ha hb o h]; exact ⟨fun z => absurd z (by decide), fun z => by omega⟩
  · rw [cv_gt ha hb o h]; exact ⟨fun z => absurd z (by decide), fun z => by omega⟩
theorem cv_pos {i j e : Int} {a b : UInt64} (ha : DV i e a) (hb : DV j e b) (o : Jvm.ClassFile.CmpOp) : ((0 : Int32) < Jvm.Op.cmpValue (FP.dcmp a b) o) ↔ j < i := by
  rcases Int.lt_trichotomy i j with h | h | h
  · rw [cv_lt ha hb o h]; exact ⟨fun z => absurd z (by decide), fun z => by omega⟩
  · rw [cv_eq ha hb o h]; exact ⟨fun z => absurd z (by decide), fun z => by omega⟩
  · rw [cv_gt ha hb o h]; exact ⟨fun _ => h, fun _ => by decide⟩
theorem dv_neg {i e : Int} {a : UInt64} (ha : DV i e a) : DV (-i) e (FP.dneg a) := by
  unfold DV; rw [Jvm.FP.val64_dneg]; exact val_neg ha
end Jvm.Pilot.@@N@@.FV
namespace Jvm.Pilot.@@N@@
open Jvm Jvm.ClassFile Sem Op Lib Jvm.Free Jvm.Stand Jvm.LawKit Jvm.RoadKit Bundle Jvm.Pilot.@@N@@.Jvm.D
theorem own_wS {Z : State} {a0 : Array Value} (hw : ∀ d ∈ tables_1, d.before a0 Z = true) : ∀ a ∈ Bundle.stringAtoms, a.before a0 Z = true := by
  intro a ha
  simp only [Bundle.stringAtoms, List.mem_cons, List.not_mem_nil, or_false] at ha
  rcases ha with rfl | rfl | rfl | rfl | rfl | rfl | rfl
  · exact (hw _ (List.mem_of_getElem? (i := 19) rfl))
  · exact (hw _ (List.mem_of_getElem? (i := 20) rfl))
  · exact (hw _ (List.mem_of_getElem? (i := 21) rfl))
  · exact (hw _ (List.mem_of_getElem? (i := 22) rfl))
  · exact (hw _ (List.mem_of_getElem? (i := 23) rfl))
  · exact (hw _ (List.mem_of_getElem? (i := 24) rfl))
  · exact (hw _ (List.mem_of_getElem? (i := 25) rfl))
theorem d3_0 : decode jdk_30_method_1_code 0 = .ok (.aload_n 0, 1) := by decide +kernel
theorem d3_1 : decode jdk_30_method_1_code 1 = .ok (.invokespecial 1, 3) := by decide +kernel
theorem d3_4 : decode jdk_30_method_1_code 4 = .ok (.return_, 1) := by decide +kernel
theorem pn_3 : plainName "java/lang/Record" = true := by first | (simp [plainName, overriddenIn]; done) | decide +kernel
theorem ef_rm3 (m : MethodId) (x0 : Addr) : entryFrame m #[(.ref x0)] 1 = mkF m 0 #[.val (.ref x0)] [] := by first | (simp [entryFrame, mkF, argsToLocals, Value.category]; done) | rfl
def Q_rm3 (Z : State) (a : Addr) (h0 : Heap) (n0 : Nat) (rv : Option Value) (h : Heap) (L : List Loc) : Prop := rv = none ∧ Fr n0 L ∧ h = h0
set_option maxRecDepth 65536 in
set_option maxHeartbeats 40000000 in
theorem rm3 (l : Launch) (Z : State) (a0 : Array Value) (hw : ∀ d ∈ tables_1, d.before a0 Z = true) (ws : List Jvm.Cond) (a : Addr) (h0 : Heap) (n0 : Nat) (Z0 : n0 ≤ h0.size) :
    MetFree l (⟨"java/lang/Record", "<init>", "()V"⟩ : MethodName) (head1 (Jvm.Cond.code (⟨"java/lang/Record", "<init>", "()V"⟩ : MethodName) jdk_30_method_1_code 1 none :: ws) ({ frames := 1, cells := 0, slots := 0, locals := 12 } : Room)) (fun av U => av = #[(.ref a)] ∧ Z.Warmed39 U.vm ∧ U.heap = h0) (fun _ _ _ _ _ => True) (fun _ U o U' => ∃ rv L, o = .returned rv ∧ Q_rm3 Z a h0 n0 rv U'.heap L ∧ FrameEnd U o U' L ({ frames := 1, cells := 0, slots := 0, locals := 12 } : Room).cells ({ frames := 1, cells := 0, slots := 0, locals := 12 } : Room).slots) := by
  refine MetFree.of_bodySF (plainFor_of_name pn_3) hisR ?_
  intro p e s m args below meth c s₁ Bd hml0 hP hK
  obtain ⟨rfl, hZ, hh⟩ := hP
  have hx := Bd.exec
  have hby := Bd.bytes
  have hml : c.maxLocals = 1 := hml0
  have hown : s.vm.findClass "java/lang/Record" = some m.cls := findClass_of_methodNamed Bd.named
  have hnm := (name_of_methodNamed Bd.named Bd.method).1
  have X0 : Stand p l e ({ frames := 1, cells := 0, slots := 0, locals := 12 } : Room) s m #[(.ref a)] below meth c s₁ [] 0 0 := Stand.of_body Bd
  have e0 : s₁.heap = h0 := by rw [← hh, Bd.state]; rfl
  have N0 := Fr.nil n0
  have pre0 : ∀ t, Steps p.tables e below (s₁.setTop (mkF m 0 #[.val (.ref a)] [])) t → Steps p.tables e below (s₁.setTop (entryFrame m #[(.ref a)] 1)) t := fun t k => castTop (ef_rm3 m a) k
  have sg1 : ∀ target, Steps p.tables e below (s₁.setTop (mkF m 1 #[.val (.ref a)] [(.ref a)])) target → Steps p.tables e below (s₁.setTop (mkF m 0 #[.val (.ref a)] [])) target := by
    intro target kt
    show Steps p.tables e below (s₁.setTop (mkF m 0 #[.val (.ref a)] [])) _
    refine XS.aloadN X0.here hx rfl (hb hby d3_0) rfl rfl ?_
    exact kt
  obtain ⟨T2, X2, e2, st2⟩ := initO X0 hx hZ hown (hw _ (List.mem_of_getElem? (i := 15) rfl)) (hw _ (List.mem_of_getElem? (i := 16) rfl)) (hw _ (List.mem_of_getElem? (i := 17) rfl)) e0 (g := (mkF m 1 #[.val (.ref a)] [(.ref a)])) rfl (by rw [hml]; rfl) rfl (hb hby d3_1) (by decide) (W := 0) (by show 2 * 0 + _ ≤ _; exact Nat.le_of_eq rfl) (by decide)
  obtain ⟨fs, hr, hrun, hended, hW, hsame⟩ := X2.leave (v := none) (fun _ => rfl)
  refine ⟨_, _, pre0 _ ?_, hrun, hended, _, _, rfl, ?_, ⟨_, rfl⟩, hW, hsame.mono (by decide) (by decide)⟩
  · show Steps p.tables e below (s₁.setTop (mkF m 0 #[.val (.ref a)] [])) _
    refine sg1 _ ?_
    refine st2 _ ?_
    show Steps p.tables e below (T2.setTop (mkF m 4 #[.val (.ref a)] [])) _
    exact X2.returnOut hx Bd.returns (hb hby d3_4) hr
  · show Q_rm3 Z a h0 n0 _ T2.heap _
    rw [e2]
    exact ⟨rfl, N0, rfl⟩
theorem own_fin_cmp {v : UInt64} (h : Jvm.Free.Fl.Fin64 v) : ¬ ((0 : Int32) < (cmpValue (FP.dcmp (v &&& 0x7fffffffffffffff) (9218868437227405311 : UInt64)) .g)) := by
  have q := (Jvm.Free.Fl.le_max_iff h.noNaN).mpr h
  intro z
  have e : FP.dcmp (v &&& 0x7fffffffffffffff) (9218868437227405311 : UInt64) = FP.dcmp (v &&& 0x7fffffffffffffff) Jvm.Free.Fl.maxD := rfl
  rw [e] at z
  revert q z
  generalize FP.dcmp (v &&& 0x7fffffffffffffff) Jvm.Free.Fl.maxD = o
  rcases o with _ | (_ | _ | _) <;> simp [Jvm.Free.Fl.relLe, cmpValue] <;> decide
theorem d6_0 : decode jdk_117_method_8_code 0 = .ok (.dload_n 0, 1) := by decide +kernel
theorem d6_1 : decode jdk_117_method_8_code 1 = .ok (.invokestatic 38, 3) := by decide +kernel
theorem pd_4 : parseMethodDescriptor "(D)D" = some ⟨[.double], some .double⟩ := by decide +kernel
theorem d6_4 : decode jdk_117_method_8_code 4 = .ok (.ldc2_w 111, 3) := by decide +kernel
theorem d6_7 : decode jdk_117_method_8_code 7 = .ok (.dcmp .g, 1) := by decide +kernel
theorem d6_8 : decode jdk_117_method_8_code 8 = .ok (.ifCond .gt 7, 3) := by decide +kernel
theorem d6_11 : decode jdk_117_method_8_code 11 = .ok (.iconst 1, 1) := by decide +kernel
theorem d6_12 : decode jdk_117_method_8_code 12 = .ok (.goto 4, 3) := by decide +kernel
theorem d6_16 : decode jdk_117_method_8_code 16 = .ok (.ireturn, 1) := by decide +kernel
theorem pn_6 : plainName "java/lang/Double" = true := by first | (simp [plainName, overriddenIn]; done) | decide +kernel
theorem ef_rm6 (m : MethodId) (x0 : UInt64) : entryFrame m #[(.double x0)] 2 = mkF m 0 #[.val (.double x0), .second] [] := by first | (simp [entryFrame, mkF, argsToLocals, Value.category]; done) | rfl
def Q_rm6 (Z : State) (v : UInt64) (h0 : Heap) (n0 : Nat) (rv : Option Value) (h : Heap) (L : List Loc) : Prop := rv = some (.int (1 : Int32)) ∧ Fr n0 L ∧ h = h0
set_option maxRecDepth 65536 in
set_option maxHeartbeats 40000000 in
theorem rm6 (l : Launch) (Z : State) (a0 : Array Value) (hw : ∀ d ∈ tables_1, d.before a0 Z = true) (ws : List Jvm.Cond) (v : UInt64) (h0 : Heap) (n0 : Nat) (Z0 : n0 ≤ h0.size) (hf : Jvm.Free.Fl.Fin64 v) :
    MetFree l (⟨"java/lang/Double", "isFinite", "(D)Z"⟩ : MethodName) (head1 (Jvm.Cond.code (⟨"java/lang/Double", "isFinite", "(D)Z"⟩ : MethodName) jdk_117_method_8_code 2 (some .boolean) :: ws) ({ frames := 1, cells := 0, slots := 0, locals := 13 } : Room)) (fun av U => av = #[(.double v)] ∧ Z.Warmed39 U.vm ∧ U.heap = h0) (fun _ _ _ _ _ => True) (fun _ U o U' => ∃ rv L, o = .returned rv ∧ Q_rm6 Z v h0 n0 rv U'.heap L ∧ FrameEnd U o U' L ({ frames := 1, cells := 0, slots := 0, locals := 13 } : Room).cells ({ frames := 1, cells := 0, slots := 0, locals := 13 } : Room).slots) := by
  refine MetFree.of_bodySF (plainFor_of_name pn_6) hisR ?_
  intro p e s m args below meth c s₁ Bd hml0 hP hK
  obtain ⟨rfl, hZ, hh⟩ := hP
  have hx := Bd.exec
  have hby := Bd.bytes
  have hml : c.maxLocals = 2 := hml0
  have hown : s.vm.findClass "java/lang/Double" = some m.cls := findClass_of_methodNamed Bd.named
  have hnm := (name_of_methodNamed Bd.named Bd.method).1
  have X0 : Stand p l e ({ frames := 1, cells := 0, slots := 0, locals := 13 } : Room) s m #[(.double v)] below meth c s₁ [] 0 0 := Stand.of_body Bd
  have e0 : s₁.heap = h0 := by rw [← hh, Bd.state]; rfl
  have N0 := Fr.nil n0
  have pre0 : ∀ t, Steps p.tables e below (s₁.setTop (mkF m 0 #[.val (.double v), .second] [])) t → Steps p.tables e below (s₁.setTop (entryFrame m #[(.double v)] 2)) t := fun t k => castTop (ef_rm6 m v) k
  have sg1 : ∀ target, Steps p.tables e below (s₁.setTop (mkF m 1 #[.val (.double v), .second] [(.double v)])) target → Steps p.tables e below (s₁.setTop (mkF m 0 #[.val (.double v), .second] [])) target := by
    intro target kt
    show Steps p.tables e below (s₁.setTop (mkF m 0 #[.val (.double v), .second] [])) _
    refine XS.dloadN X0.here hx rfl (hb hby d6_0) rfl ?_
    exact kt
  obtain ⟨T2, X2, e2, st2⟩ := natS X0 hx hZ hown (hw _ (List.mem_of_getElem? (i := 34) rfl)) (hw _ (List.mem_of_getElem? (i := 35) rfl)) (hw _ (List.mem_of_getElem? (i := 36) rfl)) (hw _ (List.mem_of_getElem? (i := 37) rfl)) (by decide) e0 (W := 0) (F := fun a' => a' = #[.double v] ∧ Jvm.Free.Fl.NoNaN64 v) (fun hc => Jvm.Free.Fl.Abs.absD_pays v hc (by decide) (by decide)) (g := (mkF m 1 #[.val (.double v), .second] [(.double v)])) rfl (by rw [hml]; rfl) (argsL := [(.double v)]) (rest := []) (lenOf pd_4 rfl) rfl (by show 2 * 0 + _ ≤ _; exact Nat.le_of_eq rfl) (hb hby d6_1) (by decide) (by decide) ⟨rfl, hf.noNaN⟩ rfl
  have sg3 : ∀ target, Steps p.tables e below (T2.setTop (mkF m 16 #[.val (.double v), .second] [(.int (1 : Int32))])) target → Steps p.tables e below (T2.setTop (mkF m 4 #[.val (.double v), .second] [(.double (v &&& 0x7fffffffffffffff))])) target := by
    intro target kt
    show Steps p.tables e below (T2.setTop (mkF m 4 #[.val (.double v), .second] [(.double (v &&& 0x7fffffffffffffff))])) _
    refine X2.ldc2DoubleC hx hown (mvT hZ (hw _ (List.mem_of_getElem? (i := 38) rfl))) (g := (mkF m 4 #[.val (.double v), .second] [(.double (v &&& 0x7fffffffffffffff))])) rfl (hb hby d6_4) _ ?_
    show Steps p.tables e below (T2.setTop (mkF m 7 #[.val (.double v), .second] [(.double (9218868437227405311 : UInt64)), (.double (v &&& 0x7fffffffffffffff))])) _
    refine XS.dcmpS X2.here hx rfl (v := (cmpValue (FP.dcmp (v &&& 0x7fffffffffffffff) (9218868437227405311 : UInt64)) .g)) (hb hby d6_7) rfl rfl ?_
    show Steps p.tables e below (T2.setTop (mkF m 8 #[.val (.double v), .second] [(.int (cmpValue (FP.dcmp (v &&& 0x7fffffffffffffff) (9218868437227405311 : UInt64)) .g))])) _
    refine XS.ifNo X2.here hx rfl (hb hby d6_8) rfl ((if0 _ _).trans (flt (own_fin_cmp hf : ¬ ((0 : Int32) < (cmpValue (FP.dcmp (v &&& 0x7fffffffffffffff) (9218868437227405311 : UInt64)) .g)))).2.2.1) ?_
    show Steps p.tables e below (T2.setTop (mkF m 11 #[.val (.double v), .second] [])) _
    refine XS.iconst X2.here hx rfl (hb hby d6_11) ?_
    show Steps p.tables e below (T2.setTop (mkF m 12 #[.val (.double v), .second] [(.int (1 : Int32))])) _
    refine XS.goto X2.here hx rfl (pc0 := 12) (pc' := 16) rfl (hb hby d6_12) (by decide) (by decide) ?_
    exact kt
  obtain ⟨fs, hr, hrun, hended, hW, hsame⟩ := X2.leave (v := some (.int (1 : Int32))) (fun h => by rw [Bd.returns] at h; cases h)
  refine ⟨_, _, pre0 _ ?_, hrun, hended, _, _, rfl, ?_, ⟨_, rfl⟩, hW, hsame.mono (by decide) (by decide)⟩
  · show Steps p.tables e below (s₁.setTop (mkF m 0 #[.val (.double v), .second] [])) _
    refine sg1 _ ?_
    refine st2 _ ?_
    refine sg3 _ ?_
    show Steps p.tables e below (T2.setTop (mkF m 16 #[.val (.double v), .second] [(.int (1 : Int32))])) _
    exact retN X2 hx (t := .boolean) Bd.returns (by simp) (hb hby d6_16) hr
  · show Q_rm6 Z v h0 n0 _ T2.heap _
    rw [e2]
    exact ⟨rfl, N0, rfl⟩
theorem d5_0 : decode prog_15_method_2_code 0 = .ok (.dload_n 1, 1) := by decide +kernel
theorem d5_1 : decode prog_15_method_2_code 1 = .ok (.invokestatic 7, 3) := by decide +kernel
theorem pd_5 : parseMethodDescriptor "(D)Z" = some ⟨[.double], some .boolean⟩ := by decide +kernel
theorem d5_4 : decode prog_15_method_2_code 4 = .ok (.ifCond .eq 9, 3) := by decide +kernel
theorem d5_7 : decode prog_15_method_2_code 7 = .ok (.dload_n 1, 1) := by decide +kernel
theorem d5_8 : decode prog_15_method_2_code 8 = .ok (.dconst 0, 1) := by decide +kernel
theorem d5_9 : decode prog_15_method_2_code 9 = .ok (.dcmp .g, 1) := by decide +kernel
theorem d5_10 : decode prog_15_method_2_code 10 = .ok (.ifCond .ge 18, 3) := by decide +kernel
theorem d5_28 : decode prog_15_method_2_code 28 = .ok (.return_, 1) := by decide +kernel
theorem pn_5 : plainName "com/example/headroom/headroom/Figures" = true := by first | (simp [plainName, overriddenIn]; done) | decide +kernel
theorem ef_rm5 (m : MethodId) (x0 : Addr) (x1 : UInt64) : entryFrame m #[(.ref x0), (.double x1)] 3 = mkF m 0 #[.val (.ref x0), .val (.double x1), .second] [] := by first | (simp [entryFrame, mkF, argsToLocals, Value.category]; done) | rfl
def Q_rm5 (Z : State) (sa : Addr) (v : UInt64) (h0 : Heap) (n0 : Nat) (rv : Option Value) (h : Heap) (L : List Loc) : Prop := rv = none ∧ Fr n0 L ∧ h = h0
set_option maxRecDepth 65536 in
set_option maxHeartbeats 40000000 in
theorem rm5 (l : Launch) (Z : State) (a0 : Array Value) (hw : ∀ d ∈ tables_1, d.before a0 Z = true) (ws : List Jvm.Cond) (sa : Addr) (v : UInt64) (h0 : Heap) (n0 : Nat) (Z0 : n0 ≤ h0.size) (hf : Jvm.Free.Fl.Fin64 v) (hge : ¬ ((cmpValue (FP.dcmp v (0 : UInt64)) .g) < (0 : Int32))) :
    MetFree l (⟨"com/example/headroom/headroom/Figures", "requireNonNegative", "(Ljava/lang/String;D)V"⟩ : MethodName) (head1 (Jvm.Cond.code (⟨"com/example/headroom/headroom/Figures", "requireNonNegative", "(Ljava/lang/String;D)V"⟩ : MethodName) prog_15_method_2_code 3 none :: ws) ({ frames := 2, cells := 0, slots := 0, locals := 26 } : Room)) (fun av U => av = #[(.ref sa), (.double v)] ∧ Z.Warmed39 U.vm ∧ U.heap = h0) (fun _ _ _ _ _ => True) (fun _ U o U' => ∃ rv L, o = .returned rv ∧ Q_rm5 Z sa v h0 n0 rv U'.heap L ∧ FrameEnd U o U' L ({ frames := 2, cells := 0, slots := 0, locals := 26 } : Room).cells ({ frames := 2, cells := 0, slots := 0, locals := 26 } : Room).slots) := by
  refine MetFree.of_bodySF (plainFor_of_name pn_5) hisR ?_
  intro p e s m args below meth c s₁ Bd hml0 hP hK
  obtain ⟨rfl, hZ, hh⟩ := hP
  have hx := Bd.exec
  have hby := Bd.bytes
  have hml : c.maxLocals = 3 := hml0
  have hown : s.vm.findClass "com/example/headroom/headroom/Figures" = some m.cls := findClass_of_methodNamed Bd.named
  have hnm := (name_of_methodNamed Bd.named Bd.method).1
  have X0 : Stand p l e ({ frames := 2, cells := 0, slots := 0, locals := 26 } : Room) s m #[(.ref sa), (.double v)] below meth c s₁ [] 0 0 := Stand.of_body Bd
  have e0 : s₁.heap = h0 := by rw [← hh, Bd.state]; rfl
  have N0 := Fr.nil n0
  have pre0 : ∀ t, Steps p.tables e below (s₁.setTop (mkF m 0 #[.val (.ref sa), .val (.double v), .second] [])) t → Steps p.tables e below (s₁.setTop (entryFrame m #[(.ref sa), (.double v)] 3)) t := fun t k => castTop (ef_rm5 m sa v) k
  have sg1 : ∀ target, Steps p.tables e below (s₁.setTop (mkF m 1 #[.val (.ref sa), .val (.double v), .second] [(.double v)])) target → Steps p.tables e below (s₁.setTop (mkF m 0 #[.val (.ref sa), .val (.double v), .second] [])) target := by
    intro target kt
    show Steps p.tables e below (s₁.setTop (mkF m 0 #[.val (.ref sa), .val (.double v), .second] [])) _
    refine XS.dloadN X0.here hx rfl (hb hby d5_0) rfl ?_
    exact kt
  obtain ⟨_, _, ⟨T2, L2, k2, n2⟩, -, X2, ⟨Lc2, hQ2, l2, y2, z2⟩, st2⟩ := Jvm.LawKit.callS X0 hx (y := (⟨"java/lang/Double", "isFinite", "(D)Z"⟩ : MethodName)) hown (mvT hZ (hw _ (List.mem_of_getElem? (i := 30) rfl))) (mvT hZ (hw _ (List.mem_of_getElem? (i := 31) rfl))) (mvT hZ (hw _ (List.mem_of_getElem? (i := 32) rfl))) (mvT hZ (hw _ (List.mem_of_getElem? (i := 33) rfl))) (by decide) (backOf (W := 0) (rm6 l Z a0 hw [] v h0 n0 Z0 hf) hZ (hw _ (List.mem_of_getElem? (i := 33) rfl)) (hw _ (List.mem_of_getElem? (i := 32) rfl)) (by decide) (by decide)) (g := (mkF m 1 #[.val (.ref sa), .val (.double v), .second] [(.double v)])) rfl (by rw [hml]; rfl) (argsL := [(.double v)]) (rest := []) (lenOf pd_5 rfl) rfl (by show 2 * 0 + _ ≤ _; exact Nat.le_of_eq rfl) (hb hby d5_1) (fun _ _ => ⟨rfl, e0, (by decide : 0 + 0 ≤ _), (by decide : 0 + 0 ≤ _)⟩)
  dsimp only [Pt.U, Pt.locs, Pt.cells, Pt.slots] at X2 l2 y2 z2 st2 hQ2
  subst l2 y2 z2
  obtain ⟨rfl, N2q, c2_0⟩ := hQ2
  have N2 := Fr.app N0 N2q
  have sg3 : ∀ target, Steps p.tables e below (T2.setTop (mkF m 28 #[.val (.ref sa), .val (.double v), .second] [])) target → Steps p.tables e below (T2.setTop (mkF m 4 #[.val (.ref sa), .val (.double v), .second] [(.int (1 : Int32))])) target := by
    intro target kt
    show Steps p.tables e below (T2.setTop (mkF m 4 #[.val (.ref sa), .val (.double v), .second] [(.int (1 : Int32))])) _
    refine XS.ifNo X2.here hx rfl (hb hby d5_4) rfl ((if0 _ _).trans (feq (by decide : ¬ ((1 : Int32) = (0 : Int32)))).1) ?_
    show Steps p.tables e below (T2.setTop (mkF m 7 #[.val (.ref sa), .val (.double v), .second] [])) _
    refine XS.dloadN X2.here hx rfl (hb hby d5_7) rfl ?_
    show Steps p.tables e below (T2.setTop (mkF m 8 #[.val (.ref sa), .val (.double v), .second] [(.double v)])) _
    refine XS.dconst0 X2.here hx rfl (v := (0 : UInt64)) (hb hby d5_8) rfl ?_
    show Steps p.tables e below (T2.setTop (mkF m 9 #[.val (.ref sa), .val (.double v), .second] [(.double (0 : UInt64)), (.double v)])) _
    refine XS.dcmpS X2.here hx rfl (v := (cmpValue (FP.dcmp v (0 : UInt64)) .g)) (hb hby d5_9) rfl rfl ?_
    show Steps p.tables e below (T2.setTop (mkF m 10 #[.val (.ref sa), .val (.double v), .second] [(.int (cmpValue (FP.dcmp v (0 : UInt64)) .g))])) _
    refine XS.ifYes X2.here hx rfl (pc0 := 10) (pc' := 28) rfl (hb hby d5_10) rfl ((if0 _ _).trans (flt (hge : ¬ ((cmpValue (FP.dcmp v (0 : UInt64)) .g) < (0 : Int32)))).2.1) (by decide) (by decide) ?_
    exact kt
  obtain ⟨fs, hr, hrun, hended, hW, hsame⟩ := X2.leave (v := none) (fun _ => rfl)
  refine ⟨_, _, pre0 _ ?_, hrun, hended, _, _, rfl, ?_, ⟨_, rfl⟩, hW, hsame.mono (by decide) (by decide)⟩
  · show Steps p.tables e below (s₁.setTop (mkF m 0 #[.val (.ref sa), .val (.double v), .second] [])) _
    refine sg1 _ ?_
    refine st2 _ ?_
    refine sg3 _ ?_
    show Steps p.tables e below (T2.setTop (mkF m 28 #[.val (.ref sa), .val (.double v), .second] [])) _
    exact X2.returnOut hx Bd.returns (hb hby d5_28) hr
  · show Q_rm5 Z sa v h0 n0 _ T2.heap _
    rw [c2_0]
    exact ⟨rfl, N2, rfl⟩
def own_u (q : Int32) : Int32 := (q &&& (65535 : Int32))
def own_lc (q : Int32) : Int32 := (((q).toUInt32 >>> ((16 : Int32) &&& 31).toUInt32).toInt32 &&& (7 : Int32))
def own_wt (q : Int32) : Int32 := (((q).toUInt32 >>> ((19 : Int32) &&& 31).toUInt32).toInt32 &&& (7 : Int32))
def own_limv (k : Int32) : UInt64 := if k = (0 : Int32) then (0 : UInt64) else (if k = (7 : Int32) then (1 : UInt64) else FP.i2d ((1 : Int32) <<< ((k - (1 : Int32)) &&& 31)))
def own_ss (q : Int32) : Int64 := if (lcmpW ((own_wt q)).toInt64 (0 : Int64)) = (0 : Int32) then (0 : Int64) else (if (own_lc q) = (0 : Int32) then (0 : Int64) else (if (lcmpW ((own_u q)).toInt64 (0 : Int64)) = (0 : Int32) then (0 : Int64) else (if (own_lc q) = (7 : Int32) then (-1 : Int64) else ((((own_u q)).toInt64 * ((own_wt q)).toInt64) * ((32 : Int64) >>> (((own_lc q) - (1 : Int32)) &&& 0x3f).toInt64)))))
def own_fr (u v : UInt64) : UInt64 := if (cmpValue (FP.dcmp v (0 : UInt64)) .l) = (0 : Int32) then (0 : UInt64) else FP.ddiv u v
def own_sh (u v z : UInt64) : UInt64 := if (cmpValue (FP.dcmp z (0 : UInt64)) .l) = (0 : Int32) then (0 : UInt64) else FP.dmul (own_fr u v) z
def own_max (x y : Int64) : Int64 := if (lcmpW x y) < (0 : Int32) then y else x
def own_pk (x y : UInt64) : UInt64 := Native.java_lang_Math.nans.pick64 true x y
theorem own_dv0 : FV.DV 0 0 (0 : UInt64) := FV.dv_lit false 0 (-1074) (by decide +kernel) (by simp [Jvm.FP.Core.signed])
theorem own_dv0e (e : Int) : FV.DV 0 e (0 : UInt64) := FV.val_zero_any own_dv0
theorem own_dvm : FV.DV 1 (-1074) (1 : UInt64) := FV.dv_lit false 1 (-1074) (by decide +kernel) (by decide)
theorem own_nonneg {n : Int32} (h : 0 ≤ n.toInt) : ¬ ((cmpValue (FP.dcmp (FP.i2d n) (0 : UInt64)) .g) < (0 : Int32)) := by
  rw [FV.cv_neg (FV.dv_i2d n) own_dv0 .g]; omega
theorem own_fin (n : Int32) : Jvm.Free.Fl.Fin64 (FP.i2d n) := Jvm.Free.Fl.i2d_fin n
theorem own_m7 (x : Int32) : 0 ≤ (x &&& (7 : Int32)).toInt ∧ (x &&& (7 : Int32)).toInt ≤ 7 := by
  have h1 := c_mask x (7 : Int32) 3 (by decide) (by decide)
  rw [h1]
  have := Int.emod_nonneg x.toInt (show ((2 ^ 3 : Nat) : Int) ≠ 0 by decide)
  have := Int.emod_lt_of_pos x.toInt (show (0 : Int) < ((2 ^ 3 : Nat) : Int) by decide)
  omega
theorem own_lc_rng (q : Int32) : 0 ≤ (own_lc q).toInt ∧ (own_lc q).toInt ≤ 7 := own_m7 _
theorem own_wt_rng (q : Int32) : 0 ≤ (own_wt q).toInt ∧ (own_wt q).toInt ≤ 7 := own_m7 _
theorem own_u_rng (q : Int32) : 0 ≤ (own_u q).toInt ∧ (own_u q).toInt ≤ 65535 := by
  have h1 := c_mask q (65535 : Int32) 16 (by decide) (by decide)
  unfold own_u; rw [h1]
  have := Int.emod_nonneg q.toInt (show ((2 ^ 16 : Nat) : Int) ≠ 0 by decide)
  have := Int.emod_lt_of_pos q.toInt (show (0 : Int) < ((2 ^ 16 : Nat) : Int) by decide)
  omega
theorem own_ltab : ∀ j : Nat, j < 7 → j ≠ 0 → Jvm.FP.Core.val64 (own_limv (Int32.ofInt j)) = .fin false 4503599627370496 ((j : Int) - 53) ∧ ((32 : Int64) >>> (((Int32.ofInt j) - (1 : Int32)) &&& 0x3f).toInt64).toInt = ((2 ^ (6 - j) : Nat) : Int) := by decide +kernel
theorem own_ltab' {k : Int32} (h1 : 1 ≤ k.toInt) (h2 : k.toInt ≤ 6) : FV.DV 1 (k.toInt - 1) (own_limv k) ∧ ((32 : Int64) >>> ((k - (1 : Int32)) &&& 0x3f).toInt64).toInt = ((2 ^ (6 - k.toInt.toNat) : Nat) : Int) := by
  have t := own_ltab k.toInt.toNat (by omega) (by omega)
  rw [Int.toNat_of_nonneg (by omega : 0 ≤ k.toInt), Int32.ofInt_toInt] at t
  refine ⟨FV.dv_lit false _ _ t.1 ?_, t.2⟩
  rw [show (k.toInt - 53 - (k.toInt - 1)).toNat = 0 by omega, show (k.toInt - 1 - (k.toInt - 53)).toNat = 52 by omega]
  decide
theorem own_ne_int {k : Int32} {n : Int32} (h : ¬ (k = n)) : k.toInt ≠ n.toInt := fun z => h (Int32.toInt_inj.mp z)
theorem own_lim_pos {k : Int32} (hl : 0 ≤ k.toInt ∧ k.toInt ≤ 7) (h : ¬ (k = (0 : Int32))) : ∃ g : Int, FV.DV 1 g (own_limv k) ∧ ((k = (7 : Int32) ∧ g = -1074) ∨ (¬ (k = (7 : Int32)) ∧ g = k.toInt - 1 ∧ 1 ≤ k.toInt ∧ k.toInt ≤ 6)) := by
  have h0 := own_ne_int h
  rw [show (0 : Int32).toInt = 0 by decide] at h0
  by_cases h7 : k = (7 : Int32)
  · refine ⟨-1074, ?_, Or.inl ⟨h7, rfl⟩⟩
    rw [h7]; exact own_dvm
  · have h6 := own_ne_int h7
    rw [show (7 : Int32).toInt = 7 by decide] at h6
    exact ⟨_, (own_ltab' (by omega) (by omega)).1, Or.inr ⟨h7, rfl, by omega, by omega⟩⟩
theorem own_lim_zero {k : Int32} (h : k = (0 : Int32)) : own_limv k = (0 : UInt64) := by unfold own_limv; rw [if_pos h]
theorem own_lim_fin {k : Int32} (hl : 0 ≤ k.toInt ∧ k.toInt ≤ 7) : Jvm.Free.Fl.Fin64 (own_limv k) := by
  by_cases h : k = (0 : Int32)
  · rw [own_lim_zero h]; exact own_dv0.fin64
  · obtain ⟨g, hg, -⟩ := own_lim_pos hl h; exact hg.fin64
theorem own_lim_nonneg {k : Int32} (hl : 0 ≤ k.toInt ∧ k.toInt ≤ 7) : ¬ ((cmpValue (FP.dcmp (own_limv k) (0 : UInt64)) .g) < (0 : Int32)) := by
  by_cases h : k = (0 : Int32)
  · rw [own_lim_zero h, FV.cv_neg own_dv0 own_dv0 .g]; decide
  · obtain ⟨g, hg, -⟩ := own_lim_pos hl h; rw [FV.cv_neg hg (own_dv0e g) .g]; decide
def own_R (s : Int) (x : UInt64) : Prop := (0 ≤ s ∧ s < 1073741824 ∧ FV.DV s (-5) x) ∨ (s < 0 ∧ Jvm.FP.Core.val64 x = .inf false)
theorem own_R_nn {s : Int} {x : UInt64} (h : own_R s x) : Jvm.Free.Fl.NoNaN64 x := by
  rcases h with h | h
  · exact h.2.2.nn
  · exact Jvm.Free.Fl.val64_no.mpr (by rw [h.2]; exact Jvm.FP.Core.Datum.noConfusion)
def own_mx (s t : Int) : Int := if s < 0 ∨ t < 0 then -1 else (if s < t then t else s)
theorem own_mx_l {s t : Int} (h : s < 0) : own_mx s t < 0 := by unfold own_mx; rw [if_pos (Or.inl h)]; decide
theorem own_mx_r {s t : Int} (h : t < 0) : own_mx s t < 0 := by unfold own_mx; rw [if_pos (Or.inr h)]; decide
theorem own_pick_lt {x y : UInt64} (h : FP.dcmp x y = some .lt) : own_pk x y = y := by unfold own_pk Native.java_lang_Math.nans.pick64; rw [h]; rfl
theorem own_pick_gt {x y : UInt64} (h : FP.dcmp x y = some .gt) : own_pk x y = x := by unfold own_pk Native.java_lang_Math.nans.pick64; rw [h]; rfl
theorem own_R_max {s t : Int} {x y : UInt64} (hx : own_R s x) (hy : own_R t y) : own_R (own_mx s t) (own_pk x y) := by
  rcases hx with ⟨h1, h2, h3⟩ | ⟨h1, h2⟩
  · rcases hy with ⟨g1, g2, g3⟩ | ⟨g1, g2⟩
    · have e : own_mx s t = if s < t then t else s := by unfold own_mx; rw [if_neg (by omega)]
      rw [e]
      rcases Int.lt_trichotomy s t with h | h | h
      · rw [if_pos h, own_pick_lt (by rw [FV.dv_cmp h3 g3, (Jvm.FP.Core.compare_lt_iff s t).mpr h])]; exact Or.inl ⟨g1, g2, g3⟩
      · subst h
        rw [if_neg (by omega)]
        rcases Jvm.Free.Fl.pick64_or true x y with z | z
        · rw [show own_pk x y = x from z]; exact Or.inl ⟨h1, h2, h3⟩
        · rw [show own_pk x y = y from z]; exact Or.inl ⟨g1, g2, g3⟩
      · rw [if_neg (by omega), own_pick_gt (by rw [FV.dv_cmp h3 g3, (Jvm.FP.Core.compare_gt_iff s t).mpr h])]; exact Or.inl ⟨h1, h2, h3⟩
    · obtain ⟨a, c, q, e⟩ := FV.val_fin h3
      rw [own_pick_lt (by show Jvm.FP.Core.order (Jvm.FP.Core.val64 x) (Jvm.FP.Core.val64 y) = _; rw [e, g2]; rfl)]
      exact Or.inr ⟨own_mx_r g1, g2⟩
  · rcases hy with ⟨g1, g2, g3⟩ | ⟨g1, g2⟩
    · obtain ⟨a, c, q, e⟩ := FV.val_fin g3
      rw [own_pick_gt (by show Jvm.FP.Core.order (Jvm.FP.Core.val64 x) (Jvm.FP.Core.val64 y) = _; rw [e, h2]; rfl)]
      exact Or.inr ⟨own_mx_l h1, h2⟩
    · rcases Jvm.Free.Fl.pick64_or true x y with z | z
      · rw [show own_pk x y = x from z]; exact Or.inr ⟨own_mx_l h1, h2⟩
      · rw [show own_pk x y = y from z]; exact Or.inr ⟨own_mx_l h1, g2⟩
theorem own_inf_mul {x y : UInt64} {j e : Int} (hx : Jvm.FP.Core.val64 x = .inf false) (hy : FV.DV j e y) (hj : 0 < j) : Jvm.FP.Core.val64 (FP.dmul x y) = .inf false ∧ Jvm.FP.Core.val64 (FP.dmul y x) = .inf false := by
  unfold FV.DV at hy
  obtain ⟨t, d, r, e2⟩ := FV.val_fin hy
  rw [e2] at hy
  have hd : ¬ d = 0 := fun z => by have := (FV.val_zero hy).mp z; omega
  have ht : t = false := by rw [FV.val_sign hy (by omega)]; simp; omega
  subst ht
  constructor
  · rw [show FP.dmul x y = Jvm.FP.Core.dmul x y from rfl, Jvm.FP.Core.val64_dmul, hx, e2]
    show Jvm.FP.Core.round _ (if d = 0 then _ else _) = _
    rw [if_neg hd]; rfl
  · rw [show FP.dmul y x = Jvm.FP.Core.dmul y x from rfl, Jvm.FP.Core.val64_dmul, hx, e2]
    show Jvm.FP.Core.round _ (if d = 0 then _ else _) = _
    rw [if_neg hd]; rfl
theorem own_over {A : Nat} (h : 0 < A) : Jvm.FP.Core.roundRatio Jvm.FP.Core.b64 false A 1 1074 = .inf false := by
  refine (Jvm.FP.Core.roundRatio_inf Jvm.FP.Core.good_b64 (e0 := -1075) (by decide) (by decide) (by decide)).mpr ?_
  rw [show Jvm.FP.Core.inUnits A 1074 (-1075) = A * 2 ^ ((1074 : Int) - (-1075)).toNat from rfl, show ((1074 : Int) - (-1075)).toNat = 104 + 2045 by decide, Nat.pow_add 2 104 2045, show (Jvm.FP.Core.b64.qmax - 1 - (-1075)).toNat = 2045 by decide, Nat.mul_one]
  have e104 : 2 ^ (Jvm.FP.Core.b64.p + 1) - 1 ≤ 2 ^ 104 := by decide +kernel
  generalize 2 ^ (Jvm.FP.Core.b64.p + 1) - 1 = F at *
  generalize (2 : Nat) ^ 104 = G at *
  generalize (2 : Nat) ^ 2045 = Y
  exact Nat.le_trans (Nat.mul_le_mul_right Y e104) (Nat.le_mul_of_pos_left _ h)
theorem own_inf_div {u : Int32} (h : 0 < u.toInt) : Jvm.FP.Core.val64 (FP.ddiv (FP.i2d u) (1 : UInt64)) = .inf false := by
  have h1 := FV.dv_i2d u
  have h2 := own_dvm
  unfold FV.DV at h1 h2
  obtain ⟨s, c, q, e1⟩ := FV.val_fin h1
  obtain ⟨t, d, k, e2⟩ := FV.val_fin h2
  rw [e1] at h1; rw [e2] at h2
  rw [show FP.ddiv (FP.i2d u) (1 : UInt64) = Jvm.FP.Core.ddiv (FP.i2d u) (1 : UInt64) from rfl, Jvm.FP.Core.val64_ddiv, e1, e2, FV.quot_ratio h1 h2 (by decide)]
  have hs : s = false := by rw [FV.val_sign h1 (by omega)]; simp; omega
  have ht : t = false := by rw [FV.val_sign h2 (by decide)]; decide
  subst hs; subst ht
  exact own_over (by omega)
theorem own_wz {z : Int32} (hz : 0 ≤ z.toInt) : ((cmpValue (FP.dcmp (FP.i2d z) (0 : UInt64)) .l) = (0 : Int32)) ↔ z.toInt = 0 := by
  rcases Int.lt_or_eq_of_le hz with h | h
  · rw [FV.cv_gt (FV.dv_i2d z) own_dv0 .l h]; exact ⟨fun y => absurd y (by decide), fun y => by omega⟩
  · rw [FV.cv_eq (FV.dv_i2d z) own_dv0 .l h.symm]; exact ⟨fun _ => h.symm, fun _ => rfl⟩
theorem own_lz {k : Int32} (hl : 0 ≤ k.toInt ∧ k.toInt ≤ 7) : ((cmpValue (FP.dcmp (own_limv k) (0 : UInt64)) .l) = (0 : Int32)) ↔ k = (0 : Int32) := by
  by_cases h : k = (0 : Int32)
  · rw [own_lim_zero h, FV.cv_eq own_dv0 own_dv0 .l rfl]; exact ⟨fun _ => h, fun _ => rfl⟩
  · obtain ⟨g, hg, -⟩ := own_lim_pos hl h
    rw [FV.cv_gt hg (own_dv0e g) .l (by decide)]; exact ⟨fun y => absurd y (by decide), fun y => absurd y h⟩
theorem own_nn1 {u k : Int32} (hl : 0 ≤ k.toInt ∧ k.toInt ≤ 7) (h : ¬ ((cmpValue (FP.dcmp (own_limv k) (0 : UInt64)) .l) = (0 : Int32))) : Jvm.Free.Fl.NoNaN64 (FP.ddiv (FP.i2d u) (own_limv k)) := by
  rw [own_lz hl] at h
  obtain ⟨g, hg, -⟩ := own_lim_pos hl h
  refine Jvm.Free.Fl.val64_no.mpr ?_
  have h1 := FV.dv_i2d u
  unfold FV.DV at h1 hg
  obtain ⟨s, c, q, e1⟩ := FV.val_fin h1
  obtain ⟨t, d, r, e2⟩ := FV.val_fin hg
  rw [e1] at h1; rw [e2] at hg
  rw [show FP.ddiv (FP.i2d u) (own_limv k) = Jvm.FP.Core.ddiv (FP.i2d u) (own_limv k) from rfl, Jvm.FP.Core.val64_ddiv, e1, e2, FV.quot_ratio h1 hg (by decide)]
  rcases Jvm.FP.Core.roundRatio_cases Jvm.FP.Core.b64 (s != t) u.toInt.natAbs (1 : Int).natAbs (0 - g) with ⟨c, q, h⟩ | h <;> rw [h] <;> exact Jvm.FP.Core.Datum.noConfusion
theorem own_lcm {x : Int32} : (lcmpW (x).toInt64 (0 : Int64)) = (0 : Int32) ↔ x.toInt = 0 := by
  rw [lw_eq, ← Int64.toInt_inj, Int32.toInt_toInt64, show (0 : Int64).toInt = 0 by decide]
theorem own_Rs (q : Int32) : own_R (own_ss q).toInt (own_sh (FP.i2d (own_u q)) (own_limv (own_lc q)) (FP.i2d (own_wt q))) := by
  have hu := own_u_rng q
  have hl := own_lc_rng q
  have hw := own_wt_rng q
  unfold own_ss own_sh own_fr
  simp only [own_lcm, own_wz hw.1, own_lz hl]
  generalize own_u q = u at *
  generalize own_lc q = k at *
  generalize own_wt q = z at *
  have z64 : (0 : Int64).toInt = 0 := by decide
  by_cases h1 : z.toInt = 0
  · rw [if_pos h1, if_pos h1, z64]; exact Or.inl ⟨by decide, by decide, own_dv0e _⟩
  rw [if_neg h1, if_neg h1]
  by_cases h2 : k = (0 : Int32)
  · rw [if_pos h2, if_pos h2, z64]
    have := FV.dv_mul (own_dv0e (-5)) (FV.dv_i2d z) (by rw [Int.zero_mul]; decide) (by decide) (by decide)
    rw [Int.zero_mul] at this
    exact Or.inl ⟨by decide, by decide, this⟩
  rw [if_neg h2, if_neg h2]
  obtain ⟨g, hg, hk⟩ := own_lim_pos hl h2
  by_cases h3 : u.toInt = 0
  · rw [if_pos h3, z64]
    have a1 : FV.DV 0 (g - 5) (FP.i2d u) := by have := FV.dv_i2d u; rw [h3] at this; exact FV.val_zero_any this
    have a2 := FV.dv_div (k := 0) a1 hg (by decide) (by decide) (by decide) (by omega) (by omega)
    rw [show g - 5 - g = -5 by omega] at a2
    have := FV.dv_mul a2 (FV.dv_i2d z) (by rw [Int.zero_mul]; decide) (by decide) (by decide)
    rw [Int.zero_mul] at this
    exact Or.inl ⟨by decide, by decide, this⟩
  rw [if_neg h3]
  rcases hk with ⟨hk, -⟩ | ⟨hk, rfl, hk1, hk2⟩
  · rw [if_pos hk, hk]
    exact Or.inr ⟨by decide, (own_inf_mul (own_inf_div (by omega)) (FV.dv_i2d z) (by omega)).1⟩
  · rw [if_neg hk]
    have a2 := FV.dv_div (k := u.toInt) (FV.dv_i2d u) hg (by decide) (by omega) (by omega) (by omega) (by omega)
    have b1 : 0 ≤ u.toInt * z.toInt := Int.mul_nonneg hu.1 hw.1
    have b2 : u.toInt * z.toInt ≤ 65535 * 7 := Int.mul_le_mul hu.2 hw.2 hw.1 (by decide)
    have a3 := FV.dv_mul a2 (FV.dv_i2d z) (by omega) (by omega) (by omega)
    have a4 := (FV.dv_shift (6 - k.toInt.toNat)).mp a3
    rw [show 0 - (k.toInt - 1) + 0 - ((6 - k.toInt.toNat : Nat) : Int) = -5 by omega] at a4
    have hp : (2 : Nat) ^ (6 - k.toInt.toNat) ≤ 2 ^ 5 := Nat.pow_le_pow_right (by decide) (by omega)
    have hs := (own_ltab' hk1 hk2).2
    have c1 : ((u).toInt64 * (z).toInt64).toInt = u.toInt * z.toInt := by
      rw [Jvm.FP.Core.int64_mul (by rw [Int32.toInt_toInt64, Int32.toInt_toInt64]; omega) (by rw [Int32.toInt_toInt64, Int32.toInt_toInt64]; omega), Int32.toInt_toInt64, Int32.toInt_toInt64]
    have hq0 : (0 : Int) ≤ ((2 ^ (6 - k.toInt.toNat) : Nat) : Int) := Int.natCast_nonneg _
    have hq1 : ((2 ^ (6 - k.toInt.toNat) : Nat) : Int) ≤ 32 := Int.ofNat_le.mpr hp
    have d1 : 0 ≤ u.toInt * z.toInt * ((2 ^ (6 - k.toInt.toNat) : Nat) : Int) := Int.mul_nonneg b1 hq0
    have d2 : u.toInt * z.toInt * ((2 ^ (6 - k.toInt.toNat) : Nat) : Int) ≤ 65535 * 7 * 32 := Int.mul_le_mul b2 hq1 hq0 (by decide)
    have c2 : (((u).toInt64 * (z).toInt64) * ((32 : Int64) >>> ((k - (1 : Int32)) &&& 0x3f).toInt64)).toInt = u.toInt * z.toInt * ((2 ^ (6 - k.toInt.toNat) : Nat) : Int) := by
      rw [Jvm.FP.Core.int64_mul (by rw [c1, hs]; omega) (by rw [c1, hs]; omega), c1, hs]
    rw [c2]
    exact Or.inl ⟨d1, by omega, a4⟩
theorem own_nn2 (q : Int32) (h : ¬ ((cmpValue (FP.dcmp (FP.i2d (own_wt q)) (0 : UInt64)) .l) = (0 : Int32))) : Jvm.Free.Fl.NoNaN64 (FP.dmul (own_fr (FP.i2d (own_u q)) (own_limv (own_lc q))) (FP.i2d (own_wt q))) := by
  have := own_R_nn (own_Rs q)
  unfold own_sh at this
  rw [if_neg h] at this
  exact this
theorem own_c100 : FV.DV 100 0 (4636737291354636288 : UInt64) := FV.dv_lit false 7036874417766400 (-46) (by decide +kernel) (by decide)
theorem own_c32 : FV.DV 1 5 (4629700416936869888 : UInt64) := FV.dv_lit false 4503599627370496 (-47) (by decide +kernel) (by decide)
theorem own_vinf : Jvm.FP.Core.val64 (9218868437227405312 : UInt64) = .inf false := by decide +kernel
theorem own_sc {s : Int} {m : UInt64} (h : own_R s m) : Jvm.Free.Fl.NoNaN64 (FP.dmul (4636737291354636288 : UInt64) m) := by
  rcases h with ⟨h1, h2, h3⟩ | ⟨h1, h2⟩
  · exact (FV.dv_mul own_c100 h3 (by omega) (by decide) (by decide)).nn
  · exact Jvm.Free.Fl.val64_no.mpr (by rw [(own_inf_mul h2 own_c100 (by decide)).2]; exact Jvm.FP.Core.Datum.noConfusion)
theorem own_infc {s : Int} {m : UInt64} (h : own_R s m) (hs : s < 0) : cmpValue (FP.dcmp (FP.dmul (4636737291354636288 : UInt64) m) (9218868437227405312 : UInt64)) .l = (0 : Int32) := by
  rcases h with ⟨h1, h2, h3⟩ | ⟨h1, h2⟩
  · omega
  · have e : FP.dcmp (FP.dmul (4636737291354636288 : UInt64) m) (9218868437227405312 : UInt64) = some .eq := by
      show Jvm.FP.Core.order (Jvm.FP.Core.val64 _) (Jvm.FP.Core.val64 _) = _
      rw [(own_inf_mul h2 own_c100 (by decide)).2, own_vinf]; rfl
    rw [e]; rfl
theorem own_maxI {x y : Int64} (hx : 0 ≤ x.toInt) (hy : 0 ≤ y.toInt) : (own_max x y).toInt = own_mx x.toInt y.toInt ∧ 0 ≤ (own_max x y).toInt := by
  unfold own_max own_mx
  rw [if_neg (show ¬ (x.toInt < 0 ∨ y.toInt < 0) by omega)]
  simp only [lw_lt, Int64.lt_iff_toInt_lt]
  by_cases h : x.toInt < y.toInt
  · rw [if_pos h, if_pos h]; exact ⟨rfl, hy⟩
  · rw [if_neg h, if_neg h]; exact ⟨rfl, hx⟩
theorem own_max4 {a b c d : Int64} (ha : 0 ≤ a.toInt) (hb : 0 ≤ b.toInt) (hc : 0 ≤ c.toInt) (hd : 0 ≤ d.toInt) : (own_max (own_max a b) (own_max c d)).toInt = own_mx (own_mx a.toInt b.toInt) (own_mx c.toInt d.toInt) ∧ 0 ≤ (own_max (own_max a b) (own_max c d)).toInt := by
  have h1 := own_maxI ha hb
  have h2 := own_maxI hc hd
  have h3 := own_maxI h1.2 h2.2
  rw [h1.1, h2.1] at h3
  exact h3
theorem own_tail {s : Int} {m : UInt64} {M : Int64} (h : own_R s m) (hM : M.toInt = s) (hs : 0 ≤ M.toInt) :
    Jvm.Free.Fl.NoNaN64 (FP.dmul (4636737291354636288 : UInt64) (FP.l2d M)) ∧ Jvm.Free.Fl.NoNaN64 (FP.ddiv (FP.dmul (4636737291354636288 : UInt64) (FP.l2d M)) (4629700416936869888 : UInt64)) ∧ cmpValue (FP.dcmp (FP.dmul (4636737291354636288 : UInt64) m) (FP.ddiv (FP.dmul (4636737291354636288 : UInt64) (FP.l2d M)) (4629700416936869888 : UInt64))) .l = (0 : Int32) := by
  rcases h with ⟨h1, h2, h3⟩ | ⟨h1, -⟩
  · have b1 := FV.dv_l2d (n := M) (by omega)
    rw [hM] at b1
    have b2 := FV.dv_mul own_c100 b1 (by omega) (by decide) (by decide)
    have b3 := FV.dv_div (k := 100 * s) b2 own_c32 (by decide) (by omega) (by omega) (by decide) (by decide)
    have b4 := FV.dv_mul own_c100 h3 (by omega) (by decide) (by decide)
    exact ⟨b2.nn, b3.nn, FV.cv_eq b4 b3 .l rfl⟩
  · omega
theorem own_neg {x : Int64} (h : (lcmpW x (0 : Int64)) < (0 : Int32)) : x.toInt < 0 := by
  rw [lw_lt, Int64.lt_iff_toInt_lt, show (0 : Int64).toInt = 0 by decide] at h; exact h
theorem own_pos {x : Int64} (h : ¬ ((lcmpW x (0 : Int64)) < (0 : Int32))) : 0 ≤ x.toInt := by
  rw [lw_lt, Int64.lt_iff_toInt_lt, show (0 : Int64).toInt = 0 by decide] at h; omega
theorem d1_0 : decode method_3_code 0 = .ok (.iload_n 0, 1) := by decide +kernel
theorem d1_1 : decode method_3_code 1 = .ok (.bipush 19, 2) := by decide +kernel
theorem d1_3 : decode method_3_code 3 = .ok (.iushr, 1) := by decide +kernel
theorem d1_4 : decode method_3_code 4 = .ok (.bipush 7, 2) := by decide +kernel
theorem d1_6 : decode method_3_code 6 = .ok (.iand, 1) := by decide +kernel
theorem d1_7 : decode method_3_code 7 = .ok (.i2d, 1) := by decide +kernel
theorem d1_8 : decode method_3_code 8 = .ok (.dreturn, 1) := by decide +kernel
theorem pn_1 : plainName "com/example/headroom/headroom/ResourceWeightsScorePinLaw" = true := by first | (simp [plainName, overriddenIn]; done) | decide +kernel
theorem ef_rm1 (m : MethodId) (x0 : Int32) : entryFrame m #[(.int x0)] 1 = mkF m 0 #[.val (.int x0)] [] := by first | (simp [entryFrame, mkF, argsToLocals, Value.category]; done) | rfl
def Q_rm1 (Z : State) (q : Int32) (h0 : Heap) (n0 : Nat) (rv : Option Value) (h : Heap) (L : List Loc) : Prop := rv = some (.double (FP.i2d (own_wt q))) ∧ Fr n0 L ∧ h = h0
set_option maxRecDepth 65536 in
set_option maxHeartbeats 40000000 in
theorem rm1 (l : Launch) (Z : State) (a0 : Array Value) (hw : ∀ d ∈ tables_1, d.before a0 Z = true) (ws : List Jvm.Cond) (q : Int32) (h0 : Heap) (n0 : Nat) (Z0 : n0 ≤ h0.size) :
    MetFree l (⟨"com/example/headroom/headroom/ResourceWeightsScorePinLaw", "weightOf", "(I)D"⟩ : MethodName) (head1 (Jvm.Cond.code (⟨"com/example/headroom/headroom/ResourceWeightsScorePinLaw", "weightOf", "(I)D"⟩ : MethodName) method_3_code 1 (some .double) :: ws) ({ frames := 0, cells := 0, slots := 0, locals := 0 } : Room)) (fun av U => av = #[(.int q)] ∧ Z.Warmed39 U.vm ∧ U.heap = h0) (fun _ _ _ _ _ => True) (fun _ U o U' => ∃ rv L, o = .returned rv ∧ Q_rm1 Z q h0 n0 rv U'.heap L ∧ FrameEnd U o U' L ({ frames := 0, cells := 0, slots := 0, locals := 0 } : Room).cells ({ frames := 0, cells := 0, slots := 0, locals := 0 } : Room).slots) := by
  refine MetFree.of_bodySF (plainFor_of_name pn_1) hisR ?_
  intro p e s m args below meth c s₁ Bd hml0 hP hK
  obtain ⟨rfl, hZ, hh⟩ := hP
  have hx := Bd.exec
  have hby := Bd.bytes
  have hml : c.maxLocals = 1 := hml0
  have hown : s.vm.findClass "com/example/headroom/headroom/ResourceWeightsScorePinLaw" = some m.cls := findClass_of_methodNamed Bd.named
  have hnm := (name_of_methodNamed Bd.named Bd.method).1
  have X0 : Stand p l e ({ frames := 0, cells := 0, slots := 0, locals := 0 } : Room) s m #[(.int q)] below meth c s₁ [] 0 0 := Stand.of_body Bd
  have e0 : s₁.heap = h0 := by rw [← hh, Bd.state]; rfl
  have N0 := Fr.nil n0
  have pre0 : ∀ t, Steps p.tables e below (s₁.setTop (mkF m 0 #[.val (.int q)] [])) t → Steps p.tables e below (s₁.setTop (entryFrame m #[(.int q)] 1)) t := fun t k => castTop (ef_rm1 m q) k
  have sg1 : ∀ target, Steps p.tables e below (s₁.setTop (mkF m 8 #[.val (.int q)] [(.double (FP.i2d (own_wt q)))])) target → Steps p.tables e below (s₁.setTop (mkF m 0 #[.val (.int q)] [])) target := by
    intro target kt
    show Steps p.tables e below (s₁.setTop (mkF m 0 #[.val (.int q)] [])) _
    refine XS.iloadN X0.here hx rfl (hb hby d1_0) rfl ?_
    show Steps p.tables e below (s₁.setTop (mkF m 1 #[.val (.int q)] [(.int q)])) _
    refine XS.bipush X0.here hx rfl (hb hby d1_1) ?_
    show Steps p.tables e below (s₁.setTop (mkF m 3 #[.val (.int q)] [(.int (19 : Int32)), (.int q)])) _
    refine XS.iushr X0.here hx rfl (hb hby d1_3) rfl ?_
    show Steps p.tables e below (s₁.setTop (mkF m 4 #[.val (.int q)] [(.int ((q).toUInt32 >>> ((19 : Int32) &&& 31).toUInt32).toInt32)])) _
    refine XS.bipush X0.here hx rfl (hb hby d1_4) ?_
    show Steps p.tables e below (s₁.setTop (mkF m 6 #[.val (.int q)] [(.int (7 : Int32)), (.int ((q).toUInt32 >>> ((19 : Int32) &&& 31).toUInt32).toInt32)])) _
    refine XS.iand X0.here hx rfl (hb hby d1_6) rfl ?_
    show Steps p.tables e below (s₁.setTop (mkF m 7 #[.val (.int q)] [(.int (own_wt q))])) _
    refine XS.i2dS X0.here hx rfl (v := (FP.i2d (own_wt q))) (hb hby d1_7) rfl rfl ?_
    exact kt
  obtain ⟨fs, hr, hrun, hended, hW, hsame⟩ := X0.leave (v := some (.double (FP.i2d (own_wt q)))) (fun h => by rw [Bd.returns] at h; cases h)
  refine ⟨_, _, pre0 _ ?_, hrun, hended, _, _, rfl, ?_, ⟨_, rfl⟩, hW, hsame.mono (by decide) (by decide)⟩
  · show Steps p.tables e below (s₁.setTop (mkF m 0 #[.val (.int q)] [])) _
    refine sg1 _ ?_
    show Steps p.tables e below (s₁.setTop (mkF m 8 #[.val (.int q)] [(.double (FP.i2d (own_wt q)))])) _
    exact retOut X0 hx Bd.returns rfl (Or.inr (Or.inr (Or.inl ⟨rfl, rfl, _, rfl⟩))) (hb hby d1_8) hr
  · show Q_rm1 Z q h0 n0 _ s₁.heap _
    rw [e0]
    exact ⟨rfl, N0, rfl⟩
theorem d9_0 : decode method_2_code 0 = .ok (.iload_n 0, 1) := by decide +kernel
theorem d9_1 : decode method_2_code 1 = .ok (.bipush 16, 2) := by decide +kernel
theorem d9_3 : decode method_2_code 3 = .ok (.iushr, 1) := by decide +kernel
theorem d9_4 : decode method_2_code 4 = .ok (.bipush 7, 2) := by decide +kernel
theorem d9_6 : decode method_2_code 6 = .ok (.iand, 1) := by decide +kernel
theorem d9_7 : decode method_2_code 7 = .ok (.istore_n 1, 1) := by decide +kernel
theorem d9_8 : decode method_2_code 8 = .ok (.iload_n 1, 1) := by decide +kernel
theorem d9_9 : decode method_2_code 9 = .ok (.ifCond .ne 5, 3) := by decide +kernel
theorem d9_12 : decode method_2_code 12 = .ok (.dconst 0, 1) := by decide +kernel
theorem d9_13 : decode method_2_code 13 = .ok (.dreturn, 1) := by decide +kernel
theorem d9_14 : decode method_2_code 14 = .ok (.iload_n 1, 1) := by decide +kernel
theorem d9_15 : decode method_2_code 15 = .ok (.bipush 7, 2) := by decide +kernel
theorem d9_17 : decode method_2_code 17 = .ok (.if_icmp .ne 7, 3) := by decide +kernel
theorem d9_24 : decode method_2_code 24 = .ok (.iconst 1, 1) := by decide +kernel
theorem d9_25 : decode method_2_code 25 = .ok (.iload_n 1, 1) := by decide +kernel
theorem d9_26 : decode method_2_code 26 = .ok (.iconst 1, 1) := by decide +kernel
theorem d9_27 : decode method_2_code 27 = .ok (.isub, 1) := by decide +kernel
theorem d9_28 : decode method_2_code 28 = .ok (.ishl, 1) := by decide +kernel
theorem d9_29 : decode method_2_code 29 = .ok (.i2d, 1) := by decide +kernel
theorem d9_30 : decode method_2_code 30 = .ok (.dreturn, 1) := by decide +kernel
theorem d9_20 : decode method_2_code 20 = .ok (.ldc2_w 9, 3) := by decide +kernel
theorem d9_23 : decode method_2_code 23 = .ok (.dreturn, 1) := by decide +kernel
theorem pn_9 : plainName "com/example/headroom/headroom/ResourceWeightsScorePinLaw" = true := by first | (simp [plainName, overriddenIn]; done) | decide +kernel
theorem ef_rm9 (m : MethodId) (x0 : Int32) : entryFrame m #[(.int x0)] 2 = mkF m 0 #[.val (.int x0), .unset] [] := by first | (simp [entryFrame, mkF, argsToLocals, Value.category]; done) | rfl
def Q_rm9 (Z : State) (q : Int32) (h0 : Heap) (n0 : Nat) (rv : Option Value) (h : Heap) (L : List Loc) : Prop := rv = some (.double (own_limv (own_lc q))) ∧ Fr n0 L ∧ h = h0
set_option maxRecDepth 65536 in
set_option maxHeartbeats 40000000 in
theorem rm9 (l : Launch) (Z : State) (a0 : Array Value) (hw : ∀ d ∈ tables_1, d.before a0 Z = true) (ws : List Jvm.Cond) (q : Int32) (h0 : Heap) (n0 : Nat) (Z0 : n0 ≤ h0.size) :
    MetFree l (⟨"com/example/headroom/headroom/ResourceWeightsScorePinLaw", "limitOf", "(I)D"⟩ : MethodName) (head1 (Jvm.Cond.code (⟨"com/example/headroom/headroom/ResourceWeightsScorePinLaw", "limitOf", "(I)D"⟩ : MethodName) method_2_code 2 (some .double) :: ws) ({ frames := 0, cells := 0, slots := 0, locals := 0 } : Room)) (fun av U => av = #[(.int q)] ∧ Z.Warmed39 U.vm ∧ U.heap = h0) (fun _ _ _ _ _ => True) (fun _ U o U' => ∃ rv L, o = .returned rv ∧ Q_rm9 Z q h0 n0 rv U'.heap L ∧ FrameEnd U o U' L ({ frames := 0, cells := 0, slots := 0, locals := 0 } : Room).cells ({ frames := 0, cells := 0, slots := 0, locals := 0 } : Room).slots) := by
  refine MetFree.of_bodySF (plainFor_of_name pn_9) hisR ?_
  intro p e s m args below meth c s₁ Bd hml0 hP hK
  obtain ⟨rfl, hZ, hh⟩ := hP
  have hx := Bd.exec
  have hby := Bd.bytes
  have hml : c.maxLocals = 2 := hml0
  have hown : s.vm.findClass "com/example/headroom/headroom/ResourceWeightsScorePinLaw" = some m.cls := findClass_of_methodNamed Bd.named
  have hnm := (name_of_methodNamed Bd.named Bd.method).1
  have X0 : Stand p l e ({ frames := 0, cells := 0, slots := 0, locals := 0 } : Room) s m #[(.int q)] below meth c s₁ [] 0 0 := Stand.of_body Bd
  have e0 : s₁.heap = h0 := by rw [← hh, Bd.state]; rfl
  have N0 := Fr.nil n0
  have pre0 : ∀ t, Steps p.tables e below (s₁.setTop (mkF m 0 #[.val (.int q), .unset] [])) t → Steps p.tables e below (s₁.setTop (entryFrame m #[(.int q)] 2)) t := fun t k => castTop (ef_rm9 m q) k
  have sg1 : ∀ target, Steps p.tables e below (s₁.setTop (mkF m 9 #[.val (.int q), .val (.int (own_lc q))] [(.int (own_lc q))])) target → Steps p.tables e below (s₁.setTop (mkF m 0 #[.val (.int q), .unset] [])) target := by
    intro target kt
    show Steps p.tables e below (s₁.setTop (mkF m 0 #[.val (.int q), .unset] [])) _
    refine XS.iloadN X0.here hx rfl (hb hby d9_0) rfl ?_
    show Steps p.tables e below (s₁.setTop (mkF m 1 #[.val (.int q), .unset] [(.int q)])) _
    refine XS.bipush X0.here hx rfl (hb hby d9_1) ?_
    show Steps p.tables e below (s₁.setTop (mkF m 3 #[.val (.int q), .unset] [(.int (16 : Int32)), (.int q)])) _
    refine XS.iushr X0.here hx rfl (hb hby d9_3) rfl ?_
    show Steps p.tables e below (s₁.setTop (mkF m 4 #[.val (.int q), .unset] [(.int ((q).toUInt32 >>> ((16 : Int32) &&& 31).toUInt32).toInt32)])) _
    refine XS.bipush X0.here hx rfl (hb hby d9_4) ?_
    show Steps p.tables e below (s₁.setTop (mkF m 6 #[.val (.int q), .unset] [(.int (7 : Int32)), (.int ((q).toUInt32 >>> ((16 : Int32) &&& 31).toUInt32).toInt32)])) _
    refine XS.iand X0.here hx rfl (hb hby d9_6) rfl ?_
    show Steps p.tables e below (s₁.setTop (mkF m 7 #[.val (.int q), .unset] [(.int (own_lc q))])) _
    refine XS.istoreN X0.here hx rfl (hb hby d9_7) rfl (l' := #[.val (.int q), .val (.int (own_lc q))]) rfl ?_
    show Steps p.tables e below (s₁.setTop (mkF m 8 #[.val (.int q), .val (.int (own_lc q))] [])) _
    refine XS.iloadN X0.here hx rfl (hb hby d9_8) rfl ?_
    exact kt
  by_cases h1 : (own_lc q) = (0 : Int32)
  · have sg2 : ∀ target, Steps p.tables e below (s₁.setTop (mkF m 13 #[.val (.int q), .val (.int (own_lc q))] [(.double (0 : UInt64))])) target → Steps p.tables e below (s₁.setTop (mkF m 9 #[.val (.int q), .val (.int (own_lc q))] [(.int (own_lc q))])) target := by
      intro target kt
      show Steps p.tables e below (s₁.setTop (mkF m 9 #[.val (.int q), .val (.int (own_lc q))] [(.int (own_lc q))])) _
      refine XS.ifNo X0.here hx rfl (hb hby d9_9) rfl ((if0 _ _).trans (teq (h1 : (own_lc q) = (0 : Int32))).2) ?_
      show Steps p.tables e below (s₁.setTop (mkF m 12 #[.val (.int q), .val (.int (own_lc q))] [])) _
      refine XS.dconst0 X0.here hx rfl (v := (0 : UInt64)) (hb hby d9_12) rfl ?_
      exact kt
    obtain ⟨fs, hr, hrun, hended, hW, hsame⟩ := X0.leave (v := some (.double (0 : UInt64))) (fun h => by rw [Bd.returns] at h; cases h)
    refine ⟨_, _, pre0 _ ?_, hrun, hended, _, _, rfl, ?_, ⟨_, rfl⟩, hW, hsame.mono (by decide) (by decide)⟩
    · show Steps p.tables e below (s₁.setTop (mkF m 0 #[.val (.int q), .unset] [])) _
      refine sg1 _ ?_
      refine sg2 _ ?_
      show Steps p.tables e below (s₁.setTop (mkF m 13 #[.val (.int q), .val (.int (own_lc q))] [(.double (0 : UInt64))])) _
      exact retOut X0 hx Bd.returns rfl (Or.inr (Or.inr (Or.inl ⟨rfl, rfl, _, rfl⟩))) (hb hby d9_13) hr
    · show Q_rm9 Z q h0 n0 _ s₁.heap _
      rw [e0]
      exact ⟨(by unfold own_limv; rw [if_pos h1]), N0, rfl⟩
  · have sg3 : ∀ target, Steps p.tables e below (s₁.setTop (mkF m 17 #[.val (.int q), .val (.int (own_lc q))] [(.int (7 : Int32)), (.int (own_lc q))])) target → Steps p.tables e below (s₁.setTop (mkF m 9 #[.val (.int q), .val (.int (own_lc q))] [(.int (own_lc q))])) target := by
      intro target kt
      show Steps p.tables e below (s₁.setTop (mkF m 9 #[.val (.int q), .val (.int (own_lc q))] [(.int (own_lc q))])) _
      refine XS.ifYes X0.here hx rfl (pc0 := 9) (pc' := 14) rfl (hb hby d9_9) rfl ((if0 _ _).trans (feq (h1 : ¬ ((own_lc q) = (0 : Int32)))).2) (by decide) (by decide) ?_
      show Steps p.tables e below (s₁.setTop (mkF m 14 #[.val (.int q), .val (.int (own_lc q))] [])) _
      refine XS.iloadN X0.here hx rfl (hb hby d9_14) rfl ?_
      show Steps p.tables e below (s₁.setTop (mkF m 15 #[.val (.int q), .val (.int (own_lc q))] [(.int (own_lc q))])) _
      refine XS.bipush X0.here hx rfl (hb hby d9_15) ?_
      exact kt
    by_cases h2 : (own_lc q) = (7 : Int32)
    · have sg5 : ∀ target, Steps p.tables e below (s₁.setTop (mkF m 23 #[.val (.int q), .val (.int (own_lc q))] [(.double (1 : UInt64))])) target → Steps p.tables e below (s₁.setTop (mkF m 17 #[.val (.int q), .val (.int (own_lc q))] [(.int (7 : Int32)), (.int (own_lc q))])) target := by
        intro target kt
        show Steps p.tables e below (s₁.setTop (mkF m 17 #[.val (.int q), .val (.int (own_lc q))] [(.int (7 : Int32)), (.int (own_lc q))])) _
        refine XS.icmpNo X0.here hx rfl (hb hby d9_17) rfl (teq (h2 : (own_lc q) = (7 : Int32))).2 ?_
        show Steps p.tables e below (s₁.setTop (mkF m 20 #[.val (.int q), .val (.int (own_lc q))] [])) _
        refine X0.ldc2DoubleC hx hown (mvT hZ (hw _ (List.mem_of_getElem? (i := 136) rfl))) (g := (mkF m 20 #[.val (.int q), .val (.int (own_lc q))] [])) rfl (hb hby d9_20) _ ?_
        exact kt
      obtain ⟨fs, hr, hrun, hended, hW, hsame⟩ := X0.leave (v := some (.double (1 : UInt64))) (fun h => by rw [Bd.returns] at h; cases h)
      refine ⟨_, _, pre0 _ ?_, hrun, hended, _, _, rfl, ?_, ⟨_, rfl⟩, hW, hsame.mono (by decide) (by decide)⟩
      · show Steps p.tables e below (s₁.setTop (mkF m 0 #[.val (.int q), .unset] [])) _
        refine sg1 _ ?_
        refine sg3 _ ?_
        refine sg5 _ ?_
        show Steps p.tables e below (s₁.setTop (mkF m 23 #[.val (.int q), .val (.int (own_lc q))] [(.double (1 : UInt64))])) _
        exact retOut X0 hx Bd.returns rfl (Or.inr (Or.inr (Or.inl ⟨rfl, rfl, _, rfl⟩))) (hb hby d9_23) hr
      · show Q_rm9 Z q h0 n0 _ s₁.heap _
        rw [e0]
        exact ⟨(by unfold own_limv; rw [if_neg h1, if_pos h2]), N0, rfl⟩
    · have sg4 : ∀ target, Steps p.tables e below (s₁.setTop (mkF m 30 #[.val (.int q), .val (.int (own_lc q))] [(.double (FP.i2d ((1 : Int32) <<< (((own_lc q) - (1 : Int32)) &&& 31))))])) target → Steps p.tables e below (s₁.setTop (mkF m 17 #[.val (.int q), .val (.int (own_lc q))] [(.int (7 : Int32)), (.int (own_lc q))])) target := by
        intro target kt
        show Steps p.tables e below (s₁.setTop (mkF m 17 #[.val (.int q), .val (.int (own_lc q))] [(.int (7 : Int32)), (.int (own_lc q))])) _
        refine XS.icmpYes X0.here hx rfl (pc0 := 17) (pc' := 24) rfl (hb hby d9_17) rfl (feq (h2 : ¬ ((own_lc q) = (7 : Int32)))).2 (by decide) (by decide) ?_
        show Steps p.tables e below (s₁.setTop (mkF m 24 #[.val (.int q), .val (.int (own_lc q))] [])) _
        refine XS.iconst X0.here hx rfl (hb hby d9_24) ?_
        show Steps p.tables e below (s₁.setTop (mkF m 25 #[.val (.int q), .val (.int (own_lc q))] [(.int (1 : Int32))])) _
        refine XS.iloadN X0.here hx rfl (hb hby d9_25) rfl ?_
        show Steps p.tables e below (s₁.setTop (mkF m 26 #[.val (.int q), .val (.int (own_lc q))] [(.int (own_lc q)), (.int (1 : Int32))])) _
        refine XS.iconst X0.here hx rfl (hb hby d9_26) ?_
        show Steps p.tables e below (s₁.setTop (mkF m 27 #[.val (.int q), .val (.int (own_lc q))] [(.int (1 : Int32)), (.int (own_lc q)), (.int (1 : Int32))])) _
        refine XS.isub X0.here hx rfl (hb hby d9_27) rfl ?_
        show Steps p.tables e below (s₁.setTop (mkF m 28 #[.val (.int q), .val (.int (own_lc q))] [(.int ((own_lc q) - (1 : Int32))), (.int (1 : Int32))])) _
        refine XS.ishl X0.here hx rfl (hb hby d9_28) rfl ?_
        show Steps p.tables e below (s₁.setTop (mkF m 29 #[.val (.int q), .val (.int (own_lc q))] [(.int ((1 : Int32) <<< (((own_lc q) - (1 : Int32)) &&& 31)))])) _
        refine XS.i2dS X0.here hx rfl (v := (FP.i2d ((1 : Int32) <<< (((own_lc q) - (1 : Int32)) &&& 31)))) (hb hby d9_29) rfl rfl ?_
        exact kt
      obtain ⟨fs, hr, hrun, hended, hW, hsame⟩ := X0.leave (v := some (.double (FP.i2d ((1 : Int32) <<< (((own_lc q) - (1 : Int32)) &&& 31))))) (fun h => by rw [Bd.returns] at h; cases h)
      refine ⟨_, _, pre0 _ ?_, hrun, hended, _, _, rfl, ?_, ⟨_, rfl⟩, hW, hsame.mono (by decide) (by decide)⟩
      · show Steps p.tables e below (s₁.setTop (mkF m 0 #[.val (.int q), .unset] [])) _
        refine sg1 _ ?_
        refine sg3 _ ?_
        refine sg4 _ ?_
        show Steps p.tables e below (s₁.setTop (mkF m 30 #[.val (.int q), .val (.int (own_lc q))] [(.double (FP.i2d ((1 : Int32) <<< (((own_lc q) - (1 : Int32)) &&& 31))))])) _
        exact retOut X0 hx Bd.returns rfl (Or.inr (Or.inr (Or.inl ⟨rfl, rfl, _, rfl⟩))) (hb hby d9_30) hr
      · show Q_rm9 Z q h0 n0 _ s₁.heap _
        rw [e0]
        exact ⟨(by unfold own_limv; rw [if_neg h1, if_neg h2]), N0, rfl⟩
theorem d20_0 : decode method_5_code 0 = .ok (.iload_n 0, 1) := by decide +kernel
theorem d20_1 : decode method_5_code 1 = .ok (.ldc 13, 2) := by decide +kernel
theorem d20_3 : decode method_5_code 3 = .ok (.iand, 1) := by decide +kernel
theorem d20_4 : decode method_5_code 4 = .ok (.i2l, 1) := by decide +kernel
theorem d20_5 : decode method_5_code 5 = .ok (.lstore_n 1, 1) := by decide +kernel
theorem d20_6 : decode method_5_code 6 = .ok (.iload_n 0, 1) := by decide +kernel
theorem d20_7 : decode method_5_code 7 = .ok (.bipush 16, 2) := by decide +kernel
theorem d20_9 : decode method_5_code 9 = .ok (.iushr, 1) := by decide +kernel
theorem d20_10 : decode method_5_code 10 = .ok (.bipush 7, 2) := by decide +kernel
theorem d20_12 : decode method_5_code 12 = .ok (.iand, 1) := by decide +kernel
theorem d20_13 : decode method_5_code 13 = .ok (.istore_n 3, 1) := by decide +kernel
theorem d20_14 : decode method_5_code 14 = .ok (.iload_n 0, 1) := by decide +kernel
theorem d20_15 : decode method_5_code 15 = .ok (.bipush 19, 2) := by decide +kernel
theorem d20_17 : decode method_5_code 17 = .ok (.iushr, 1) := by decide +kernel
theorem d20_18 : decode method_5_code 18 = .ok (.bipush 7, 2) := by decide +kernel
theorem d20_20 : decode method_5_code 20 = .ok (.iand, 1) := by decide +kernel
theorem d20_21 : decode method_5_code 21 = .ok (.i2l, 1) := by decide +kernel
theorem d20_22 : decode method_5_code 22 = .ok (.lstore 4, 2) := by decide +kernel
theorem d20_24 : decode method_5_code 24 = .ok (.lload 4, 2) := by decide +kernel
theorem d20_26 : decode method_5_code 26 = .ok (.lconst 0, 1) := by decide +kernel
theorem d20_27 : decode method_5_code 27 = .ok (.lcmp, 1) := by decide +kernel
theorem d20_28 : decode method_5_code 28 = .ok (.ifCond .eq 13, 3) := by decide +kernel
theorem d20_41 : decode method_5_code 41 = .ok (.lconst 0, 1) := by decide +kernel
theorem d20_42 : decode method_5_code 42 = .ok (.lreturn, 1) := by decide +kernel
theorem d20_31 : decode method_5_code 31 = .ok (.iload_n 3, 1) := by decide +kernel
theorem d20_32 : decode method_5_code 32 = .ok (.ifCond .eq 9, 3) := by decide +kernel
theorem d20_35 : decode method_5_code 35 = .ok (.lload_n 1, 1) := by decide +kernel
theorem d20_36 : decode method_5_code 36 = .ok (.lconst 0, 1) := by decide +kernel
theorem d20_37 : decode method_5_code 37 = .ok (.lcmp, 1) := by decide +kernel
theorem d20_38 : decode method_5_code 38 = .ok (.ifCond .ne 5, 3) := by decide +kernel
theorem d20_43 : decode method_5_code 43 = .ok (.iload_n 3, 1) := by decide +kernel
theorem d20_44 : decode method_5_code 44 = .ok (.bipush 7, 2) := by decide +kernel
theorem d20_46 : decode method_5_code 46 = .ok (.if_icmp .ne 7, 3) := by decide +kernel
theorem d20_53 : decode method_5_code 53 = .ok (.lload_n 1, 1) := by decide +kernel
theorem d20_54 : decode method_5_code 54 = .ok (.lload 4, 2) := by decide +kernel
theorem d20_56 : decode method_5_code 56 = .ok (.lmul, 1) := by decide +kernel
theorem d20_57 : decode method_5_code 57 = .ok (.ldc2_w 25, 3) := by decide +kernel
theorem d20_60 : decode method_5_code 60 = .ok (.iload_n 3, 1) := by decide +kernel
theorem d20_61 : decode method_5_code 61 = .ok (.iconst 1, 1) := by decide +kernel
theorem d20_62 : decode method_5_code 62 = .ok (.isub, 1) := by decide +kernel
theorem d20_63 : decode method_5_code 63 = .ok (.lshr, 1) := by decide +kernel
theorem d20_64 : decode method_5_code 64 = .ok (.lmul, 1) := by decide +kernel
theorem d20_65 : decode method_5_code 65 = .ok (.lreturn, 1) := by decide +kernel
theorem d20_49 : decode method_5_code 49 = .ok (.ldc2_w 23, 3) := by decide +kernel
theorem d20_52 : decode method_5_code 52 = .ok (.lreturn, 1) := by decide +kernel
theorem pn_20 : plainName "com/example/headroom/headroom/ResourceWeightsScorePinLaw" = true := by first | (simp [plainName, overriddenIn]; done) | decide +kernel
theorem ef_rm20 (m : MethodId) (x0 : Int32) : entryFrame m #[(.int x0)] 6 = mkF m 0 #[.val (.int x0), .unset, .unset, .unset, .unset, .unset] [] := by first | (simp [entryFrame, mkF, argsToLocals, Value.category]; done) | rfl
def Q_rm20 (Z : State) (q : Int32) (h0 : Heap) (n0 : Nat) (rv : Option Value) (h : Heap) (L : List Loc) : Prop := rv = some (.long (own_ss q)) ∧ Fr n0 L ∧ h = h0
set_option maxRecDepth 65536 in
set_option maxHeartbeats 40000000 in
theorem rm20 (l : Launch) (Z : State) (a0 : Array Value) (hw : ∀ d ∈ tables_1, d.before a0 Z = true) (ws : List Jvm.Cond) (q : Int32) (h0 : Heap) (n0 : Nat) (Z0 : n0 ≤ h0.size) :
    MetFree l (⟨"com/example/headroom/headroom/ResourceWeightsScorePinLaw", "scaledShare", "(I)J"⟩ : MethodName) (head1 (Jvm.Cond.code (⟨"com/example/headroom/headroom/ResourceWeightsScorePinLaw", "scaledShare", "(I)J"⟩ : MethodName) method_5_code 6 (some .long) :: ws) ({ frames := 0, cells := 0, slots := 0, locals := 0 } : Room)) (fun av U => av = #[(.int q)] ∧ Z.Warmed39 U.vm ∧ U.heap = h0) (fun _ _ _ _ _ => True) (fun _ U o U' => ∃ rv L, o = .returned rv ∧ Q_rm20 Z q h0 n0 rv U'.heap L ∧ FrameEnd U o U' L ({ frames := 0, cells := 0, slots := 0, locals := 0 } : Room).cells ({ frames := 0, cells := 0, slots := 0, locals := 0 } : Room).slots) := by
  refine MetFree.of_bodySF (plainFor_of_name pn_20) hisR ?_
  intro p e s m args below meth c s₁ Bd hml0 hP hK
  obtain ⟨rfl, hZ, hh⟩ := hP
  have hx := Bd.exec
  have hby := Bd.bytes
  have hml : c.maxLocals = 6 := hml0
  have hown : s.vm.findClass "com/example/headroom/headroom/ResourceWeightsScorePinLaw" = some m.cls := findClass_of_methodNamed Bd.named
  have hnm := (name_of_methodNamed Bd.named Bd.method).1
  have X0 : Stand p l e ({ frames := 0, cells := 0, slots := 0, locals := 0 } : Room) s m #[(.int q)] below meth c s₁ [] 0 0 := Stand.of_body Bd
  have e0 : s₁.heap = h0 := by rw [← hh, Bd.state]; rfl
  have N0 := Fr.nil n0
  have pre0 : ∀ t, Steps p.tables e below (s₁.setTop (mkF m 0 #[.val (.int q), .unset, .unset, .unset, .unset, .unset] [])) t → Steps p.tables e below (s₁.setTop (entryFrame m #[(.int q)] 6)) t := fun t k => castTop (ef_rm20 m q) k
  have sg1 : ∀ target, Steps p.tables e below (s₁.setTop (mkF m 28 #[.val (.int q), .val (.long ((own_u q)).toInt64), .second, .val (.int (own_lc q)), .val (.long ((own_wt q)).toInt64), .second] [(.int (lcmpW ((own_wt q)).toInt64 (0 : Int64)))])) target → Steps p.tables e below (s₁.setTop (mkF m 0 #[.val (.int q), .unset, .unset, .unset, .unset, .unset] [])) target := by
    intro target kt
    show Steps p.tables e below (s₁.setTop (mkF m 0 #[.val (.int q), .unset, .unset, .unset, .unset, .unset] [])) _
    refine XS.iloadN X0.here hx rfl (hb hby d20_0) rfl ?_
    show Steps p.tables e below (s₁.setTop (mkF m 1 #[.val (.int q), .unset, .unset, .unset, .unset, .unset] [(.int q)])) _
    refine X0.ldcInt hx hown (mvT hZ (hw _ (List.mem_of_getElem? (i := 59) rfl))) (g := (mkF m 1 #[.val (.int q), .unset, .unset, .unset, .unset, .unset] [(.int q)])) rfl (hb hby d20_1) _ ?_
    show Steps p.tables e below (s₁.setTop (mkF m 3 #[.val (.int q), .unset, .unset, .unset, .unset, .unset] [(.int (65535 : Int32)), (.int q)])) _
    refine XS.iand X0.here hx rfl (hb hby d20_3) rfl ?_
    show Steps p.tables e below (s₁.setTop (mkF m 4 #[.val (.int q), .unset, .unset, .unset, .unset, .unset] [(.int (own_u q))])) _
    refine XS.i2l X0.here hx rfl (hb hby d20_4) rfl ?_
    show Steps p.tables e below (s₁.setTop (mkF m 5 #[.val (.int q), .unset, .unset, .unset, .unset, .unset] [(.long ((own_u q)).toInt64)])) _
    refine XS.lstoreN X0.here hx rfl (hb hby d20_5) rfl (l' := #[.val (.int q), .val (.long ((own_u q)).toInt64), .second, .unset, .unset, .unset]) rfl ?_
    show Steps p.tables e below (s₁.setTop (mkF m 6 #[.val (.int q), .val (.long ((own_u q)).toInt64), .second, .unset, .unset, .unset] [])) _
    refine XS.iloadN X0.here hx rfl (hb hby d20_6) rfl ?_
    show Steps p.tables e below (s₁.setTop (mkF m 7 #[.val (.int q), .val (.long ((own_u q)).toInt64), .second, .unset, .unset, .unset] [(.int q)])) _
    refine XS.bipush X0.here hx rfl (hb hby d20_7) ?_
    show Steps p.tables e below (s₁.setTop (mkF m 9 #[.val (.int q), .val (.long ((own_u q)).toInt64), .second, .unset, .unset, .unset] [(.int (16 : Int32)), (.int q)])) _
    refine XS.iushr X0.here hx rfl (hb hby d20_9) rfl ?_
    show Steps p.tables e below (s₁.setTop (mkF m 10 #[.val (.int q), .val (.long ((own_u q)).toInt64), .second, .unset, .unset, .unset] [(.int ((q).toUInt32 >>> ((16 : Int32) &&& 31).toUInt32).toInt32)])) _
    refine XS.bipush X0.here hx rfl (hb hby d20_10) ?_
    show Steps p.tables e below (s₁.setTop (mkF m 12 #[.val (.int q), .val (.long ((own_u q)).toInt64), .second, .unset, .unset, .unset] [(.int (7 : Int32)), (.int ((q).toUInt32 >>> ((16 : Int32) &&& 31).toUInt32).toInt32)])) _
    refine XS.iand X0.here hx rfl (hb hby d20_12) rfl ?_
    show Steps p.tables e below (s₁.setTop (mkF m 13 #[.val (.int q), .val (.long ((own_u q)).toInt64), .second, .unset, .unset, .unset] [(.int (own_lc q))])) _
    refine XS.istoreN X0.here hx rfl (hb hby d20_13) rfl (l' := #[.val (.int q), .val (.long ((own_u q)).toInt64), .second, .val (.int (own_lc q)), .unset, .unset]) rfl ?_
    show Steps p.tables e below (s₁.setTop (mkF m 14 #[.val (.int q), .val (.long ((own_u q)).toInt64), .second, .val (.int (own_lc q)), .unset, .unset] [])) _
    refine XS.iloadN X0.here hx rfl (hb hby d20_14) rfl ?_
    show Steps p.tables e below (s₁.setTop (mkF m 15 #[.val (.int q), .val (.long ((own_u q)).toInt64), .second, .val (.int (own_lc q)), .unset, .unset] [(.int q)])) _
    refine XS.bipush X0.here hx rfl (hb hby d20_15) ?_
    show Steps p.tables e below (s₁.setTop (mkF m 17 #[.val (.int q), .val (.long ((own_u q)).toInt64), .second, .val (.int (own_lc q)), .unset, .unset] [(.int (19 : Int32)), (.int q)])) _
    refine XS.iushr X0.here hx rfl (hb hby d20_17) rfl ?_
    show Steps p.tables e below (s₁.setTop (mkF m 18 #[.val (.int q), .val (.long ((own_u q)).toInt64), .second, .val (.int (own_lc q)), .unset, .unset] [(.int ((q).toUInt32 >>> ((19 : Int32) &&& 31).toUInt32).toInt32)])) _
    refine XS.bipush X0.here hx rfl (hb hby d20_18) ?_
    show Steps p.tables e below (s₁.setTop (mkF m 20 #[.val (.int q), .val (.long ((own_u q)).toInt64), .second, .val (.int (own_lc q)), .unset, .unset] [(.int (7 : Int32)), (.int ((q).toUInt32 >>> ((19 : Int32) &&& 31).toUInt32).toInt32)])) _
    refine XS.iand X0.here hx rfl (hb hby d20_20) rfl ?_
    show Steps p.tables e below (s₁.setTop (mkF m 21 #[.val (.int q), .val (.long ((own_u q)).toInt64), .second, .val (.int (own_lc q)), .unset, .unset] [(.int (own_wt q))])) _
    refine XS.i2l X0.here hx rfl (hb hby d20_21) rfl ?_
    show Steps p.tables e below (s₁.setTop (mkF m 22 #[.val (.int q), .val (.long ((own_u q)).toInt64), .second, .val (.int (own_lc q)), .unset, .unset] [(.long ((own_wt q)).toInt64)])) _
    refine XS.lstore X0.here hx rfl (hb hby d20_22) rfl (l' := #[.val (.int q), .val (.long ((own_u q)).toInt64), .second, .val (.int (own_lc q)), .val (.long ((own_wt q)).toInt64), .second]) rfl ?_
    show Steps p.tables e below (s₁.setTop (mkF m 24 #[.val (.int q), .val (.long ((own_u q)).toInt64), .second, .val (.int (own_lc q)), .val (.long ((own_wt q)).toInt64), .second] [])) _
    refine XS.lload X0.here hx rfl (hb hby d20_24) rfl ?_
    show Steps p.tables e below (s₁.setTop (mkF m 26 #[.val (.int q), .val (.long ((own_u q)).toInt64), .second, .val (.int (own_lc q)), .val (.long ((own_wt q)).toInt64), .second] [(.long ((own_wt q)).toInt64)])) _
    refine XS.lconst X0.here hx rfl (hb hby d20_26) ?_
    show Steps p.tables e below (s₁.setTop (mkF m 27 #[.val (.int q), .val (.long ((own_u q)).toInt64), .second, .val (.int (own_lc q)), .val (.long ((own_wt q)).toInt64), .second] [(.long (0 : Int64)), (.long ((own_wt q)).toInt64)])) _
    refine XS.lcmp X0.here hx rfl (hb hby d20_27) rfl ?_
    exact kt
  by_cases h1 : (lcmpW ((own_wt q)).toInt64 (0 : Int64)) = (0 : Int32)
  · have sg2 : ∀ target, Steps p.tables e below (s₁.setTop (mkF m 42 #[.val (.int q), .val (.long ((own_u q)).toInt64), .second, .val (.int (own_lc q)), .val (.long ((own_wt q)).toInt64), .second] [(.long (0 : Int64))])) target → Steps p.tables e below (s₁.setTop (mkF m 28 #[.val (.int q), .val (.long ((own_u q)).toInt64), .second, .val (.int (own_lc q)), .val (.long ((own_wt q)).toInt64), .second] [(.int (lcmpW ((own_wt q)).toInt64 (0 : Int64)))])) target := by
      intro target kt
      show Steps p.tables e below (s₁.setTop (mkF m 28 #[.val (.int q), .val (.long ((own_u q)).toInt64), .second, .val (.int (own_lc q)), .val (.long ((own_wt q)).toInt64), .second] [(.int (lcmpW ((own_wt q)).toInt64 (0 : Int64)))])) _
      refine XS.ifYes X0.here hx rfl (pc0 := 28) (pc' := 41) rfl (hb hby d20_28) rfl ((if0 _ _).trans (teq (h1 : (lcmpW ((own_wt q)).toInt64 (0 : Int64)) = (0 : Int32))).1) (by decide) (by decide) ?_
      show Steps p.tables e below (s₁.setTop (mkF m 41 #[.val (.int q), .val (.long ((own_u q)).toInt64), .second, .val (.int (own_lc q)), .val (.long ((own_wt q)).toInt64), .second] [])) _
      refine XS.lconst X0.here hx rfl (hb hby d20_41) ?_
      exact kt
    obtain ⟨fs, hr, hrun, hended, hW, hsame⟩ := X0.leave (v := some (.long (0 : Int64))) (fun h => by rw [Bd.returns] at h; cases h)
    refine ⟨_, _, pre0 _ ?_, hrun, hended, _, _, rfl, ?_, ⟨_, rfl⟩, hW, hsame.mono (by decide) (by decide)⟩
    · show Steps p.tables e below (s₁.setTop (mkF m 0 #[.val (.int q), .unset, .unset, .unset, .unset, .unset] [])) _
      refine sg1 _ ?_
      refine sg2 _ ?_
      show Steps p.tables e below (s₁.setTop (mkF m 42 #[.val (.int q), .val (.long ((own_u q)).toInt64), .second, .val (.int (own_lc q)), .val (.long ((own_wt q)).toInt64), .second] [(.long (0 : Int64))])) _
      exact retOut X0 hx Bd.returns rfl (Or.inr (Or.inl ⟨rfl, rfl, _, rfl⟩)) (hb hby d20_42) hr
    · show Q_rm20 Z q h0 n0 _ s₁.heap _
      rw [e0]
      exact ⟨(by unfold own_ss; rw [if_pos h1]), N0, rfl⟩
  · have sg3 : ∀ target, Steps p.tables e below (s₁.setTop (mkF m 32 #[.val (.int q), .val (.long ((own_u q)).toInt64), .second, .val (.int (own_lc q)), .val (.long ((own_wt q)).toInt64), .second] [(.int (own_lc q))])) target → Steps p.tables e below (s₁.setTop (mkF m 28 #[.val (.int q), .val (.long ((own_u q)).toInt64), .second, .val (.int (own_lc q)), .val (.long ((own_wt q)).toInt64), .second] [(.int (lcmpW ((own_wt q)).toInt64 (0 : Int64)))])) target := by
      intro target kt
      show Steps p.tables e below (s₁.setTop (mkF m 28 #[.val (.int q), .val (.long ((own_u q)).toInt64), .second, .val (.int (own_lc q)), .val (.long ((own_wt q)).toInt64), .second] [(.int (lcmpW ((own_wt q)).toInt64 (0 : Int64)))])) _
      refine XS.ifNo X0.here hx rfl (hb hby d20_28) rfl ((if0 _ _).trans (feq (h1 : ¬ ((lcmpW ((own_wt q)).toInt64 (0 : Int64)) = (0 : Int32)))).1) ?_
      show Steps p.tables e below (s₁.setTop (mkF m 31 #[.val (.int q), .val (.long ((own_u q)).toInt64), .second, .val (.int (own_lc q)), .val (.long ((own_wt q)).toInt64), .second] [])) _
      refine XS.iloadN X0.here hx rfl (hb hby d20_31) rfl ?_
      exact kt
    by_cases h2 : (own_lc q) = (0 : Int32)
    · have sg4 : ∀ target, Steps p.tables e below (s₁.setTop (mkF m 42 #[.val (.int q), .val (.long ((own_u q)).toInt64), .second, .val (.int (own_lc q)), .val (.long ((own_wt q)).toInt64), .second] [(.long (0 : Int64))])) target → Steps p.tables e below (s₁.setTop (mkF m 32 #[.val (.int q), .val (.long ((own_u q)).toInt64), .second, .val (.int (own_lc q)), .val (.long ((own_wt q)).toInt64), .second] [(.int (own_lc q))])) target := by
        intro target kt
        show Steps p.tables e below (s₁.setTop (mkF m 32 #[.val (.int q), .val (.long ((own_u q)).toInt64), .second, .val (.int (own_lc q)), .val (.long ((own_wt q)).toInt64), .second] [(.int (own_lc q))])) _
        refine XS.ifYes X0.here hx rfl (pc0 := 32) (pc' := 41) rfl (hb hby d20_32) rfl ((if0 _ _).trans (teq (h2 : (own_lc q) = (0 : Int32))).1) (by decide) (by decide) ?_
        show Steps p.tables e below (s₁.setTop (mkF m 41 #[.val (.int q), .val (.long ((own_u q)).toInt64), .second, .val (.int (own_lc q)), .val (.long ((own_wt q)).toInt64), .second] [])) _
        refine XS.lconst X0.here hx rfl (hb hby d20_41) ?_
        exact kt
      obtain ⟨fs, hr, hrun, hended, hW, hsame⟩ := X0.leave (v := some (.long (0 : Int64))) (fun h => by rw [Bd.returns] at h; cases h)
      refine ⟨_, _, pre0 _ ?_, hrun, hended, _, _, rfl, ?_, ⟨_, rfl⟩, hW, hsame.mono (by decide) (by decide)⟩
      · show Steps p.tables e below (s₁.setTop (mkF m 0 #[.val (.int q), .unset, .unset, .unset, .unset, .unset] [])) _
        refine sg1 _ ?_
        refine sg3 _ ?_
        refine sg4 _ ?_
        show Steps p.tables e below (s₁.setTop (mkF m 42 #[.val (.int q), .val (.long ((own_u q)).toInt64), .second, .val (.int (own_lc q)), .val (.long ((own_wt q)).toInt64), .second] [(.long (0 : Int64))])) _
        exact retOut X0 hx Bd.returns rfl (Or.inr (Or.inl ⟨rfl, rfl, _, rfl⟩)) (hb hby d20_42) hr
      · show Q_rm20 Z q h0 n0 _ s₁.heap _
        rw [e0]
        exact ⟨(by unfold own_ss; rw [if_neg h1, if_pos h2]), N0, rfl⟩
    · have sg5 : ∀ target, Steps p.tables e below (s₁.setTop (mkF m 38 #[.val (.int q), .val (.long ((own_u q)).toInt64), .second, .val (.int (own_lc q)), .val (.long ((own_wt q)).toInt64), .second] [(.int (lcmpW ((own_u q)).toInt64 (0 : Int64)))])) target → Steps p.tables e below (s₁.setTop (mkF m 32 #[.val (.int q), .val (.long ((own_u q)).toInt64), .second, .val (.int (own_lc q)), .val (.long ((own_wt q)).toInt64), .second] [(.int (own_lc q))])) target := by
        intro target kt
        show Steps p.tables e below (s₁.setTop (mkF m 32 #[.val (.int q), .val (.long ((own_u q)).toInt64), .second, .val (.int (own_lc q)), .val (.long ((own_wt q)).toInt64), .second] [(.int (own_lc q))])) _
        refine XS.ifNo X0.here hx rfl (hb hby d20_32) rfl ((if0 _ _).trans (feq (h2 : ¬ ((own_lc q) = (0 : Int32)))).1) ?_
        show Steps p.tables e below (s₁.setTop (mkF m 35 #[.val (.int q), .val (.long ((own_u q)).toInt64), .second, .val (.int (own_lc q)), .val (.long ((own_wt q)).toInt64), .second] [])) _
        refine XS.lloadN X0.here hx rfl (hb hby d20_35) rfl ?_
        show Steps p.tables e below (s₁.setTop (mkF m 36 #[.val (.int q), .val (.long ((own_u q)).toInt64), .second, .val (.int (own_lc q)), .val (.long ((own_wt q)).toInt64), .second] [(.long ((own_u q)).toInt64)])) _
        refine XS.lconst X0.here hx rfl (hb hby d20_36) ?_
        show Steps p.tables e below (s₁.setTop (mkF m 37 #[.val (.int q), .val (.long ((own_u q)).toInt64), .second, .val (.int (own_lc q)), .val (.long ((own_wt q)).toInt64), .second] [(.long (0 : Int64)), (.long ((own_u q)).toInt64)])) _
        refine XS.lcmp X0.here hx rfl (hb hby d20_37) rfl ?_
        exact kt
      by_cases h3 : (lcmpW ((own_u q)).toInt64 (0 : Int64)) = (0 : Int32)
      · have sg6 : ∀ target, Steps p.tables e below (s₁.setTop (mkF m 42 #[.val (.int q), .val (.long ((own_u q)).toInt64), .second, .val (.int (own_lc q)), .val (.long ((own_wt q)).toInt64), .second] [(.long (0 : Int64))])) target → Steps p.tables e below (s₁.setTop (mkF m 38 #[.val (.int q), .val (.long ((own_u q)).toInt64), .second, .val (.int (own_lc q)), .val (.long ((own_wt q)).toInt64), .second] [(.int (lcmpW ((own_u q)).toInt64 (0 : Int64)))])) target := by
          intro target kt
          show Steps p.tables e below (s₁.setTop (mkF m 38 #[.val (.int q), .val (.long ((own_u q)).toInt64), .second, .val (.int (own_lc q)), .val (.long ((own_wt q)).toInt64), .second] [(.int (lcmpW ((own_u q)).toInt64 (0 : Int64)))])) _
          refine XS.ifNo X0.here hx rfl (hb hby d20_38) rfl ((if0 _ _).trans (teq (h3 : (lcmpW ((own_u q)).toInt64 (0 : Int64)) = (0 : Int32))).2) ?_
          show Steps p.tables e below (s₁.setTop (mkF m 41 #[.val (.int q), .val (.long ((own_u q)).toInt64), .second, .val (.int (own_lc q)), .val (.long ((own_wt q)).toInt64), .second] [])) _
          refine XS.lconst X0.here hx rfl (hb hby d20_41) ?_
          exact kt
        obtain ⟨fs, hr, hrun, hended, hW, hsame⟩ := X0.leave (v := some (.long (0 : Int64))) (fun h => by rw [Bd.returns] at h; cases h)
        refine ⟨_, _, pre0 _ ?_, hrun, hended, _, _, rfl, ?_, ⟨_, rfl⟩, hW, hsame.mono (by decide) (by decide)⟩
        · show Steps p.tables e below (s₁.setTop (mkF m 0 #[.val (.int q), .unset, .unset, .unset, .unset, .unset] [])) _
          refine sg1 _ ?_
          refine sg3 _ ?_
          refine sg5 _ ?_
          refine sg6 _ ?_
          show Steps p.tables e below (s₁.setTop (mkF m 42 #[.val (.int q), .val (.long ((own_u q)).toInt64), .second, .val (.int (own_lc q)), .val (.long ((own_wt q)).toInt64), .second] [(.long (0 : Int64))])) _
          exact retOut X0 hx Bd.returns rfl (Or.inr (Or.inl ⟨rfl, rfl, _, rfl⟩)) (hb hby d20_42) hr
        · show Q_rm20 Z q h0 n0 _ s₁.heap _
          rw [e0]
          exact ⟨(by unfold own_ss; rw [if_neg h1, if_neg h2, if_pos h3]), N0, rfl⟩
      · have sg7 : ∀ target, Steps p.tables e below (s₁.setTop (mkF m 46 #[.val (.int q), .val (.long ((own_u q)).toInt64), .second, .val (.int (own_lc q)), .val (.long ((own_wt q)).toInt64), .second] [(.int (7 : Int32)), (.int (own_lc q))])) target → Steps p.tables e below (s₁.setTop (mkF m 38 #[.val (.int q), .val (.long ((own_u q)).toInt64), .second, .val (.int (own_lc q)), .val (.long ((own_wt q)).toInt64), .second] [(.int (lcmpW ((own_u q)).toInt64 (0 : Int64)))])) target := by
          intro target kt
          show Steps p.tables e below (s₁.setTop (mkF m 38 #[.val (.int q), .val (.long ((own_u q)).toInt64), .second, .val (.int (own_lc q)), .val (.long ((own_wt q)).toInt64), .second] [(.int (lcmpW ((own_u q)).toInt64 (0 : Int64)))])) _
          refine XS.ifYes X0.here hx rfl (pc0 := 38) (pc' := 43) rfl (hb hby d20_38) rfl ((if0 _ _).trans (feq (h3 : ¬ ((lcmpW ((own_u q)).toInt64 (0 : Int64)) = (0 : Int32)))).2) (by decide) (by decide) ?_
          show Steps p.tables e below (s₁.setTop (mkF m 43 #[.val (.int q), .val (.long ((own_u q)).toInt64), .second, .val (.int (own_lc q)), .val (.long ((own_wt q)).toInt64), .second] [])) _
          refine XS.iloadN X0.here hx rfl (hb hby d20_43) rfl ?_
          show Steps p.tables e below (s₁.setTop (mkF m 44 #[.val (.int q), .val (.long ((own_u q)).toInt64), .second, .val (.int (own_lc q)), .val (.long ((own_wt q)).toInt64), .second] [(.int (own_lc q))])) _
          refine XS.bipush X0.here hx rfl (hb hby d20_44) ?_
          exact kt
        by_cases h4 : (own_lc q) = (7 : Int32)
        · have sg9 : ∀ target, Steps p.tables e below (s₁.setTop (mkF m 52 #[.val (.int q), .val (.long ((own_u q)).toInt64), .second, .val (.int (own_lc q)), .val (.long ((own_wt q)).toInt64), .second] [(.long (-1 : Int64))])) target → Steps p.tables e below (s₁.setTop (mkF m 46 #[.val (.int q), .val (.long ((own_u q)).toInt64), .second, .val (.int (own_lc q)), .val (.long ((own_wt q)).toInt64), .second] [(.int (7 : Int32)), (.int (own_lc q))])) target := by
            intro target kt
            show Steps p.tables e below (s₁.setTop (mkF m 46 #[.val (.int q), .val (.long ((own_u q)).toInt64), .second, .val (.int (own_lc q)), .val (.long ((own_wt q)).toInt64), .second] [(.int (7 : Int32)), (.int (own_lc q))])) _
            refine XS.icmpNo X0.here hx rfl (hb hby d20_46) rfl (teq (h4 : (own_lc q) = (7 : Int32))).2 ?_
            show Steps p.tables e below (s₁.setTop (mkF m 49 #[.val (.int q), .val (.long ((own_u q)).toInt64), .second, .val (.int (own_lc q)), .val (.long ((own_wt q)).toInt64), .second] [])) _
            refine X0.ldc2Long hx hown (mvT hZ (hw _ (List.mem_of_getElem? (i := 142) rfl))) (g := (mkF m 49 #[.val (.int q), .val (.long ((own_u q)).toInt64), .second, .val (.int (own_lc q)), .val (.long ((own_wt q)).toInt64), .second] [])) rfl (hb hby d20_49) _ ?_
            exact kt
          obtain ⟨fs, hr, hrun, hended, hW, hsame⟩ := X0.leave (v := some (.long (-1 : Int64))) (fun h => by rw [Bd.returns] at h; cases h)
          refine ⟨_, _, pre0 _ ?_, hrun, hended, _, _, rfl, ?_, ⟨_, rfl⟩, hW, hsame.mono (by decide) (by decide)⟩
          · show Steps p.tables e below (s₁.setTop (mkF m 0 #[.val (.int q), .unset, .unset, .unset, .unset, .unset] [])) _
            refine sg1 _ ?_
            refine sg3 _ ?_
            refine sg5 _ ?_
            refine sg7 _ ?_
            refine sg9 _ ?_
            show Steps p.tables e below (s₁.setTop (mkF m 52 #[.val (.int q), .val (.long ((own_u q)).toInt64), .second, .val (.int (own_lc q)), .val (.long ((own_wt q)).toInt64), .second] [(.long (-1 : Int64))])) _
            exact retOut X0 hx Bd.returns rfl (Or.inr (Or.inl ⟨rfl, rfl, _, rfl⟩)) (hb hby d20_52) hr
          · show Q_rm20 Z q h0 n0 _ s₁.heap _
            rw [e0]
            exact ⟨(by unfold own_ss; rw [if_neg h1, if_neg h2, if_neg h3, if_pos h4]), N0, rfl⟩
        · have sg8 : ∀ target, Steps p.tables e below (s₁.setTop (mkF m 65 #[.val (.int q), .val (.long ((own_u q)).toInt64), .second, .val (.int (own_lc q)), .val (.long ((own_wt q)).toInt64), .second] [(.long ((((own_u q)).toInt64 * ((own_wt q)).toInt64) * ((32 : Int64) >>> (((own_lc q) - (1 : Int32)) &&& 0x3f).toInt64)))])) target → Steps p.tables e below (s₁.setTop (mkF m 46 #[.val (.int q), .val (.long ((own_u q)).toInt64), .second, .val (.int (own_lc q)), .val (.long ((own_wt q)).toInt64), .second] [(.int (7 : Int32)), (.int (own_lc q))])) target := by
            intro target kt
            show Steps p.tables e below (s₁.setTop (mkF m 46 #[.val (.int q), .val (.long ((own_u q)).toInt64), .second, .val (.int (own_lc q)), .val (.long ((own_wt q)).toInt64), .second] [(.int (7 : Int32)), (.int (own_lc q))])) _
            refine XS.icmpYes X0.here hx rfl (pc0 := 46) (pc' := 53) rfl (hb hby d20_46) rfl (feq (h4 : ¬ ((own_lc q) = (7 : Int32)))).2 (by decide) (by decide) ?_
            show Steps p.tables e below (s₁.setTop (mkF m 53 #[.val (.int q), .val (.long ((own_u q)).toInt64), .second, .val (.int (own_lc q)), .val (.long ((own_wt q)).toInt64), .second] [])) _
            refine XS.lloadN X0.here hx rfl (hb hby d20_53) rfl ?_
            show Steps p.tables e below (s₁.setTop (mkF m 54 #[.val (.int q), .val (.long ((own_u q)).toInt64), .second, .val (.int (own_lc q)), .val (.long ((own_wt q)).toInt64), .second] [(.long ((own_u q)).toInt64)])) _
            refine XS.lload X0.here hx rfl (hb hby d20_54) rfl ?_
            show Steps p.tables e below (s₁.setTop (mkF m 56 #[.val (.int q), .val (.long ((own_u q)).toInt64), .second, .val (.int (own_lc q)), .val (.long ((own_wt q)).toInt64), .second] [(.long ((own_wt q)).toInt64), (.long ((own_u q)).toInt64)])) _
            refine XS.lmul X0.here hx rfl (hb hby d20_56) rfl ?_
            show Steps p.tables e below (s₁.setTop (mkF m 57 #[.val (.int q), .val (.long ((own_u q)).toInt64), .second, .val (.int (own_lc q)), .val (.long ((own_wt q)).toInt64), .second] [(.long (((own_u q)).toInt64 * ((own_wt q)).toInt64))])) _
            refine X0.ldc2Long hx hown (mvT hZ (hw _ (List.mem_of_getElem? (i := 143) rfl))) (g := (mkF m 57 #[.val (.int q), .val (.long ((own_u q)).toInt64), .second, .val (.int (own_lc q)), .val (.long ((own_wt q)).toInt64), .second] [(.long (((own_u q)).toInt64 * ((own_wt q)).toInt64))])) rfl (hb hby d20_57) _ ?_
            show Steps p.tables e below (s₁.setTop (mkF m 60 #[.val (.int q), .val (.long ((own_u q)).toInt64), .second, .val (.int (own_lc q)), .val (.long ((own_wt q)).toInt64), .second] [(.long (32 : Int64)), (.long (((own_u q)).toInt64 * ((own_wt q)).toInt64))])) _
            refine XS.iloadN X0.here hx rfl (hb hby d20_60) rfl ?_
            show Steps p.tables e below (s₁.setTop (mkF m 61 #[.val (.int q), .val (.long ((own_u q)).toInt64), .second, .val (.int (own_lc q)), .val (.long ((own_wt q)).toInt64), .second] [(.int (own_lc q)), (.long (32 : Int64)), (.long (((own_u q)).toInt64 * ((own_wt q)).toInt64))])) _
            refine XS.iconst X0.here hx rfl (hb hby d20_61) ?_
            show Steps p.tables e below (s₁.setTop (mkF m 62 #[.val (.int q), .val (.long ((own_u q)).toInt64), .second, .val (.int (own_lc q)), .val (.long ((own_wt q)).toInt64), .second] [(.int (1 : Int32)), (.int (own_lc q)), (.long (32 : Int64)), (.long (((own_u q)).toInt64 * ((own_wt q)).toInt64))])) _
            refine XS.isub X0.here hx rfl (hb hby d20_62) rfl ?_
            show Steps p.tables e below (s₁.setTop (mkF m 63 #[.val (.int q), .val (.long ((own_u q)).toInt64), .second, .val (.int (own_lc q)), .val (.long ((own_wt q)).toInt64), .second] [(.int ((own_lc q) - (1 : Int32))), (.long (32 : Int64)), (.long (((own_u q)).toInt64 * ((own_wt q)).toInt64))])) _
            refine XS.lshr X0.here hx rfl (hb hby d20_63) rfl ?_
            show Steps p.tables e below (s₁.setTop (mkF m 64 #[.val (.int q), .val (.long ((own_u q)).toInt64), .second, .val (.int (own_lc q)), .val (.long ((own_wt q)).toInt64), .second] [(.long ((32 : Int64) >>> (((own_lc q) - (1 : Int32)) &&& 0x3f).toInt64)), (.long (((own_u q)).toInt64 * ((own_wt q)).toInt64))])) _
            refine XS.lmul X0.here hx rfl (hb hby d20_64) rfl ?_
            exact kt
          obtain ⟨fs, hr, hrun, hended, hW, hsame⟩ := X0.leave (v := some (.long ((((own_u q)).toInt64 * ((own_wt q)).toInt64) * ((32 : Int64) >>> (((own_lc q) - (1 : Int32)) &&& 0x3f).toInt64)))) (fun h => by rw [Bd.returns] at h; cases h)
          refine ⟨_, _, pre0 _ ?_, hrun, hended, _, _, rfl, ?_, ⟨_, rfl⟩, hW, hsame.mono (by decide) (by decide)⟩
          · show Steps p.tables e below (s₁.setTop (mkF m 0 #[.val (.int q), .unset, .unset, .unset, .unset, .unset] [])) _
            refine sg1 _ ?_
            refine sg3 _ ?_
            refine sg5 _ ?_
            refine sg7 _ ?_
            refine sg8 _ ?_
            show Steps p.tables e below (s₁.setTop (mkF m 65 #[.val (.int q), .val (.long ((own_u q)).toInt64), .second, .val (.int (own_lc q)), .val (.long ((own_wt q)).toInt64), .second] [(.long ((((own_u q)).toInt64 * ((own_wt q)).toInt64) * ((32 : Int64) >>> (((own_lc q) - (1 : Int32)) &&& 0x3f).toInt64)))])) _
            exact retOut X0 hx Bd.returns rfl (Or.inr (Or.inl ⟨rfl, rfl, _, rfl⟩)) (hb hby d20_65) hr
          · show Q_rm20 Z q h0 n0 _ s₁.heap _
            rw [e0]
            exact ⟨(by unfold own_ss; rw [if_neg h1, if_neg h2, if_neg h3, if_neg h4]), N0, rfl⟩
theorem d21_0 : decode jdk_29_method_66_code 0 = .ok (.lload_n 0, 1) := by decide +kernel
theorem d21_1 : decode jdk_29_method_66_code 1 = .ok (.lload_n 2, 1) := by decide +kernel
theorem d21_2 : decode jdk_29_method_66_code 2 = .ok (.lcmp, 1) := by decide +kernel
theorem d21_3 : decode jdk_29_method_66_code 3 = .ok (.ifCond .lt 7, 3) := by decide +kernel
theorem d21_10 : decode jdk_29_method_66_code 10 = .ok (.lload_n 2, 1) := by decide +kernel
theorem d21_11 : decode jdk_29_method_66_code 11 = .ok (.lreturn, 1) := by decide +kernel
theorem d21_6 : decode jdk_29_method_66_code 6 = .ok (.lload_n 0, 1) := by decide +kernel
theorem d21_7 : decode jdk_29_method_66_code 7 = .ok (.goto 4, 3) := by decide +kernel
theorem ef_rm21 (m : MethodId) (x0 : Int64) (x1 : Int64) : entryFrame m #[(.long x0), (.long x1)] 4 = mkF m 0 #[.val (.long x0), .second, .val (.long x1), .second] [] := by first | (simp [entryFrame, mkF, argsToLocals, Value.category]; done) | rfl
def Q_rm21 (Z : State) (x : Int64) (y : Int64) (h0 : Heap) (n0 : Nat) (rv : Option Value) (h : Heap) (L : List Loc) : Prop := rv = some (.long (own_max x y)) ∧ Fr n0 L ∧ h = h0
set_option maxRecDepth 65536 in
set_option maxHeartbeats 40000000 in
theorem rm21 (l : Launch) (Z : State) (a0 : Array Value) (hw : ∀ d ∈ tables_1, d.before a0 Z = true) (ws : List Jvm.Cond) (x : Int64) (y : Int64) (h0 : Heap) (n0 : Nat) (Z0 : n0 ≤ h0.size) :
    MetFree l (⟨"java/lang/Math", "max", "(JJ)J"⟩ : MethodName) (head1 (Jvm.Cond.code (⟨"java/lang/Math", "max", "(JJ)J"⟩ : MethodName) jdk_29_method_66_code 4 (some .long) :: ws) ({ frames := 0, cells := 0, slots := 0, locals := 0 } : Room)) (fun av U => av = #[(.long x), (.long y)] ∧ Z.Warmed39 U.vm ∧ U.heap = h0) (fun _ _ _ _ _ => True) (fun _ U o U' => ∃ rv L, o = .returned rv ∧ Q_rm21 Z x y h0 n0 rv U'.heap L ∧ FrameEnd U o U' L ({ frames := 0, cells := 0, slots := 0, locals := 0 } : Room).cells ({ frames := 0, cells := 0, slots := 0, locals := 0 } : Room).slots) := by
  refine MetFree.of_bodySF (Jvm.Free.JP.mathPlain rfl (by decide +kernel)) hisR ?_
  intro p e s m args below meth c s₁ Bd hml0 hP hK
  obtain ⟨rfl, hZ, hh⟩ := hP
  have hx := Bd.exec
  have hby := Bd.bytes
  have hml : c.maxLocals = 4 := hml0
  have hown : s.vm.findClass "java/lang/Math" = some m.cls := findClass_of_methodNamed Bd.named
  have hnm := (name_of_methodNamed Bd.named Bd.method).1
  have X0 : Stand p l e ({ frames := 0, cells := 0, slots := 0, locals := 0 } : Room) s m #[(.long x), (.long y)] below meth c s₁ [] 0 0 := Stand.of_body Bd
  have e0 : s₁.heap = h0 := by rw [← hh, Bd.state]; rfl
  have N0 := Fr.nil n0
  have pre0 : ∀ t, Steps p.tables e below (s₁.setTop (mkF m 0 #[.val (.long x), .second, .val (.long y), .second] [])) t → Steps p.tables e below (s₁.setTop (entryFrame m #[(.long x), (.long y)] 4)) t := fun t k => castTop (ef_rm21 m x y) k
  have sg1 : ∀ target, Steps p.tables e below (s₁.setTop (mkF m 3 #[.val (.long x), .second, .val (.long y), .second] [(.int (lcmpW x y))])) target → Steps p.tables e below (s₁.setTop (mkF m 0 #[.val (.long x), .second, .val (.long y), .second] [])) target := by
    intro target kt
    show Steps p.tables e below (s₁.setTop (mkF m 0 #[.val (.long x), .second, .val (.long y), .second] [])) _
    refine XS.lloadN X0.here hx rfl (hb hby d21_0) rfl ?_
    show Steps p.tables e below (s₁.setTop (mkF m 1 #[.val (.long x), .second, .val (.long y), .second] [(.long x)])) _
    refine XS.lloadN X0.here hx rfl (hb hby d21_1) rfl ?_
    show Steps p.tables e below (s₁.setTop (mkF m 2 #[.val (.long x), .second, .val (.long y), .second] [(.long y), (.long x)])) _
    refine XS.lcmp X0.here hx rfl (hb hby d21_2) rfl ?_
    exact kt
  by_cases hm : (lcmpW x y) < (0 : Int32)
  · have sg2 : ∀ target, Steps p.tables e below (s₁.setTop (mkF m 11 #[.val (.long x), .second, .val (.long y), .second] [(.long y)])) target → Steps p.tables e below (s₁.setTop (mkF m 3 #[.val (.long x), .second, .val (.long y), .second] [(.int (lcmpW x y))])) target := by
      intro target kt
      show Steps p.tables e below (s₁.setTop (mkF m 3 #[.val (.long x), .second, .val (.long y), .second] [(.int (lcmpW x y))])) _
      refine XS.ifYes X0.here hx rfl (pc0 := 3) (pc' := 10) rfl (hb hby d21_3) rfl ((if0 _ _).trans (tlt (hm : (lcmpW x y) < (0 : Int32))).1) (by decide) (by decide) ?_
      show Steps p.tables e below (s₁.setTop (mkF m 10 #[.val (.long x), .second, .val (.long y), .second] [])) _
      refine XS.lloadN X0.here hx rfl (hb hby d21_10) rfl ?_
      exact kt
    obtain ⟨fs, hr, hrun, hended, hW, hsame⟩ := X0.leave (v := some (.long y)) (fun h => by rw [Bd.returns] at h; cases h)
    refine ⟨_, _, pre0 _ ?_, hrun, hended, _, _, rfl, ?_, ⟨_, rfl⟩, hW, hsame.mono (by decide) (by decide)⟩
    · show Steps p.tables e below (s₁.setTop (mkF m 0 #[.val (.long x), .second, .val (.long y), .second] [])) _
      refine sg1 _ ?_
      refine sg2 _ ?_
      show Steps p.tables e below (s₁.setTop (mkF m 11 #[.val (.long x), .second, .val (.long y), .second] [(.long y)])) _
      exact retOut X0 hx Bd.returns rfl (Or.inr (Or.inl ⟨rfl, rfl, _, rfl⟩)) (hb hby d21_11) hr
    · show Q_rm21 Z x y h0 n0 _ s₁.heap _
      rw [e0]
      exact ⟨(by unfold own_max; rw [if_pos hm]), N0, rfl⟩
  · have sg3 : ∀ target, Steps p.tables e below (s₁.setTop (mkF m 11 #[.val (.long x), .second, .val (.long y), .second] [(.long x)])) target → Steps p.tables e below (s₁.setTop (mkF m 3 #[.val (.long x), .second, .val (.long y), .second] [(.int (lcmpW x y))])) target := by
      intro target kt
      show Steps p.tables e below (s₁.setTop (mkF m 3 #[.val (.long x), .second, .val (.long y), .second] [(.int (lcmpW x y))])) _
      refine XS.ifNo X0.here hx rfl (hb hby d21_3) rfl ((if0 _ _).trans (flt (hm : ¬ ((lcmpW x y) < (0 : Int32)))).1) ?_
      show Steps p.tables e below (s₁.setTop (mkF m 6 #[.val (.long x), .second, .val (.long y), .second] [])) _
      refine XS.lloadN X0.here hx rfl (hb hby d21_6) rfl ?_
      show Steps p.tables e below (s₁.setTop (mkF m 7 #[.val (.long x), .second, .val (.long y), .second] [(.long x)])) _
      refine XS.goto X0.here hx rfl (pc0 := 7) (pc' := 11) rfl (hb hby d21_7) (by decide) (by decide) ?_
      exact kt
    obtain ⟨fs, hr, hrun, hended, hW, hsame⟩ := X0.leave (v := some (.long x)) (fun h => by rw [Bd.returns] at h; cases h)
    refine ⟨_, _, pre0 _ ?_, hrun, hended, _, _, rfl, ?_, ⟨_, rfl⟩, hW, hsame.mono (by decide) (by decide)⟩
    · show Steps p.tables e below (s₁.setTop (mkF m 0 #[.val (.long x), .second, .val (.long y), .second] [])) _
      refine sg1 _ ?_
      refine sg3 _ ?_
      show Steps p.tables e below (s₁.setTop (mkF m 11 #[.val (.long x), .second, .val (.long y), .second] [(.long x)])) _
      exact retOut X0 hx Bd.returns rfl (Or.inr (Or.inl ⟨rfl, rfl, _, rfl⟩)) (hb hby d21_11) hr
    · show Q_rm21 Z x y h0 n0 _ s₁.heap _
      rw [e0]
      exact ⟨(by unfold own_max; rw [if_neg hm]), N0, rfl⟩
theorem d12_0 : decode jdk_31_method_11_code 0 = .ok (.aload_n 0, 1) := by decide +kernel
theorem d12_1 : decode jdk_31_method_11_code 1 = .ok (.ifnonnull 12, 3) := by decide +kernel
theorem d12_13 : decode jdk_31_method_11_code 13 = .ok (.aload_n 0, 1) := by decide +kernel
theorem d12_14 : decode jdk_31_method_11_code 14 = .ok (.areturn, 1) := by decide +kernel
theorem pn_12 : plainName "java/util/Objects" = true := by first | (simp [plainName, overriddenIn]; done) | decide +kernel
theorem ef_rm12 (m : MethodId) (x0 : Addr) (x1 : Addr) : entryFrame m #[(.ref x0), (.ref x1)] 2 = mkF m 0 #[.val (.ref x0), .val (.ref x1)] [] := by first | (simp [entryFrame, mkF, argsToLocals, Value.category]; done) | rfl
def Q_rm12 (Z : State) (x : Addr) (sy : Addr) (h0 : Heap) (n0 : Nat) (rv : Option Value) (h : Heap) (L : List Loc) : Prop := rv = some (.ref x) ∧ Fr n0 L ∧ h = h0
set_option maxRecDepth 65536 in
set_option maxHeartbeats 40000000 in
theorem rm12 (l : Launch) (Z : State) (a0 : Array Value) (hw : ∀ d ∈ tables_1, d.before a0 Z = true) (ws : List Jvm.Cond) (x : Addr) (sy : Addr) (h0 : Heap) (n0 : Nat) (Z0 : n0 ≤ h0.size) :
    MetFree l (⟨"java/util/Objects", "requireNonNull", "(Ljava/lang/Object;Ljava/lang/String;)Ljava/lang/Object;"⟩ : MethodName) (head1 (Jvm.Cond.code (⟨"java/util/Objects", "requireNonNull", "(Ljava/lang/Object;Ljava/lang/String;)Ljava/lang/Object;"⟩ : MethodName) jdk_31_method_11_code 2 (some (.object "java/lang/Object")) :: ws) ({ frames := 0, cells := 0, slots := 0, locals := 0 } : Room)) (fun av U => av = #[(.ref x), (.ref sy)] ∧ Z.Warmed39 U.vm ∧ U.heap = h0) (fun _ _ _ _ _ => True) (fun _ U o U' => ∃ rv L, o = .returned rv ∧ Q_rm12 Z x sy h0 n0 rv U'.heap L ∧ FrameEnd U o U' L ({ frames := 0, cells := 0, slots := 0, locals := 0 } : Room).cells ({ frames := 0, cells := 0, slots := 0, locals := 0 } : Room).slots) := by
  refine MetFree.of_bodySF (plainFor_of_name pn_12) hisR ?_
  intro p e s m args below meth c s₁ Bd hml0 hP hK
  obtain ⟨rfl, hZ, hh⟩ := hP
  have hx := Bd.exec
  have hby := Bd.bytes
  have hml : c.maxLocals = 2 := hml0
  have hown : s.vm.findClass "java/util/Objects" = some m.cls := findClass_of_methodNamed Bd.named
  have hnm := (name_of_methodNamed Bd.named Bd.method).1
  have X0 : Stand p l e ({ frames := 0, cells := 0, slots := 0, locals := 0 } : Room) s m #[(.ref x), (.ref sy)] below meth c s₁ [] 0 0 := Stand.of_body Bd
  have e0 : s₁.heap = h0 := by rw [← hh, Bd.state]; rfl
  have N0 := Fr.nil n0
  have pre0 : ∀ t, Steps p.tables e below (s₁.setTop (mkF m 0 #[.val (.ref x), .val (.ref sy)] [])) t → Steps p.tables e below (s₁.setTop (entryFrame m #[(.ref x), (.ref sy)] 2)) t := fun t k => castTop (ef_rm12 m x sy) k
  have sg1 : ∀ target, Steps p.tables e below (s₁.setTop (mkF m 14 #[.val (.ref x), .val (.ref sy)] [(.ref x)])) target → Steps p.tables e below (s₁.setTop (mkF m 0 #[.val (.ref x), .val (.ref sy)] [])) target := by
    intro target kt
    show Steps p.tables e below (s₁.setTop (mkF m 0 #[.val (.ref x), .val (.ref sy)] [])) _
    refine XS.aloadN X0.here hx rfl (hb hby d12_0) rfl rfl ?_
    show Steps p.tables e below (s₁.setTop (mkF m 1 #[.val (.ref x), .val (.ref sy)] [(.ref x)])) _
    refine XS.ifnonnullYes X0.here hx rfl (pc0 := 1) (pc' := 13) rfl (hb hby d12_1) rfl (by decide) (by decide) ?_
    show Steps p.tables e below (s₁.setTop (mkF m 13 #[.val (.ref x), .val (.ref sy)] [])) _
    refine XS.aloadN X0.here hx rfl (hb hby d12_13) rfl rfl ?_
    exact kt
  obtain ⟨fs, hr, hrun, hended, hW, hsame⟩ := X0.leave (v := some (.ref x)) (fun h => by rw [Bd.returns] at h; cases h)
  refine ⟨_, _, pre0 _ ?_, hrun, hended, _, _, rfl, ?_, ⟨_, rfl⟩, hW, hsame.mono (by decide) (by decide)⟩
  · show Steps p.tables e below (s₁.setTop (mkF m 0 #[.val (.ref x), .val (.ref sy)] [])) _
    refine sg1 _ ?_
    show Steps p.tables e below (s₁.setTop (mkF m 14 #[.val (.ref x), .val (.ref sy)] [(.ref x)])) _
    exact retOut X0 hx Bd.returns rfl (Or.inr (Or.inr (Or.inr (Or.inr ⟨rfl, rfl, rfl⟩)))) (hb hby d12_14) hr
  · show Q_rm12 Z x sy h0 n0 _ s₁.heap _
    rw [e0]
    exact ⟨rfl, N0, rfl⟩
theorem d22_0 : decode prog_20_method_2_code 0 = .ok (.aload_n 0, 1) := by decide +kernel
theorem d22_1 : decode prog_20_method_2_code 1 = .ok (.getfield 22, 3) := by decide +kernel
theorem d22_4 : decode prog_20_method_2_code 4 = .ok (.dconst 0, 1) := by decide +kernel
theorem d22_5 : decode prog_20_method_2_code 5 = .ok (.dcmp .l, 1) := by decide +kernel
theorem d22_6 : decode prog_20_method_2_code 6 = .ok (.ifCond .ne 5, 3) := by decide +kernel
theorem d22_11 : decode prog_20_method_2_code 11 = .ok (.aload_n 0, 1) := by decide +kernel
theorem d22_12 : decode prog_20_method_2_code 12 = .ok (.getfield 17, 3) := by decide +kernel
theorem d22_15 : decode prog_20_method_2_code 15 = .ok (.aload_n 0, 1) := by decide +kernel
theorem d22_16 : decode prog_20_method_2_code 16 = .ok (.getfield 22, 3) := by decide +kernel
theorem d22_19 : decode prog_20_method_2_code 19 = .ok (.ddiv, 1) := by decide +kernel
theorem d22_20 : decode prog_20_method_2_code 20 = .ok (.dreturn, 1) := by decide +kernel
theorem d22_9 : decode prog_20_method_2_code 9 = .ok (.dconst 0, 1) := by decide +kernel
theorem d22_10 : decode prog_20_method_2_code 10 = .ok (.dreturn, 1) := by decide +kernel
theorem pn_22 : plainName "com/example/headroom/headroom/ResourceUsage" = true := by first | (simp [plainName, overriddenIn]; done) | decide +kernel
theorem ef_rm22 (m : MethodId) (x0 : Addr) : entryFrame m #[(.ref x0)] 1 = mkF m 0 #[.val (.ref x0)] [] := by first | (simp [entryFrame, mkF, argsToLocals, Value.category]; done) | rfl
def Q_rm22 (Z : State) (a : Addr) (u : UInt64) (v : UInt64) (h0 : Heap) (n0 : Nat) (rv : Option Value) (h : Heap) (L : List Loc) : Prop := rv = some (.double (own_fr u v)) ∧ Fr n0 L ∧ h = h0
set_option maxRecDepth 65536 in
set_option maxHeartbeats 40000000 in
theorem rm22 (l : Launch) (Z : State) (a0 : Array Value) (hw : ∀ d ∈ tables_1, d.before a0 Z = true) (ws : List Jvm.Cond) (a : Addr) (u : UInt64) (v : UInt64) (h0 : Heap) (n0 : Nat) (Z0 : n0 ≤ h0.size) (F1 : Fld Z h0 a "com/example/headroom/headroom/ResourceUsage" "usage" "D" (.double u)) (F2 : Fld Z h0 a "com/example/headroom/headroom/ResourceUsage" "limit" "D" (.double v)) (nn1 : ¬ ((cmpValue (FP.dcmp v (0 : UInt64)) .l) = (0 : Int32)) → Jvm.Free.Fl.NoNaN64 (FP.ddiv u v)) :
    MetFree l (⟨"com/example/headroom/headroom/ResourceUsage", "fraction", "()D"⟩ : MethodName) (head1 (Jvm.Cond.code (⟨"com/example/headroom/headroom/ResourceUsage", "fraction", "()D"⟩ : MethodName) prog_20_method_2_code 1 (some .double) :: ws) ({ frames := 0, cells := 0, slots := 0, locals := 0 } : Room)) (fun av U => av = #[(.ref a)] ∧ Z.Warmed39 U.vm ∧ U.heap = h0) (fun _ _ _ _ _ => True) (fun _ U o U' => ∃ rv L, o = .returned rv ∧ Q_rm22 Z a u v h0 n0 rv U'.heap L ∧ FrameEnd U o U' L ({ frames := 0, cells := 0, slots := 0, locals := 0 } : Room).cells ({ frames := 0, cells := 0, slots := 0, locals := 0 } : Room).slots) := by
  refine MetFree.of_bodySF (plainFor_of_name pn_22) hisR ?_
  intro p e s m args below meth c s₁ Bd hml0 hP hK
  obtain ⟨rfl, hZ, hh⟩ := hP
  have hx := Bd.exec
  have hby := Bd.bytes
  have hml : c.maxLocals = 1 := hml0
  have hown : s.vm.findClass "com/example/headroom/headroom/ResourceUsage" = some m.cls := findClass_of_methodNamed Bd.named
  have hnm := (name_of_methodNamed Bd.named Bd.method).1
  have X0 : Stand p l e ({ frames := 0, cells := 0, slots := 0, locals := 0 } : Room) s m #[(.ref a)] below meth c s₁ [] 0 0 := Stand.of_body Bd
  have e0 : s₁.heap = h0 := by rw [← hh, Bd.state]; rfl
  have N0 := Fr.nil n0
  have pre0 : ∀ t, Steps p.tables e below (s₁.setTop (mkF m 0 #[.val (.ref a)] [])) t → Steps p.tables e below (s₁.setTop (entryFrame m #[(.ref a)] 1)) t := fun t k => castTop (ef_rm22 m a) k
  have sg1 : ∀ target, Steps p.tables e below (s₁.setTop (mkF m 1 #[.val (.ref a)] [(.ref a)])) target → Steps p.tables e below (s₁.setTop (mkF m 0 #[.val (.ref a)] [])) target := by
    intro target kt
    show Steps p.tables e below (s₁.setTop (mkF m 0 #[.val (.ref a)] [])) _
    refine XS.aloadN X0.here hx rfl (hb hby d22_0) rfl rfl ?_
    exact kt
  obtain ⟨T2, X2, e2, st2⟩ := getF X0 hx hZ hown (host := "") (Or.inl (hw _ (List.mem_of_getElem? (i := 72) rfl))) Via.refl e0 F2 (g := (mkF m 1 #[.val (.ref a)] [(.ref a)])) rfl rfl (hb hby d22_1)
  have sg3 : ∀ target, Steps p.tables e below (T2.setTop (mkF m 6 #[.val (.ref a)] [(.int (cmpValue (FP.dcmp v (0 : UInt64)) .l))])) target → Steps p.tables e below (T2.setTop (mkF m 4 #[.val (.ref a)] [(.double v)])) target := by
    intro target kt
    show Steps p.tables e below (T2.setTop (mkF m 4 #[.val (.ref a)] [(.double v)])) _
    refine XS.dconst0 X2.here hx rfl (v := (0 : UInt64)) (hb hby d22_4) rfl ?_
    show Steps p.tables e below (T2.setTop (mkF m 5 #[.val (.ref a)] [(.double (0 : UInt64)), (.double v)])) _
    refine XS.dcmpS X2.here hx rfl (v := (cmpValue (FP.dcmp v (0 : UInt64)) .l)) (hb hby d22_5) rfl rfl ?_
    exact kt
  by_cases hz : (cmpValue (FP.dcmp v (0 : UInt64)) .l) = (0 : Int32)
  · have sg9 : ∀ target, Steps p.tables e below (T2.setTop (mkF m 10 #[.val (.ref a)] [(.double (0 : UInt64))])) target → Steps p.tables e below (T2.setTop (mkF m 6 #[.val (.ref a)] [(.int (cmpValue (FP.dcmp v (0 : UInt64)) .l))])) target := by
      intro target kt
      show Steps p.tables e below (T2.setTop (mkF m 6 #[.val (.ref a)] [(.int (cmpValue (FP.dcmp v (0 : UInt64)) .l))])) _
      refine XS.ifNo X2.here hx rfl (hb hby d22_6) rfl ((if0 _ _).trans (teq (hz : (cmpValue (FP.dcmp v (0 : UInt64)) .l) = (0 : Int32))).2) ?_
      show Steps p.tables e below (T2.setTop (mkF m 9 #[.val (.ref a)] [])) _
      refine XS.dconst0 X2.here hx rfl (v := (0 : UInt64)) (hb hby d22_9) rfl ?_
      exact kt
    obtain ⟨fs, hr, hrun, hended, hW, hsame⟩ := X2.leave (v := some (.double (0 : UInt64))) (fun h => by rw [Bd.returns] at h; cases h)
    refine ⟨_, _, pre0 _ ?_, hrun, hended, _, _, rfl, ?_, ⟨_, rfl⟩, hW, hsame.mono (by decide) (by decide)⟩
    · show Steps p.tables e below (s₁.setTop (mkF m 0 #[.val (.ref a)] [])) _
      refine sg1 _ ?_
      refine st2 _ ?_
      refine sg3 _ ?_
      refine sg9 _ ?_
      show Steps p.tables e below (T2.setTop (mkF m 10 #[.val (.ref a)] [(.double (0 : UInt64))])) _
      exact retOut X2 hx Bd.returns rfl (Or.inr (Or.inr (Or.inl ⟨rfl, rfl, _, rfl⟩))) (hb hby d22_10) hr
    · show Q_rm22 Z a u v h0 n0 _ T2.heap _
      rw [e2]
      exact ⟨(by unfold own_fr; rw [if_pos hz]), N0, rfl⟩
  · have sg4 : ∀ target, Steps p.tables e below (T2.setTop (mkF m 12 #[.val (.ref a)] [(.ref a)])) target → Steps p.tables e below (T2.setTop (mkF m 6 #[.val (.ref a)] [(.int (cmpValue (FP.dcmp v (0 : UInt64)) .l))])) target := by
      intro target kt
      show Steps p.tables e below (T2.setTop (mkF m 6 #[.val (.ref a)] [(.int (cmpValue (FP.dcmp v (0 : UInt64)) .l))])) _
      refine XS.ifYes X2.here hx rfl (pc0 := 6) (pc' := 11) rfl (hb hby d22_6) rfl ((if0 _ _).trans (feq (hz : ¬ ((cmpValue (FP.dcmp v (0 : UInt64)) .l) = (0 : Int32)))).2) (by decide) (by decide) ?_
      show Steps p.tables e below (T2.setTop (mkF m 11 #[.val (.ref a)] [])) _
      refine XS.aloadN X2.here hx rfl (hb hby d22_11) rfl rfl ?_
      exact kt
    obtain ⟨T5, X5, e5, st5⟩ := getF X2 hx hZ hown (host := "") (Or.inl (hw _ (List.mem_of_getElem? (i := 70) rfl))) Via.refl e2 F1 (g := (mkF m 12 #[.val (.ref a)] [(.ref a)])) rfl rfl (hb hby d22_12)
    have sg6 : ∀ target, Steps p.tables e below (T5.setTop (mkF m 16 #[.val (.ref a)] [(.ref a), (.double u)])) target → Steps p.tables e below (T5.setTop (mkF m 15 #[.val (.ref a)] [(.double u)])) target := by
      intro target kt
      show Steps p.tables e below (T5.setTop (mkF m 15 #[.val (.ref a)] [(.double u)])) _
      refine XS.aloadN X5.here hx rfl (hb hby d22_15) rfl rfl ?_
      exact kt
    obtain ⟨T7, X7, e7, st7⟩ := getF X5 hx hZ hown (host := "") (Or.inl (hw _ (List.mem_of_getElem? (i := 72) rfl))) Via.refl e5 F2 (g := (mkF m 16 #[.val (.ref a)] [(.ref a), (.double u)])) rfl rfl (hb hby d22_16)
    have sg8 : ∀ target, Steps p.tables e below (T7.setTop (mkF m 20 #[.val (.ref a)] [(.double (FP.ddiv u v))])) target → Steps p.tables e below (T7.setTop (mkF m 19 #[.val (.ref a)] [(.double v), (.double u)])) target := by
      intro target kt
      show Steps p.tables e below (T7.setTop (mkF m 19 #[.val (.ref a)] [(.double v), (.double u)])) _
      refine XS.ddivS X7.here hx rfl (v := (FP.ddiv u v)) (hb hby d22_19) rfl (nn1 hz) rfl ?_
      exact kt
    obtain ⟨fs, hr, hrun, hended, hW, hsame⟩ := X7.leave (v := some (.double (FP.ddiv u v))) (fun h => by rw [Bd.returns] at h; cases h)
    refine ⟨_, _, pre0 _ ?_, hrun, hended, _, _, rfl, ?_, ⟨_, rfl⟩, hW, hsame.mono (by decide) (by decide)⟩
    · show Steps p.tables e below (s₁.setTop (mkF m 0 #[.val (.ref a)] [])) _
      refine sg1 _ ?_
      refine st2 _ ?_
      refine sg3 _ ?_
      refine sg4 _ ?_
      refine st5 _ ?_
      refine sg6 _ ?_
      refine st7 _ ?_
      refine sg8 _ ?_
      show Steps p.tables e below (T7.setTop (mkF m 20 #[.val (.ref a)] [(.double (FP.ddiv u v))])) _
      exact retOut X7 hx Bd.returns rfl (Or.inr (Or.inr (Or.inl ⟨rfl, rfl, _, rfl⟩))) (hb hby d22_20) hr
    · show Q_rm22 Z a u v h0 n0 _ T7.heap _
      rw [e7]
      exact ⟨(by unfold own_fr; rw [if_neg hz]), N0, rfl⟩
theorem d15_0 : decode prog_21_method_4_code 0 = .ok (.dload_n 1, 1) := by decide +kernel
theorem d15_1 : decode prog_21_method_4_code 1 = .ok (.dconst 0, 1) := by decide +kernel
theorem d15_2 : decode prog_21_method_4_code 2 = .ok (.dcmp .l, 1) := by decide +kernel
theorem d15_3 : decode prog_21_method_4_code 3 = .ok (.ifCond .ne 5, 3) := by decide +kernel
theorem d15_8 : decode prog_21_method_4_code 8 = .ok (.aload_n 0, 1) := by decide +kernel
theorem d15_9 : decode prog_21_method_4_code 9 = .ok (.invokevirtual 87, 3) := by decide +kernel
theorem pd_1 : parseMethodDescriptor "()D" = some ⟨[], some .double⟩ := by decide +kernel
theorem d15_12 : decode prog_21_method_4_code 12 = .ok (.dload_n 1, 1) := by decide +kernel
theorem d15_13 : decode prog_21_method_4_code 13 = .ok (.dmul, 1) := by decide +kernel
theorem d15_14 : decode prog_21_method_4_code 14 = .ok (.dreturn, 1) := by decide +kernel
theorem d15_6 : decode prog_21_method_4_code 6 = .ok (.dconst 0, 1) := by decide +kernel
theorem d15_7 : decode prog_21_method_4_code 7 = .ok (.dreturn, 1) := by decide +kernel
theorem pn_15 : plainName "com/example/headroom/headroom/ResourceWeights" = true := by first | (simp [plainName, overriddenIn]; done) | decide +kernel
theorem ef_rm15 (m : MethodId) (x0 : Addr) (x1 : UInt64) : entryFrame m #[(.ref x0), (.double x1)] 3 = mkF m 0 #[.val (.ref x0), .val (.double x1), .second] [] := by first | (simp [entryFrame, mkF, argsToLocals, Value.category]; done) | rfl
def Q_rm15 (Z : State) (a : Addr) (z : UInt64) (u : UInt64) (v : UInt64) (h0 : Heap) (n0 : Nat) (rv : Option Value) (h : Heap) (L : List Loc) : Prop := rv = some (.double (own_sh u v z)) ∧ Fr n0 L ∧ h = h0
set_option maxRecDepth 65536 in
set_option maxHeartbeats 40000000 in
theorem rm15 (l : Launch) (Z : State) (a0 : Array Value) (hw : ∀ d ∈ tables_1, d.before a0 Z = true) (ws : List Jvm.Cond) (a : Addr) (z : UInt64) (u : UInt64) (v : UInt64) (h0 : Heap) (n0 : Nat) (Z0 : n0 ≤ h0.size) (E_a : Exa Z h0 a "com/example/headroom/headroom/ResourceUsage") (F1 : Fld Z h0 a "com/example/headroom/headroom/ResourceUsage" "usage" "D" (.double u)) (F2 : Fld Z h0 a "com/example/headroom/headroom/ResourceUsage" "limit" "D" (.double v)) (nn1 : ¬ ((cmpValue (FP.dcmp v (0 : UInt64)) .l) = (0 : Int32)) → Jvm.Free.Fl.NoNaN64 (FP.ddiv u v)) (nn2 : ¬ ((cmpValue (FP.dcmp z (0 : UInt64)) .l) = (0 : Int32)) → Jvm.Free.Fl.NoNaN64 (FP.dmul (own_fr u v) z)) :
    MetFree l (⟨"com/example/headroom/headroom/ResourceWeights", "share", "(Lcom/example/headroom/headroom/ResourceUsage;D)D"⟩ : MethodName) (head1 (Jvm.Cond.code (⟨"com/example/headroom/headroom/ResourceWeights", "share", "(Lcom/example/headroom/headroom/ResourceUsage;D)D"⟩ : MethodName) prog_21_method_4_code 3 (some .double) :: ws) ({ frames := 1, cells := 0, slots := 0, locals := 12 } : Room)) (fun av U => av = #[(.ref a), (.double z)] ∧ Z.Warmed39 U.vm ∧ U.heap = h0) (fun _ _ _ _ _ => True) (fun _ U o U' => ∃ rv L, o = .returned rv ∧ Q_rm15 Z a z u v h0 n0 rv U'.heap L ∧ FrameEnd U o U' L ({ frames := 1, cells := 0, slots := 0, locals := 12 } : Room).cells ({ frames := 1, cells := 0, slots := 0, locals := 12 } : Room).slots) := by
  refine MetFree.of_bodySF (plainFor_of_name pn_15) hisR ?_
  intro p e s m args below meth c s₁ Bd hml0 hP hK
  obtain ⟨rfl, hZ, hh⟩ := hP
  have hx := Bd.exec
  have hby := Bd.bytes
  have hml : c.maxLocals = 3 := hml0
  have hown : s.vm.findClass "com/example/headroom/headroom/ResourceWeights" = some m.cls := findClass_of_methodNamed Bd.named
  have hnm := (name_of_methodNamed Bd.named Bd.method).1
  have X0 : Stand p l e ({ frames := 1, cells := 0, slots := 0, locals := 12 } : Room) s m #[(.ref a), (.double z)] below meth c s₁ [] 0 0 := Stand.of_body Bd
  have e0 : s₁.heap = h0 := by rw [← hh, Bd.state]; rfl
  have N0 := Fr.nil n0
  have pre0 : ∀ t, Steps p.tables e below (s₁.setTop (mkF m 0 #[.val (.ref a), .val (.double z), .second] [])) t → Steps p.tables e below (s₁.setTop (entryFrame m #[(.ref a), (.double z)] 3)) t := fun t k => castTop (ef_rm15 m a z) k
  have sg1 : ∀ target, Steps p.tables e below (s₁.setTop (mkF m 3 #[.val (.ref a), .val (.double z), .second] [(.int (cmpValue (FP.dcmp z (0 : UInt64)) .l))])) target → Steps p.tables e below (s₁.setTop (mkF m 0 #[.val (.ref a), .val (.double z), .second] [])) target := by
    intro target kt
    show Steps p.tables e below (s₁.setTop (mkF m 0 #[.val (.ref a), .val (.double z), .second] [])) _
    refine XS.dloadN X0.here hx rfl (hb hby d15_0) rfl ?_
    show Steps p.tables e below (s₁.setTop (mkF m 1 #[.val (.ref a), .val (.double z), .second] [(.double z)])) _
    refine XS.dconst0 X0.here hx rfl (v := (0 : UInt64)) (hb hby d15_1) rfl ?_
    show Steps p.tables e below (s₁.setTop (mkF m 2 #[.val (.ref a), .val (.double z), .second] [(.double (0 : UInt64)), (.double z)])) _
    refine XS.dcmpS X0.here hx rfl (v := (cmpValue (FP.dcmp z (0 : UInt64)) .l)) (hb hby d15_2) rfl rfl ?_
    exact kt
  by_cases hz : (cmpValue (FP.dcmp z (0 : UInt64)) .l) = (0 : Int32)
  · have sg5 : ∀ target, Steps p.tables e below (s₁.setTop (mkF m 7 #[.val (.ref a), .val (.double z), .second] [(.double (0 : UInt64))])) target → Steps p.tables e below (s₁.setTop (mkF m 3 #[.val (.ref a), .val (.double z), .second] [(.int (cmpValue (FP.dcmp z (0 : UInt64)) .l))])) target := by
      intro target kt
      show Steps p.tables e below (s₁.setTop (mkF m 3 #[.val (.ref a), .val (.double z), .second] [(.int (cmpValue (FP.dcmp z (0 : UInt64)) .l))])) _
      refine XS.ifNo X0.here hx rfl (hb hby d15_3) rfl ((if0 _ _).trans (teq (hz : (cmpValue (FP.dcmp z (0 : UInt64)) .l) = (0 : Int32))).2) ?_
      show Steps p.tables e below (s₁.setTop (mkF m 6 #[.val (.ref a), .val (.double z), .second] [])) _
      refine XS.dconst0 X0.here hx rfl (v := (0 : UInt64)) (hb hby d15_6) rfl ?_
      exact kt
    obtain ⟨fs, hr, hrun, hended, hW, hsame⟩ := X0.leave (v := some (.double (0 : UInt64))) (fun h => by rw [Bd.returns] at h; cases h)
    refine ⟨_, _, pre0 _ ?_, hrun, hended, _, _, rfl, ?_, ⟨_, rfl⟩, hW, hsame.mono (by decide) (by decide)⟩
    · show Steps p.tables e below (s₁.setTop (mkF m 0 #[.val (.ref a), .val (.double z), .second] [])) _
      refine sg1 _ ?_
      refine sg5 _ ?_
      show Steps p.tables e below (s₁.setTop (mkF m 7 #[.val (.ref a), .val (.double z), .second] [(.double (0 : UInt64))])) _
      exact retOut X0 hx Bd.returns rfl (Or.inr (Or.inr (Or.inl ⟨rfl, rfl, _, rfl⟩))) (hb hby d15_7) hr
    · show Q_rm15 Z a z u v h0 n0 _ s₁.heap _
      rw [e0]
      exact ⟨(by unfold own_sh; rw [if_pos hz]), N0, rfl⟩
  · have sg2 : ∀ target, Steps p.tables e below (s₁.setTop (mkF m 9 #[.val (.ref a), .val (.double z), .second] [(.ref a)])) target → Steps p.tables e below (s₁.setTop (mkF m 3 #[.val (.ref a), .val (.double z), .second] [(.int (cmpValue (FP.dcmp z (0 : UInt64)) .l))])) target := by
      intro target kt
      show Steps p.tables e below (s₁.setTop (mkF m 3 #[.val (.ref a), .val (.double z), .second] [(.int (cmpValue (FP.dcmp z (0 : UInt64)) .l))])) _
      refine XS.ifYes X0.here hx rfl (pc0 := 3) (pc' := 8) rfl (hb hby d15_3) rfl ((if0 _ _).trans (feq (hz : ¬ ((cmpValue (FP.dcmp z (0 : UInt64)) .l) = (0 : Int32)))).2) (by decide) (by decide) ?_
      show Steps p.tables e below (s₁.setTop (mkF m 8 #[.val (.ref a), .val (.double z), .second] [])) _
      refine XS.aloadN X0.here hx rfl (hb hby d15_8) rfl rfl ?_
      exact kt
    obtain ⟨cq3, kq3, q3a, q3b, q3c⟩ := isOf hZ e0 E_a
    obtain ⟨_, _, ⟨T3, L3, k3, n3⟩, -, X3, ⟨Lc3, hQ3, l3, y3, z3⟩, st3⟩ := X0.virtualBack hx (y := (⟨"com/example/headroom/headroom/ResourceUsage", "fraction", "()D"⟩ : MethodName)) (z := (⟨"com/example/headroom/headroom/ResourceUsage", "fraction", "()D"⟩ : MethodName)) hown (mvT hZ (hw _ (List.mem_of_getElem? (i := 137) rfl))) (mvT hZ (hw _ (List.mem_of_getElem? (i := 138) rfl))) (notFace_of_selects (args := #[]) (mvT hZ (hw _ (List.mem_of_getElem? (i := 140) rfl)))) (mvT hZ (hw _ (List.mem_of_getElem? (i := 140) rfl))) (mvT hZ (hw _ (List.mem_of_getElem? (i := 139) rfl))) (by decide) (backOf (W := 0) (rm22 l Z a0 hw [] a u v h0 n0 Z0 F1 F2 nn1) hZ (hw _ (List.mem_of_getElem? (i := 141) rfl)) (hw _ (List.mem_of_getElem? (i := 58) rfl)) (by decide) (by decide)) q3a q3c (g := (mkF m 9 #[.val (.ref a), .val (.double z), .second] [(.ref a)])) rfl (by rw [hml]; rfl) (Steps.refl _) (argsL := []) (rest := []) (lenOf pd_1 rfl) rfl (by show 2 * 0 + _ ≤ _; exact Nat.le_of_eq rfl) (hb hby d15_9) (fun _ _ => ⟨rfl, e0, (by decide : 0 + 0 ≤ _), (by decide : 0 + 0 ≤ _)⟩)
    dsimp only [Pt.U, Pt.locs, Pt.cells, Pt.slots] at X3 l3 y3 z3 st3 hQ3
    subst l3 y3 z3
    obtain ⟨rfl, N3q, c3_0⟩ := hQ3
    have N3 := Fr.app N0 N3q
    have sg4 : ∀ target, Steps p.tables e below (T3.setTop (mkF m 14 #[.val (.ref a), .val (.double z), .second] [(.double (FP.dmul (own_fr u v) z))])) target → Steps p.tables e below (T3.setTop (mkF m 12 #[.val (.ref a), .val (.double z), .second] [(.double (own_fr u v))])) target := by
      intro target kt
      show Steps p.tables e below (T3.setTop (mkF m 12 #[.val (.ref a), .val (.double z), .second] [(.double (own_fr u v))])) _
      refine XS.dloadN X3.here hx rfl (hb hby d15_12) rfl ?_
      show Steps p.tables e below (T3.setTop (mkF m 13 #[.val (.ref a), .val (.double z), .second] [(.double z), (.double (own_fr u v))])) _
      refine XS.dmulS X3.here hx rfl (v := (FP.dmul (own_fr u v) z)) (hb hby d15_13) rfl (nn2 hz) rfl ?_
      exact kt
    obtain ⟨fs, hr, hrun, hended, hW, hsame⟩ := X3.leave (v := some (.double (FP.dmul (own_fr u v) z))) (fun h => by rw [Bd.returns] at h; cases h)
    refine ⟨_, _, pre0 _ ?_, hrun, hended, _, _, rfl, ?_, ⟨_, rfl⟩, hW, hsame.mono (by decide) (by decide)⟩
    · show Steps p.tables e below (s₁.setTop (mkF m 0 #[.val (.ref a), .val (.double z), .second] [])) _
      refine sg1 _ ?_
      refine sg2 _ ?_
      refine st3.trans ?_
      refine sg4 _ ?_
      show Steps p.tables e below (T3.setTop (mkF m 14 #[.val (.ref a), .val (.double z), .second] [(.double (FP.dmul (own_fr u v) z))])) _
      exact retOut X3 hx Bd.returns rfl (Or.inr (Or.inr (Or.inl ⟨rfl, rfl, _, rfl⟩))) (hb hby d15_14) hr
    · show Q_rm15 Z a z u v h0 n0 _ T3.heap _
      rw [c3_0]
      exact ⟨(by unfold own_sh; rw [if_neg hz]), N3, rfl⟩
theorem d14_0 : decode prog_5_method_5_code 0 = .ok (.aload_n 0, 1) := by decide +kernel
theorem d14_1 : decode prog_5_method_5_code 1 = .ok (.getfield 21, 3) := by decide +kernel
theorem d14_4 : decode prog_5_method_5_code 4 = .ok (.areturn, 1) := by decide +kernel
theorem pn_14 : plainName "com/example/headroom/headroom/BrokerUsage" = true := by first | (simp [plainName, overriddenIn]; done) | decide +kernel
theorem ef_rm14 (m : MethodId) (x0 : Addr) : entryFrame m #[(.ref x0)] 1 = mkF m 0 #[.val (.ref x0)] [] := by first | (simp [entryFrame, mkF, argsToLocals, Value.category]; done) | rfl
def Q_rm14 (Z : State) (a : Addr) (r : Addr) (h0 : Heap) (n0 : Nat) (rv : Option Value) (h : Heap) (L : List Loc) : Prop := rv = some (.ref r) ∧ Fr n0 L ∧ h = h0
set_option maxRecDepth 65536 in
set_option maxHeartbeats 40000000 in
theorem rm14 (l : Launch) (Z : State) (a0 : Array Value) (hw : ∀ d ∈ tables_1, d.before a0 Z = true) (ws : List Jvm.Cond) (a : Addr) (r : Addr) (h0 : Heap) (n0 : Nat) (Z0 : n0 ≤ h0.size) (F1 : Fld Z h0 a "com/example/headroom/headroom/BrokerUsage" "cpu" "Lcom/example/headroom/headroom/ResourceUsage;" (.ref r)) :
    MetFree l (⟨"com/example/headroom/headroom/BrokerUsage", "cpu", "()Lcom/example/headroom/headroom/ResourceUsage;"⟩ : MethodName) (head1 (Jvm.Cond.code (⟨"com/example/headroom/headroom/BrokerUsage", "cpu", "()Lcom/example/headroom/headroom/ResourceUsage;"⟩ : MethodName) prog_5_method_5_code 1 (some (.object "com/example/headroom/headroom/ResourceUsage")) :: ws) ({ frames := 0, cells := 0, slots := 0, locals := 0 } : Room)) (fun av U => av = #[(.ref a)] ∧ Z.Warmed39 U.vm ∧ U.heap = h0) (fun _ _ _ _ _ => True) (fun _ U o U' => ∃ rv L, o = .returned rv ∧ Q_rm14 Z a r h0 n0 rv U'.heap L ∧ FrameEnd U o U' L ({ frames := 0, cells := 0, slots := 0, locals := 0 } : Room).cells ({ frames := 0, cells := 0, slots := 0, locals := 0 } : Room).slots) := by
  refine MetFree.of_bodySF (plainFor_of_name pn_14) hisR ?_
  intro p e s m args below meth c s₁ Bd hml0 hP hK
  obtain ⟨rfl, hZ, hh⟩ := hP
  have hx := Bd.exec
  have hby := Bd.bytes
  have hml : c.maxLocals = 1 := hml0
  have hown : s.vm.findClass "com/example/headroom/headroom/BrokerUsage" = some m.cls := findClass_of_methodNamed Bd.named
  have hnm := (name_of_methodNamed Bd.named Bd.method).1
  have X0 : Stand p l e ({ frames := 0, cells := 0, slots := 0, locals := 0 } : Room) s m #[(.ref a)] below meth c s₁ [] 0 0 := Stand.of_body Bd
  have e0 : s₁.heap = h0 := by rw [← hh, Bd.state]; rfl
  have N0 := Fr.nil n0
  have pre0 : ∀ t, Steps p.tables e below (s₁.setTop (mkF m 0 #[.val (.ref a)] [])) t → Steps p.tables e below (s₁.setTop (entryFrame m #[(.ref a)] 1)) t := fun t k => castTop (ef_rm14 m a) k
  have sg1 : ∀ target, Steps p.tables e below (s₁.setTop (mkF m 1 #[.val (.ref a)] [(.ref a)])) target → Steps p.tables e below (s₁.setTop (mkF m 0 #[.val (.ref a)] [])) target := by
    intro target kt
    show Steps p.tables e below (s₁.setTop (mkF m 0 #[.val (.ref a)] [])) _
    refine XS.aloadN X0.here hx rfl (hb hby d14_0) rfl rfl ?_
    exact kt
  obtain ⟨T2, X2, e2, st2⟩ := getF X0 hx hZ hown (host := "") (Or.inl (hw _ (List.mem_of_getElem? (i := 86) rfl))) Via.refl e0 F1 (g := (mkF m 1 #[.val (.ref a)] [(.ref a)])) rfl rfl (hb hby d14_1)
  obtain ⟨fs, hr, hrun, hended, hW, hsame⟩ := X2.leave (v := some (.ref r)) (fun h => by rw [Bd.returns] at h; cases h)
  refine ⟨_, _, pre0 _ ?_, hrun, hended, _, _, rfl, ?_, ⟨_, rfl⟩, hW, hsame.mono (by decide) (by decide)⟩
  · show Steps p.tables e below (s₁.setTop (mkF m 0 #[.val (.ref a)] [])) _
    refine sg1 _ ?_
    refine st2 _ ?_
    show Steps p.tables e below (T2.setTop (mkF m 4 #[.val (.ref a)] [(.ref r)])) _
    exact retOut X2 hx Bd.returns rfl (Or.inr (Or.inr (Or.inr (Or.inr ⟨rfl, rfl, rfl⟩)))) (hb hby d14_4) hr
  · show Q_rm14 Z a r h0 n0 _ T2.heap _
    rw [e2]
    exact ⟨rfl, N0, rfl⟩
theorem d16_0 : decode prog_5_method_6_code 0 = .ok (.aload_n 0, 1) := by decide +kernel
theorem d16_1 : decode prog_5_method_6_code 1 = .ok (.getfield 26, 3) := by decide +kernel
theorem d16_4 : decode prog_5_method_6_code 4 = .ok (.areturn, 1) := by decide +kernel
theorem pn_16 : plainName "com/example/headroom/headroom/BrokerUsage" = true := by first | (simp [plainName, overriddenIn]; done) | decide +kernel
theorem ef_rm16 (m : MethodId) (x0 : Addr) : entryFrame m #[(.ref x0)] 1 = mkF m 0 #[.val (.ref x0)] [] := by first | (simp [entryFrame, mkF, argsToLocals, Value.category]; done) | rfl
def Q_rm16 (Z : State) (a : Addr) (r : Addr) (h0 : Heap) (n0 : Nat) (rv : Option Value) (h : Heap) (L : List Loc) : Prop := rv = some (.ref r) ∧ Fr n0 L ∧ h = h0
set_option maxRecDepth 65536 in
set_option maxHeartbeats 40000000 in
theorem rm16 (l : Launch) (Z : State) (a0 : Array Value) (hw : ∀ d ∈ tables_1, d.before a0 Z = true) (ws : List Jvm.Cond) (a : Addr) (r : Addr) (h0 : Heap) (n0 : Nat) (Z0 : n0 ≤ h0.size) (F1 : Fld Z h0 a "com/example/headroom/headroom/BrokerUsage" "directMemory" "Lcom/example/headroom/headroom/ResourceUsage;" (.ref r)) :
    MetFree l (⟨"com/example/headroom/headroom/BrokerUsage", "directMemory", "()Lcom/example/headroom/headroom/ResourceUsage;"⟩ : MethodName) (head1 (Jvm.Cond.code (⟨"com/example/headroom/headroom/BrokerUsage", "directMemory", "()Lcom/example/headroom/headroom/ResourceUsage;"⟩ : MethodName) prog_5_method_6_code 1 (some (.object "com/example/headroom/headroom/ResourceUsage")) :: ws) ({ frames := 0, cells := 0, slots := 0, locals := 0 } : Room)) (fun av U => av = #[(.ref a)] ∧ Z.Warmed39 U.vm ∧ U.heap = h0) (fun _ _ _ _ _ => True) (fun _ U o U' => ∃ rv L, o = .returned rv ∧ Q_rm16 Z a r h0 n0 rv U'.heap L ∧ FrameEnd U o U' L ({ frames := 0, cells := 0, slots := 0, locals := 0 } : Room).cells ({ frames := 0, cells := 0, slots := 0, locals := 0 } : Room).slots) := by
  refine MetFree.of_bodySF (plainFor_of_name pn_16) hisR ?_
  intro p e s m args below meth c s₁ Bd hml0 hP hK
  obtain ⟨rfl, hZ, hh⟩ := hP
  have hx := Bd.exec
  have hby := Bd.bytes
  have hml : c.maxLocals = 1 := hml0
  have hown : s.vm.findClass "com/example/headroom/headroom/BrokerUsage" = some m.cls := findClass_of_methodNamed Bd.named
  have hnm := (name_of_methodNamed Bd.named Bd.method).1
  have X0 : Stand p l e ({ frames := 0, cells := 0, slots := 0, locals := 0 } : Room) s m #[(.ref a)] below meth c s₁ [] 0 0 := Stand.of_body Bd
  have e0 : s₁.heap = h0 := by rw [← hh, Bd.state]; rfl
  have N0 := Fr.nil n0
  have pre0 : ∀ t, Steps p.tables e below (s₁.setTop (mkF m 0 #[.val (.ref a)] [])) t → Steps p.tables e below (s₁.setTop (entryFrame m #[(.ref a)] 1)) t := fun t k => castTop (ef_rm16 m a) k
  have sg1 : ∀ target, Steps p.tables e below (s₁.setTop (mkF m 1 #[.val (.ref a)] [(.ref a)])) target → Steps p.tables e below (s₁.setTop (mkF m 0 #[.val (.ref a)] [])) target := by
    intro target kt
    show Steps p.tables e below (s₁.setTop (mkF m 0 #[.val (.ref a)] [])) _
    refine XS.aloadN X0.here hx rfl (hb hby d16_0) rfl rfl ?_
    exact kt
  obtain ⟨T2, X2, e2, st2⟩ := getF X0 hx hZ hown (host := "") (Or.inl (hw _ (List.mem_of_getElem? (i := 88) rfl))) Via.refl e0 F1 (g := (mkF m 1 #[.val (.ref a)] [(.ref a)])) rfl rfl (hb hby d16_1)
  obtain ⟨fs, hr, hrun, hended, hW, hsame⟩ := X2.leave (v := some (.ref r)) (fun h => by rw [Bd.returns] at h; cases h)
  refine ⟨_, _, pre0 _ ?_, hrun, hended, _, _, rfl, ?_, ⟨_, rfl⟩, hW, hsame.mono (by decide) (by decide)⟩
  · show Steps p.tables e below (s₁.setTop (mkF m 0 #[.val (.ref a)] [])) _
    refine sg1 _ ?_
    refine st2 _ ?_
    show Steps p.tables e below (T2.setTop (mkF m 4 #[.val (.ref a)] [(.ref r)])) _
    exact retOut X2 hx Bd.returns rfl (Or.inr (Or.inr (Or.inr (Or.inr ⟨rfl, rfl, rfl⟩)))) (hb hby d16_4) hr
  · show Q_rm16 Z a r h0 n0 _ T2.heap _
    rw [e2]
    exact ⟨rfl, N0, rfl⟩
theorem d17_0 : decode prog_5_method_7_code 0 = .ok (.aload_n 0, 1) := by decide +kernel
theorem d17_1 : decode prog_5_method_7_code 1 = .ok (.getfield 28, 3) := by decide +kernel
theorem d17_4 : decode prog_5_method_7_code 4 = .ok (.areturn, 1) := by decide +kernel
theorem pn_17 : plainName "com/example/headroom/headroom/BrokerUsage" = true := by first | (simp [plainName, overriddenIn]; done) | decide +kernel
theorem ef_rm17 (m : MethodId) (x0 : Addr) : entryFrame m #[(.ref x0)] 1 = mkF m 0 #[.val (.ref x0)] [] := by first | (simp [entryFrame, mkF, argsToLocals, Value.category]; done) | rfl
def Q_rm17 (Z : State) (a : Addr) (r : Addr) (h0 : Heap) (n0 : Nat) (rv : Option Value) (h : Heap) (L : List Loc) : Prop := rv = some (.ref r) ∧ Fr n0 L ∧ h = h0
set_option maxRecDepth 65536 in
set_option maxHeartbeats 40000000 in
theorem rm17 (l : Launch) (Z : State) (a0 : Array Value) (hw : ∀ d ∈ tables_1, d.before a0 Z = true) (ws : List Jvm.Cond) (a : Addr) (r : Addr) (h0 : Heap) (n0 : Nat) (Z0 : n0 ≤ h0.size) (F1 : Fld Z h0 a "com/example/headroom/headroom/BrokerUsage" "bandwidthIn" "Lcom/example/headroom/headroom/ResourceUsage;" (.ref r)) :
    MetFree l (⟨"com/example/headroom/headroom/BrokerUsage", "bandwidthIn", "()Lcom/example/headroom/headroom/ResourceUsage;"⟩ : MethodName) (head1 (Jvm.Cond.code (⟨"com/example/headroom/headroom/BrokerUsage", "bandwidthIn", "()Lcom/example/headroom/headroom/ResourceUsage;"⟩ : MethodName) prog_5_method_7_code 1 (some (.object "com/example/headroom/headroom/ResourceUsage")) :: ws) ({ frames := 0, cells := 0, slots := 0, locals := 0 } : Room)) (fun av U => av = #[(.ref a)] ∧ Z.Warmed39 U.vm ∧ U.heap = h0) (fun _ _ _ _ _ => True) (fun _ U o U' => ∃ rv L, o = .returned rv ∧ Q_rm17 Z a r h0 n0 rv U'.heap L ∧ FrameEnd U o U' L ({ frames := 0, cells := 0, slots := 0, locals := 0 } : Room).cells ({ frames := 0, cells := 0, slots := 0, locals := 0 } : Room).slots) := by
  refine MetFree.of_bodySF (plainFor_of_name pn_17) hisR ?_
  intro p e s m args below meth c s₁ Bd hml0 hP hK
  obtain ⟨rfl, hZ, hh⟩ := hP
  have hx := Bd.exec
  have hby := Bd.bytes
  have hml : c.maxLocals = 1 := hml0
  have hown : s.vm.findClass "com/example/headroom/headroom/BrokerUsage" = some m.cls := findClass_of_methodNamed Bd.named
  have hnm := (name_of_methodNamed Bd.named Bd.method).1
  have X0 : Stand p l e ({ frames := 0, cells := 0, slots := 0, locals := 0 } : Room) s m #[(.ref a)] below meth c s₁ [] 0 0 := Stand.of_body Bd
  have e0 : s₁.heap = h0 := by rw [← hh, Bd.state]; rfl
  have N0 := Fr.nil n0
  have pre0 : ∀ t, Steps p.tables e below (s₁.setTop (mkF m 0 #[.val (.ref a)] [])) t → Steps p.tables e below (s₁.setTop (entryFrame m #[(.ref a)] 1)) t := fun t k => castTop (ef_rm17 m a) k
  have sg1 : ∀ target, Steps p.tables e below (s₁.setTop (mkF m 1 #[.val (.ref a)] [(.ref a)])) target → Steps p.tables e below (s₁.setTop (mkF m 0 #[.val (.ref a)] [])) target := by
    intro target kt
    show Steps p.tables e below (s₁.setTop (mkF m 0 #[.val (.ref a)] [])) _
    refine XS.aloadN X0.here hx rfl (hb hby d17_0) rfl rfl ?_
    exact kt
  obtain ⟨T2, X2, e2, st2⟩ := getF X0 hx hZ hown (host := "") (Or.inl (hw _ (List.mem_of_getElem? (i := 90) rfl))) Via.refl e0 F1 (g := (mkF m 1 #[.val (.ref a)] [(.ref a)])) rfl rfl (hb hby d17_1)
  obtain ⟨fs, hr, hrun, hended, hW, hsame⟩ := X2.leave (v := some (.ref r)) (fun h => by rw [Bd.returns] at h; cases h)
  refine ⟨_, _, pre0 _ ?_, hrun, hended, _, _, rfl, ?_, ⟨_, rfl⟩, hW, hsame.mono (by decide) (by decide)⟩
  · show Steps p.tables e below (s₁.setTop (mkF m 0 #[.val (.ref a)] [])) _
    refine sg1 _ ?_
    refine st2 _ ?_
    show Steps p.tables e below (T2.setTop (mkF m 4 #[.val (.ref a)] [(.ref r)])) _
    exact retOut X2 hx Bd.returns rfl (Or.inr (Or.inr (Or.inr (Or.inr ⟨rfl, rfl, rfl⟩)))) (hb hby d17_4) hr
  · show Q_rm17 Z a r h0 n0 _ T2.heap _
    rw [e2]
    exact ⟨rfl, N0, rfl⟩
theorem d18_0 : decode prog_5_method_8_code 0 = .ok (.aload_n 0, 1) := by decide +kernel
theorem d18_1 : decode prog_5_method_8_code 1 = .ok (.getfield 30, 3) := by decide +kernel
theorem d18_4 : decode prog_5_method_8_code 4 = .ok (.areturn, 1) := by decide +kernel
theorem pn_18 : plainName "com/example/headroom/headroom/BrokerUsage" = true := by first | (simp [plainName, overriddenIn]; done) | decide +kernel
theorem ef_rm18 (m : MethodId) (x0 : Addr) : entryFrame m #[(.ref x0)] 1 = mkF m 0 #[.val (.ref x0)] [] := by first | (simp [entryFrame, mkF, argsToLocals, Value.category]; done) | rfl
def Q_rm18 (Z : State) (a : Addr) (r : Addr) (h0 : Heap) (n0 : Nat) (rv : Option Value) (h : Heap) (L : List Loc) : Prop := rv = some (.ref r) ∧ Fr n0 L ∧ h = h0
set_option maxRecDepth 65536 in
set_option maxHeartbeats 40000000 in
theorem rm18 (l : Launch) (Z : State) (a0 : Array Value) (hw : ∀ d ∈ tables_1, d.before a0 Z = true) (ws : List Jvm.Cond) (a : Addr) (r : Addr) (h0 : Heap) (n0 : Nat) (Z0 : n0 ≤ h0.size) (F1 : Fld Z h0 a "com/example/headroom/headroom/BrokerUsage" "bandwidthOut" "Lcom/example/headroom/headroom/ResourceUsage;" (.ref r)) :
    MetFree l (⟨"com/example/headroom/headroom/BrokerUsage", "bandwidthOut", "()Lcom/example/headroom/headroom/ResourceUsage;"⟩ : MethodName) (head1 (Jvm.Cond.code (⟨"com/example/headroom/headroom/BrokerUsage", "bandwidthOut", "()Lcom/example/headroom/headroom/ResourceUsage;"⟩ : MethodName) prog_5_method_8_code 1 (some (.object "com/example/headroom/headroom/ResourceUsage")) :: ws) ({ frames := 0, cells := 0, slots := 0, locals := 0 } : Room)) (fun av U => av = #[(.ref a)] ∧ Z.Warmed39 U.vm ∧ U.heap = h0) (fun _ _ _ _ _ => True) (fun _ U o U' => ∃ rv L, o = .returned rv ∧ Q_rm18 Z a r h0 n0 rv U'.heap L ∧ FrameEnd U o U' L ({ frames := 0, cells := 0, slots := 0, locals := 0 } : Room).cells ({ frames := 0, cells := 0, slots := 0, locals := 0 } : Room).slots) := by
  refine MetFree.of_bodySF (plainFor_of_name pn_18) hisR ?_
  intro p e s m args below meth c s₁ Bd hml0 hP hK
  obtain ⟨rfl, hZ, hh⟩ := hP
  have hx := Bd.exec
  have hby := Bd.bytes
  have hml : c.maxLocals = 1 := hml0
  have hown : s.vm.findClass "com/example/headroom/headroom/BrokerUsage" = some m.cls := findClass_of_methodNamed Bd.named
  have hnm := (name_of_methodNamed Bd.named Bd.method).1
  have X0 : Stand p l e ({ frames := 0, cells := 0, slots := 0, locals := 0 } : Room) s m #[(.ref a)] below meth c s₁ [] 0 0 := Stand.of_body Bd
  have e0 : s₁.heap = h0 := by rw [← hh, Bd.state]; rfl
  have N0 := Fr.nil n0
  have pre0 : ∀ t, Steps p.tables e below (s₁.setTop (mkF m 0 #[.val (.ref a)] [])) t → Steps p.tables e below (s₁.setTop (entryFrame m #[(.ref a)] 1)) t := fun t k => castTop (ef_rm18 m a) k
  have sg1 : ∀ target, Steps p.tables e below (s₁.setTop (mkF m 1 #[.val (.ref a)] [(.ref a)])) target → Steps p.tables e below (s₁.setTop (mkF m 0 #[.val (.ref a)] [])) target := by
    intro target kt
    show Steps p.tables e below (s₁.setTop (mkF m 0 #[.val (.ref a)] [])) _
    refine XS.aloadN X0.here hx rfl (hb hby d18_0) rfl rfl ?_
    exact kt
  obtain ⟨T2, X2, e2, st2⟩ := getF X0 hx hZ hown (host := "") (Or.inl (hw _ (List.mem_of_getElem? (i := 92) rfl))) Via.refl e0 F1 (g := (mkF m 1 #[.val (.ref a)] [(.ref a)])) rfl rfl (hb hby d18_1)
  obtain ⟨fs, hr, hrun, hended, hW, hsame⟩ := X2.leave (v := some (.ref r)) (fun h => by rw [Bd.returns] at h; cases h)
  refine ⟨_, _, pre0 _ ?_, hrun, hended, _, _, rfl, ?_, ⟨_, rfl⟩, hW, hsame.mono (by decide) (by decide)⟩
  · show Steps p.tables e below (s₁.setTop (mkF m 0 #[.val (.ref a)] [])) _
    refine sg1 _ ?_
    refine st2 _ ?_
    show Steps p.tables e below (T2.setTop (mkF m 4 #[.val (.ref a)] [(.ref r)])) _
    exact retOut X2 hx Bd.returns rfl (Or.inr (Or.inr (Or.inr (Or.inr ⟨rfl, rfl, rfl⟩)))) (hb hby d18_4) hr
  · show Q_rm18 Z a r h0 n0 _ T2.heap _
    rw [e2]
    exact ⟨rfl, N0, rfl⟩
theorem d10_0 : decode prog_20_method_1_code 0 = .ok (.aload_n 0, 1) := by decide +kernel
theorem d10_1 : decode prog_20_method_1_code 1 = .ok (.invokespecial 1, 3) := by decide +kernel
theorem pd_3 : parseMethodDescriptor "()V" = some ⟨[], none⟩ := by decide +kernel
theorem d10_4 : decode prog_20_method_1_code 4 = .ok (.ldc 7, 2) := by decide +kernel
theorem d10_6 : decode prog_20_method_1_code 6 = .ok (.dload_n 1, 1) := by decide +kernel
theorem d10_7 : decode prog_20_method_1_code 7 = .ok (.invokestatic 9, 3) := by decide +kernel
theorem pd_17 : parseMethodDescriptor "(Ljava/lang/String;D)V" = some ⟨[(.object "java/lang/String"), .double], none⟩ := by decide +kernel
theorem d10_10 : decode prog_20_method_1_code 10 = .ok (.ldc 15, 2) := by decide +kernel
theorem d10_12 : decode prog_20_method_1_code 12 = .ok (.dload_n 3, 1) := by decide +kernel
theorem d10_13 : decode prog_20_method_1_code 13 = .ok (.invokestatic 9, 3) := by decide +kernel
theorem d10_16 : decode prog_20_method_1_code 16 = .ok (.aload_n 0, 1) := by decide +kernel
theorem d10_17 : decode prog_20_method_1_code 17 = .ok (.dload_n 1, 1) := by decide +kernel
theorem d10_18 : decode prog_20_method_1_code 18 = .ok (.putfield 17, 3) := by decide +kernel
theorem d10_21 : decode prog_20_method_1_code 21 = .ok (.aload_n 0, 1) := by decide +kernel
theorem d10_22 : decode prog_20_method_1_code 22 = .ok (.dload_n 3, 1) := by decide +kernel
theorem d10_23 : decode prog_20_method_1_code 23 = .ok (.putfield 22, 3) := by decide +kernel
theorem d10_26 : decode prog_20_method_1_code 26 = .ok (.return_, 1) := by decide +kernel
theorem pn_10 : plainName "com/example/headroom/headroom/ResourceUsage" = true := by first | (simp [plainName, overriddenIn]; done) | decide +kernel
theorem ef_rm10 (m : MethodId) (x0 : Addr) (x1 : UInt64) (x2 : UInt64) : entryFrame m #[(.ref x0), (.double x1), (.double x2)] 5 = mkF m 0 #[.val (.ref x0), .val (.double x1), .second, .val (.double x2), .second] [] := by first | (simp [entryFrame, mkF, argsToLocals, Value.category]; done) | rfl
def Q_rm10 (Z : State) (a : Addr) (u : UInt64) (v : UInt64) (h0 : Heap) (n0 : Nat) (rv : Option Value) (h : Heap) (L : List Loc) : Prop := rv = none ∧ Fr n0 L ∧ Keep h0 h [a] ∧ Exa Z h a "com/example/headroom/headroom/ResourceUsage" ∧ Fld Z h a "com/example/headroom/headroom/ResourceUsage" "usage" "D" (.double u) ∧ Fld Z h a "com/example/headroom/headroom/ResourceUsage" "limit" "D" (.double v)
set_option maxRecDepth 65536 in
set_option maxHeartbeats 40000000 in
theorem rm10 (l : Launch) (Z : State) (a0 : Array Value) (hw : ∀ d ∈ tables_1, d.before a0 Z = true) (ws : List Jvm.Cond) (a : Addr) (u : UInt64) (v : UInt64) (h0 : Heap) (n0 : Nat) (Z0 : n0 ≤ h0.size) (E_a : Exa Z h0 a "com/example/headroom/headroom/ResourceUsage") (F1 : Fld Z h0 a "com/example/headroom/headroom/ResourceUsage" "usage" "D" (.double (0 : UInt64))) (F2 : Fld Z h0 a "com/example/headroom/headroom/ResourceUsage" "limit" "D" (.double (0 : UInt64))) (g_a : n0 ≤ a) (hu : Jvm.Free.Fl.Fin64 u) (hu2 : ¬ ((cmpValue (FP.dcmp u (0 : UInt64)) .g) < (0 : Int32))) (hv : Jvm.Free.Fl.Fin64 v) (hv2 : ¬ ((cmpValue (FP.dcmp v (0 : UInt64)) .g) < (0 : Int32))) :
    MetFree l (⟨"com/example/headroom/headroom/ResourceUsage", "<init>", "(DD)V"⟩ : MethodName) (head1 (Jvm.Cond.code (⟨"com/example/headroom/headroom/ResourceUsage", "<init>", "(DD)V"⟩ : MethodName) prog_20_method_1_code 5 none :: ws) ({ frames := 3, cells := 4, slots := 48, locals := 40 } : Room)) (fun av U => av = #[(.ref a), (.double u), (.double v)] ∧ Z.Warmed39 U.vm ∧ U.heap = h0) (fun _ _ _ _ _ => True) (fun _ U o U' => ∃ rv L, o = .returned rv ∧ Q_rm10 Z a u v h0 n0 rv U'.heap L ∧ ReturnedEndW U o U' L ({ frames := 3, cells := 4, slots := 48, locals := 40 } : Room).cells ({ frames := 3, cells := 4, slots := 48, locals := 40 } : Room).slots) := by
  refine MetFree.of_bodySF (plainFor_of_name pn_10) hisR ?_
  intro p e s m args below meth c s₁ Bd hml0 hP hK
  obtain ⟨rfl, hZ, hh⟩ := hP
  have hx := Bd.exec
  have hby := Bd.bytes
  have hml : c.maxLocals = 5 := hml0
  have hown : s.vm.findClass "com/example/headroom/headroom/ResourceUsage" = some m.cls := findClass_of_methodNamed Bd.named
  have hnm := (name_of_methodNamed Bd.named Bd.method).1
  have X0 : Stand p l e ({ frames := 3, cells := 4, slots := 48, locals := 40 } : Room) s m #[(.ref a), (.double u), (.double v)] below meth c s₁ [] 0 0 := Stand.of_body Bd
  have e0 : s₁.heap = h0 := by rw [← hh, Bd.state]; rfl
  have N0 := Fr.nil n0
  have pre0 : ∀ t, Steps p.tables e below (s₁.setTop (mkF m 0 #[.val (.ref a), .val (.double u), .second, .val (.double v), .second] [])) t → Steps p.tables e below (s₁.setTop (entryFrame m #[(.ref a), (.double u), (.double v)] 5)) t := fun t k => castTop (ef_rm10 m a u v) k
  have hS0 : s.Since s.vm h0.size := State.WarmedH.since (State.WarmedH.refl s) _
  have sg1 : ∀ target, Steps p.tables e below (s₁.setTop (mkF m 1 #[.val (.ref a), .val (.double u), .second, .val (.double v), .second] [(.ref a)])) target → Steps p.tables e below (s₁.setTop (mkF m 0 #[.val (.ref a), .val (.double u), .second, .val (.double v), .second] [])) target := by
    intro target kt
    show Steps p.tables e below (s₁.setTop (mkF m 0 #[.val (.ref a), .val (.double u), .second, .val (.double v), .second] [])) _
    refine XS.aloadN X0.here hx rfl (hb hby d10_0) rfl rfl ?_
    exact kt
  obtain ⟨_, _, ⟨T2, L2, k2, n2⟩, -, X2, ⟨Lc2, hQ2, l2, y2, z2⟩, st2⟩ := X0.specialBack hx (y := (⟨"java/lang/Record", "<init>", "()V"⟩ : MethodName)) rfl hown (mvT hZ (hw _ (List.mem_of_getElem? (i := 66) rfl))) (mvT hZ (hw _ (List.mem_of_getElem? (i := 11) rfl))) (mvT hZ (hw _ (List.mem_of_getElem? (i := 14) rfl))) (by decide) (backOf (W := 0) (rm3 l Z a0 hw [] a h0 n0 Z0 ) hZ (hw _ (List.mem_of_getElem? (i := 14) rfl)) (hw _ (List.mem_of_getElem? (i := 13) rfl)) (by decide) (by decide)) (g := (mkF m 1 #[.val (.ref a), .val (.double u), .second, .val (.double v), .second] [(.ref a)])) rfl (by rw [hml]; rfl) (Steps.refl _) (a := a) (argsL := []) (rest := []) (lenOf pd_3 rfl) rfl (by show 2 * 0 + _ ≤ _; exact Nat.le_of_eq rfl) (hb hby d10_1) (fun _ _ => ⟨rfl, e0, (by decide : 0 + 0 ≤ _), (by decide : 0 + 0 ≤ _)⟩)
  dsimp only [Pt.U, Pt.locs, Pt.cells, Pt.slots] at X2 l2 y2 z2 st2 hQ2
  subst l2 y2 z2
  obtain ⟨rfl, N2q, c2_0⟩ := hQ2
  have N2 := Fr.app N0 N2q
  obtain ⟨b3, T3, h3, k3, X3, e3, E3, hS3, hk3, hZ3, hown3, st3⟩ := ldcS (s := s) (vm0 := s.vm) X2 hx hZ (own := "com/example/headroom/headroom/ResourceUsage") hown (hw _ (List.mem_of_getElem? (i := 67) rfl)) (own_wS hw) c2_0 hS0 (Nat.le_refl h0.size) (g := (mkF m 4 #[.val (.ref a), .val (.double u), .second, .val (.double v), .second] [])) rfl (hb hby d10_4) (n := 20) (by decide) (by decide) (by decide) (by decide)
  have Zs3 : n0 ≤ h3.size := Nat.le_trans Z0 E3.1
  have K3 : Keep h0 h3 [a] := (Keep.refl h0 [a]).ext E3
  have f4 : Exa Z h3 a "com/example/headroom/headroom/ResourceUsage" := E_a.ext E3
  have f5 : Fld Z h3 a "com/example/headroom/headroom/ResourceUsage" "usage" "D" (.double (0 : UInt64)) := F1.ext E3
  have f6 : Fld Z h3 a "com/example/headroom/headroom/ResourceUsage" "limit" "D" (.double (0 : UInt64)) := F2.ext E3
  have sg7 : ∀ target, Steps p.tables e below (T3.setTop (mkF m 7 #[.val (.ref a), .val (.double u), .second, .val (.double v), .second] [(.double u), (.ref b3)])) target → Steps p.tables e below (T3.setTop (mkF m 6 #[.val (.ref a), .val (.double u), .second, .val (.double v), .second] [(.ref b3)])) target := by
    intro target kt
    show Steps p.tables e below (T3.setTop (mkF m 6 #[.val (.ref a), .val (.double u), .second, .val (.double v), .second] [(.ref b3)])) _
    refine XS.dloadN X3.here hx rfl (hb hby d10_6) rfl ?_
    exact kt
  obtain ⟨_, _, ⟨T8, L8, k8, n8⟩, -, X8, ⟨Lc8, hQ8, l8, y8, z8⟩, st8⟩ := Jvm.LawKit.callS X3 hx (y := (⟨"com/example/headroom/headroom/Figures", "requireNonNegative", "(Ljava/lang/String;D)V"⟩ : MethodName)) hown3 (mvT hZ3 (hw _ (List.mem_of_getElem? (i := 68) rfl))) (mvT hZ3 (hw _ (List.mem_of_getElem? (i := 27) rfl))) (mvT hZ3 (hw _ (List.mem_of_getElem? (i := 28) rfl))) (mvT hZ3 (hw _ (List.mem_of_getElem? (i := 29) rfl))) (by decide) (backOf (W := 0) (rm5 l Z a0 hw [] b3 u h3 n0 Zs3 hu hu2) hZ3 (hw _ (List.mem_of_getElem? (i := 29) rfl)) (hw _ (List.mem_of_getElem? (i := 28) rfl)) (by decide) (by decide)) (g := (mkF m 7 #[.val (.ref a), .val (.double u), .second, .val (.double v), .second] [(.double u), (.ref b3)])) rfl (by rw [hml]; rfl) (argsL := [(.ref b3), (.double u)]) (rest := []) (lenOf pd_17 rfl) rfl (by show 2 * 0 + _ ≤ _; exact Nat.le_of_eq rfl) (hb hby d10_7) (fun _ _ => ⟨rfl, e3, (by decide : 2 + 0 ≤ _), (by decide : 24 + 0 ≤ _)⟩)
  dsimp only [Pt.U, Pt.locs, Pt.cells, Pt.slots] at X8 l8 y8 z8 st8 hQ8
  subst l8 y8 z8
  obtain ⟨rfl, N8q, c8_0⟩ := hQ8
  have N8 := Fr.app N2 N8q
  obtain ⟨b9, T9, h9, k9, X9, e9, E9, hS9, hk9, hZ9, hown9, st9⟩ := ldcS (s := s) (vm0 := T3.vm) X8 hx hZ3 (own := "com/example/headroom/headroom/ResourceUsage") hown3 (hw _ (List.mem_of_getElem? (i := 69) rfl)) (own_wS hw) c8_0 hS3 hk3 (g := (mkF m 10 #[.val (.ref a), .val (.double u), .second, .val (.double v), .second] [])) rfl (hb hby d10_10) (n := 20) (by decide) (by decide) (by decide) (by decide)
  have Zs9 : n0 ≤ h9.size := Nat.le_trans Zs3 E9.1
  have K9 : Keep h0 h9 [a] := K3.ext E9
  have f10 : Exa Z h9 a "com/example/headroom/headroom/ResourceUsage" := f4.ext E9
  have f11 : Fld Z h9 a "com/example/headroom/headroom/ResourceUsage" "usage" "D" (.double (0 : UInt64)) := f5.ext E9
  have f12 : Fld Z h9 a "com/example/headroom/headroom/ResourceUsage" "limit" "D" (.double (0 : UInt64)) := f6.ext E9
  have sg13 : ∀ target, Steps p.tables e below (T9.setTop (mkF m 13 #[.val (.ref a), .val (.double u), .second, .val (.double v), .second] [(.double v), (.ref b9)])) target → Steps p.tables e below (T9.setTop (mkF m 12 #[.val (.ref a), .val (.double u), .second, .val (.double v), .second] [(.ref b9)])) target := by
    intro target kt
    show Steps p.tables e below (T9.setTop (mkF m 12 #[.val (.ref a), .val (.double u), .second, .val (.double v), .second] [(.ref b9)])) _
    refine XS.dloadN X9.here hx rfl (hb hby d10_12) rfl ?_
    exact kt
  obtain ⟨_, _, ⟨T14, L14, k14, n14⟩, -, X14, ⟨Lc14, hQ14, l14, y14, z14⟩, st14⟩ := Jvm.LawKit.callS X9 hx (y := (⟨"com/example/headroom/headroom/Figures", "requireNonNegative", "(Ljava/lang/String;D)V"⟩ : MethodName)) hown9 (mvT hZ9 (hw _ (List.mem_of_getElem? (i := 68) rfl))) (mvT hZ9 (hw _ (List.mem_of_getElem? (i := 27) rfl))) (mvT hZ9 (hw _ (List.mem_of_getElem? (i := 28) rfl))) (mvT hZ9 (hw _ (List.mem_of_getElem? (i := 29) rfl))) (by decide) (backOf (W := 0) (rm5 l Z a0 hw [] b9 v h9 n0 Zs9 hv hv2) hZ9 (hw _ (List.mem_of_getElem? (i := 29) rfl)) (hw _ (List.mem_of_getElem? (i := 28) rfl)) (by decide) (by decide)) (g := (mkF m 13 #[.val (.ref a), .val (.double u), .second, .val (.double v), .second] [(.double v), (.ref b9)])) rfl (by rw [hml]; rfl) (argsL := [(.ref b9), (.double v)]) (rest := []) (lenOf pd_17 rfl) rfl (by show 2 * 0 + _ ≤ _; exact Nat.le_of_eq rfl) (hb hby d10_13) (fun _ _ => ⟨rfl, e9, (by decide : 4 + 0 ≤ _), (by decide : 48 + 0 ≤ _)⟩)
  dsimp only [Pt.U, Pt.locs, Pt.cells, Pt.slots] at X14 l14 y14 z14 st14 hQ14
  subst l14 y14 z14
  obtain ⟨rfl, N14q, c14_0⟩ := hQ14
  have N14 := Fr.app N8 N14q
  have sg15 : ∀ target, Steps p.tables e below (T14.setTop (mkF m 18 #[.val (.ref a), .val (.double u), .second, .val (.double v), .second] [(.double u), (.ref a)])) target → Steps p.tables e below (T14.setTop (mkF m 16 #[.val (.ref a), .val (.double u), .second, .val (.double v), .second] [])) target := by
    intro target kt
    show Steps p.tables e below (T14.setTop (mkF m 16 #[.val (.ref a), .val (.double u), .second, .val (.double v), .second] [])) _
    refine XS.aloadN X14.here hx rfl (hb hby d10_16) rfl rfl ?_
    show Steps p.tables e below (T14.setTop (mkF m 17 #[.val (.ref a), .val (.double u), .second, .val (.double v), .second] [(.ref a)])) _
    refine XS.dloadN X14.here hx rfl (hb hby d10_17) rfl ?_
    exact kt
  obtain ⟨T16, h16, X16, e16, W16, st16⟩ := putF X14 hx hZ9 hown9 (host := "") (Or.inl (hw _ (List.mem_of_getElem? (i := 70) rfl))) Via.refl c14_0 f11 f10 (Or.inr ⟨(hw _ (List.mem_of_getElem? (i := 71) rfl)), rfl, hnm⟩) (hw _ (List.mem_of_getElem? (i := 57) rfl)) (ty := .double) (by decide) rfl rfl (g := (mkF m 18 #[.val (.ref a), .val (.double u), .second, .val (.double v), .second] [(.double u), (.ref a)])) rfl rfl (hb hby d10_18)
  have N16 := Fr.snoc X16 N14 g_a
  have Zs16 : n0 ≤ h16.size := by rw [W16.size]; exact Zs9
  have K16 : Keep h0 h16 [a] := K9.wr W16 (Or.inl (List.mem_of_getElem? (i := 0) rfl))
  have f17 : Exa Z h16 a "com/example/headroom/headroom/ResourceUsage" := f10.wr W16
  have f18 : Fld Z h16 a "com/example/headroom/headroom/ResourceUsage" "limit" "D" (.double (0 : UInt64)) := f12.other W16 (Or.inr (slot_ne (Or.inr (hw _ (List.mem_of_getElem? (i := 73) rfl))) (Or.inr (hw _ (List.mem_of_getElem? (i := 71) rfl))) (by decide) (t := .double) (t' := .double) (by decide) (by decide)))
  have f19 : Fld Z h16 a "com/example/headroom/headroom/ResourceUsage" "usage" "D" (.double u) := f11.same W16
  have sg20 : ∀ target, Steps p.tables e below (T16.setTop (mkF m 23 #[.val (.ref a), .val (.double u), .second, .val (.double v), .second] [(.double v), (.ref a)])) target → Steps p.tables e below (T16.setTop (mkF m 21 #[.val (.ref a), .val (.double u), .second, .val (.double v), .second] [])) target := by
    intro target kt
    show Steps p.tables e below (T16.setTop (mkF m 21 #[.val (.ref a), .val (.double u), .second, .val (.double v), .second] [])) _
    refine XS.aloadN X16.here hx rfl (hb hby d10_21) rfl rfl ?_
    show Steps p.tables e below (T16.setTop (mkF m 22 #[.val (.ref a), .val (.double u), .second, .val (.double v), .second] [(.ref a)])) _
    refine XS.dloadN X16.here hx rfl (hb hby d10_22) rfl ?_
    exact kt
  obtain ⟨T21, h21, X21, e21, W21, st21⟩ := putF X16 hx hZ9 hown9 (host := "") (Or.inl (hw _ (List.mem_of_getElem? (i := 72) rfl))) Via.refl e16 f18 f17 (Or.inr ⟨(hw _ (List.mem_of_getElem? (i := 73) rfl)), rfl, hnm⟩) (hw _ (List.mem_of_getElem? (i := 57) rfl)) (ty := .double) (by decide) rfl rfl (g := (mkF m 23 #[.val (.ref a), .val (.double u), .second, .val (.double v), .second] [(.double v), (.ref a)])) rfl rfl (hb hby d10_23)
  have N21 := Fr.snoc X21 N16 g_a
  have Zs21 : n0 ≤ h21.size := by rw [W21.size]; exact Zs16
  have K21 : Keep h0 h21 [a] := K16.wr W21 (Or.inl (List.mem_of_getElem? (i := 0) rfl))
  have f22 : Exa Z h21 a "com/example/headroom/headroom/ResourceUsage" := f17.wr W21
  have f23 : Fld Z h21 a "com/example/headroom/headroom/ResourceUsage" "usage" "D" (.double u) := f19.other W21 (Or.inr (slot_ne (Or.inr (hw _ (List.mem_of_getElem? (i := 71) rfl))) (Or.inr (hw _ (List.mem_of_getElem? (i := 73) rfl))) (by decide) (t := .double) (t' := .double) (by decide) (by decide)))
  have f24 : Fld Z h21 a "com/example/headroom/headroom/ResourceUsage" "limit" "D" (.double v) := f18.same W21
  obtain ⟨fs, hr, hrun, hended, hWE⟩ := Stand.leaveW (s := s) (vm₁ := T9.vm) X21 hS9 (by rw [e21]; exact (Nat.le_trans (Nat.le_trans hk9 (Keep.of_wr W16).1) (Keep.of_wr W21).1)) (v := none) (fun _ => rfl)
  refine ⟨_, _, pre0 _ ?_, hrun, hended, _, _, rfl, ?_, hWE.1, hWE.2.1, hWE.2.2.1, hWE.2.2.2.mono (by decide) (by decide)⟩
  · show Steps p.tables e below (s₁.setTop (mkF m 0 #[.val (.ref a), .val (.double u), .second, .val (.double v), .second] [])) _
    refine sg1 _ ?_
    refine st2.trans ?_
    refine st3 _ ?_
    refine sg7 _ ?_
    refine st8 _ ?_
    refine st9 _ ?_
    refine sg13 _ ?_
    refine st14 _ ?_
    refine sg15 _ ?_
    refine st16 _ ?_
    refine sg20 _ ?_
    refine st21 _ ?_
    show Steps p.tables e below (T21.setTop (mkF m 26 #[.val (.ref a), .val (.double u), .second, .val (.double v), .second] [])) _
    exact X21.returnOut hx Bd.returns (hb hby d10_26) hr
  · show Q_rm10 Z a u v h0 n0 _ T21.heap _
    rw [e21]
    exact ⟨rfl, N21, K21, f22, f23, f24⟩
theorem d8_0 : decode method_4_code 0 = .ok (.new 11, 3) := by decide +kernel
theorem d8_3 : decode method_4_code 3 = .ok (.dup, 1) := by decide +kernel
theorem d8_4 : decode method_4_code 4 = .ok (.iload_n 0, 1) := by decide +kernel
theorem d8_5 : decode method_4_code 5 = .ok (.ldc 13, 2) := by decide +kernel
theorem d8_7 : decode method_4_code 7 = .ok (.iand, 1) := by decide +kernel
theorem d8_8 : decode method_4_code 8 = .ok (.i2d, 1) := by decide +kernel
theorem d8_9 : decode method_4_code 9 = .ok (.iload_n 0, 1) := by decide +kernel
theorem d8_10 : decode method_4_code 10 = .ok (.invokestatic 14, 3) := by decide +kernel
theorem pd_9 : parseMethodDescriptor "(I)D" = some ⟨[.int], some .double⟩ := by decide +kernel
theorem d8_13 : decode method_4_code 13 = .ok (.invokespecial 20, 3) := by decide +kernel
theorem pd_7 : parseMethodDescriptor "(DD)V" = some ⟨[.double, .double], none⟩ := by decide +kernel
theorem d8_16 : decode method_4_code 16 = .ok (.areturn, 1) := by decide +kernel
theorem pn_8 : plainName "com/example/headroom/headroom/ResourceWeightsScorePinLaw" = true := by first | (simp [plainName, overriddenIn]; done) | decide +kernel
theorem ef_rm8 (m : MethodId) (x0 : Int32) : entryFrame m #[(.int x0)] 1 = mkF m 0 #[.val (.int x0)] [] := by first | (simp [entryFrame, mkF, argsToLocals, Value.category]; done) | rfl
def Q_rm8 (Z : State) (q : Int32) (h0 : Heap) (n0 : Nat) (rv : Option Value) (h : Heap) (L : List Loc) : Prop := ∃ b : Addr, rv = some (.ref b) ∧ Fr n0 L ∧ h0.size ≤ b ∧ n0 ≤ b ∧ Keep h0 h [] ∧ Exa Z h b "com/example/headroom/headroom/ResourceUsage" ∧ Fld Z h b "com/example/headroom/headroom/ResourceUsage" "usage" "D" (.double (FP.i2d (own_u q))) ∧ Fld Z h b "com/example/headroom/headroom/ResourceUsage" "limit" "D" (.double (own_limv (own_lc q)))
set_option maxRecDepth 65536 in
set_option maxHeartbeats 40000000 in
theorem rm8 (l : Launch) (Z : State) (a0 : Array Value) (hw : ∀ d ∈ tables_1, d.before a0 Z = true) (ws : List Jvm.Cond) (q : Int32) (h0 : Heap) (n0 : Nat) (Z0 : n0 ≤ h0.size) :
    MetFree l (⟨"com/example/headroom/headroom/ResourceWeightsScorePinLaw", "usageOf", "(I)Lcom/example/headroom/headroom/ResourceUsage;"⟩ : MethodName) (head1 (Jvm.Cond.code (⟨"com/example/headroom/headroom/ResourceWeightsScorePinLaw", "usageOf", "(I)Lcom/example/headroom/headroom/ResourceUsage;"⟩ : MethodName) method_4_code 1 (some (.object "com/example/headroom/headroom/ResourceUsage")) :: ws) ({ frames := 4, cells := 5, slots := 50, locals := 57 } : Room)) (fun av U => av = #[(.int q)] ∧ Z.Warmed39 U.vm ∧ U.heap = h0) (fun _ _ _ _ _ => True) (fun _ U o U' => ∃ rv L, o = .returned rv ∧ Q_rm8 Z q h0 n0 rv U'.heap L ∧ ReturnedEndW U o U' L ({ frames := 4, cells := 5, slots := 50, locals := 57 } : Room).cells ({ frames := 4, cells := 5, slots := 50, locals := 57 } : Room).slots) := by
  refine MetFree.of_bodySF (plainFor_of_name pn_8) hisR ?_
  intro p e s m args below meth c s₁ Bd hml0 hP hK
  obtain ⟨rfl, hZ, hh⟩ := hP
  have hx := Bd.exec
  have hby := Bd.bytes
  have hml : c.maxLocals = 1 := hml0
  have hown : s.vm.findClass "com/example/headroom/headroom/ResourceWeightsScorePinLaw" = some m.cls := findClass_of_methodNamed Bd.named
  have hnm := (name_of_methodNamed Bd.named Bd.method).1
  have X0 : Stand p l e ({ frames := 4, cells := 5, slots := 50, locals := 57 } : Room) s m #[(.int q)] below meth c s₁ [] 0 0 := Stand.of_body Bd
  have e0 : s₁.heap = h0 := by rw [← hh, Bd.state]; rfl
  have N0 := Fr.nil n0
  have pre0 : ∀ t, Steps p.tables e below (s₁.setTop (mkF m 0 #[.val (.int q)] [])) t → Steps p.tables e below (s₁.setTop (entryFrame m #[(.int q)] 1)) t := fun t k => castTop (ef_rm8 m q) k
  have hS0 : s.Since s.vm h0.size := State.WarmedH.since (State.WarmedH.refl s) _
  obtain ⟨T1, h1, X1, e1, E1, A1, D1, -, st1⟩ := newO X0 hx hZ hown (hw _ (List.mem_of_getElem? (i := 56) rfl)) (hw _ (List.mem_of_getElem? (i := 57) rfl)) (hw _ (List.mem_of_getElem? (i := 58) rfl)) e0 (g := (mkF m 0 #[.val (.int q)] [])) rfl (hb hby d8_0) (by decide) (by decide)
  obtain ⟨b1, g1⟩ : ∃ z, z = h0.size := ⟨_, rfl⟩
  rw [← g1] at A1 D1 st1
  have g_b1 : n0 ≤ b1 := Nat.le_trans Z0 (Nat.le_of_eq g1.symm)
  have sz_b1 : h0.size ≤ b1 := Nat.le_trans (Keep.refl h0 []).1 (Nat.le_of_eq g1.symm)
  have Zs1 : n0 ≤ h1.size := Nat.le_trans Z0 E1.1
  have K1 : Keep h0 h1 [] := (Keep.refl h0 []).ext E1
  have f2 : Exa Z h1 b1 "com/example/headroom/headroom/ResourceUsage" := A1
  have f3 : Fld Z h1 b1 "com/example/headroom/headroom/ResourceUsage" "usage" "D" (.double (0 : UInt64)) := D1 (Or.inr (hw _ (List.mem_of_getElem? (i := 71) rfl))) (ty := .double) (by decide)
  have f4 : Fld Z h1 b1 "com/example/headroom/headroom/ResourceUsage" "limit" "D" (.double (0 : UInt64)) := D1 (Or.inr (hw _ (List.mem_of_getElem? (i := 73) rfl))) (ty := .double) (by decide)
  have sg5 : ∀ target, Steps p.tables e below (T1.setTop (mkF m 10 #[.val (.int q)] [(.int q), (.double (FP.i2d (own_u q))), (.ref b1), (.ref b1)])) target → Steps p.tables e below (T1.setTop (mkF m 3 #[.val (.int q)] [(.ref b1)])) target := by
    intro target kt
    show Steps p.tables e below (T1.setTop (mkF m 3 #[.val (.int q)] [(.ref b1)])) _
    refine XS.dup X1.here hx rfl (hb hby d8_3) rfl rfl ?_
    show Steps p.tables e below (T1.setTop (mkF m 4 #[.val (.int q)] [(.ref b1), (.ref b1)])) _
    refine XS.iloadN X1.here hx rfl (hb hby d8_4) rfl ?_
    show Steps p.tables e below (T1.setTop (mkF m 5 #[.val (.int q)] [(.int q), (.ref b1), (.ref b1)])) _
    refine X1.ldcInt hx hown (mvT hZ (hw _ (List.mem_of_getElem? (i := 59) rfl))) (g := (mkF m 5 #[.val (.int q)] [(.int q), (.ref b1), (.ref b1)])) rfl (hb hby d8_5) _ ?_
    show Steps p.tables e below (T1.setTop (mkF m 7 #[.val (.int q)] [(.int (65535 : Int32)), (.int q), (.ref b1), (.ref b1)])) _
    refine XS.iand X1.here hx rfl (hb hby d8_7) rfl ?_
    show Steps p.tables e below (T1.setTop (mkF m 8 #[.val (.int q)] [(.int (own_u q)), (.ref b1), (.ref b1)])) _
    refine XS.i2dS X1.here hx rfl (v := (FP.i2d (own_u q))) (hb hby d8_8) rfl rfl ?_
    show Steps p.tables e below (T1.setTop (mkF m 9 #[.val (.int q)] [(.double (FP.i2d (own_u q))), (.ref b1), (.ref b1)])) _
    refine XS.iloadN X1.here hx rfl (hb hby d8_9) rfl ?_
    exact kt
  obtain ⟨_, _, ⟨T6, L6, k6, n6⟩, -, X6, ⟨Lc6, hQ6, l6, y6, z6⟩, st6⟩ := Jvm.LawKit.callS X1 hx (y := (⟨"com/example/headroom/headroom/ResourceWeightsScorePinLaw", "limitOf", "(I)D"⟩ : MethodName)) hown (mvT hZ (hw _ (List.mem_of_getElem? (i := 60) rfl))) (mvT hZ (hw _ (List.mem_of_getElem? (i := 61) rfl))) (mvT hZ (hw _ (List.mem_of_getElem? (i := 5) rfl))) (mvT hZ (hw _ (List.mem_of_getElem? (i := 62) rfl))) (by decide) (backOf (W := 4) (rm9 l Z a0 hw [] q h1 n0 Zs1 ) hZ (hw _ (List.mem_of_getElem? (i := 62) rfl)) (hw _ (List.mem_of_getElem? (i := 5) rfl)) (by decide) (by decide)) (g := (mkF m 10 #[.val (.int q)] [(.int q), (.double (FP.i2d (own_u q))), (.ref b1), (.ref b1)])) rfl (by rw [hml]; rfl) (argsL := [(.int q)]) (rest := [(.double (FP.i2d (own_u q))), (.ref b1), (.ref b1)]) (lenOf pd_9 rfl) rfl (by show 2 * 0 + _ ≤ _; exact Nat.le_of_eq rfl) (hb hby d8_10) (fun _ _ => ⟨rfl, e1, (by decide : 1 + 0 ≤ _), (by decide : 2 + 0 ≤ _)⟩)
  dsimp only [Pt.U, Pt.locs, Pt.cells, Pt.slots] at X6 l6 y6 z6 st6 hQ6
  subst l6 y6 z6
  obtain ⟨rfl, N6q, c6_0⟩ := hQ6
  have N6 := Fr.app N0 N6q
  obtain ⟨_, _, ⟨T7, L7, k7, n7⟩, -, X7, hs7, gr7, ⟨Lc7, hQ7, l7, y7, z7⟩, st7⟩ := X6.specialBackS hx (y := (⟨"com/example/headroom/headroom/ResourceUsage", "<init>", "(DD)V"⟩ : MethodName)) rfl hown (mvT hZ (hw _ (List.mem_of_getElem? (i := 63) rfl))) (mvT hZ (hw _ (List.mem_of_getElem? (i := 64) rfl))) (mvT hZ (hw _ (List.mem_of_getElem? (i := 65) rfl))) (by decide) (backOfS (W := 1) (rm10 l Z a0 hw [] b1 (FP.i2d (own_u q)) (own_limv (own_lc q)) h1 n0 Zs1 f2 f3 f4 g_b1 (own_fin (own_u q)) (own_nonneg (own_u_rng q).1) (own_lim_fin (own_lc_rng q)) (own_lim_nonneg (own_lc_rng q))) hZ (hw _ (List.mem_of_getElem? (i := 65) rfl)) (hw _ (List.mem_of_getElem? (i := 58) rfl)) (by decide) (by decide)) (g := (mkF m 13 #[.val (.int q)] [(.double (own_limv (own_lc q))), (.double (FP.i2d (own_u q))), (.ref b1), (.ref b1)])) rfl (by rw [hml]; rfl) (Steps.refl _) (a := b1) (argsL := [(.double (FP.i2d (own_u q))), (.double (own_limv (own_lc q)))]) (rest := [(.ref b1)]) (lenOf pd_7 rfl) rfl (by show 2 * 0 + _ ≤ _; exact Nat.le_of_eq rfl) (hb hby d8_13) (fun _ _ => ⟨rfl, c6_0, (by decide : 1 + 4 ≤ _), (by decide : 2 + 48 ≤ _)⟩)
  dsimp only [Pt.U, Pt.locs, Pt.cells, Pt.slots] at X7 l7 y7 z7 st7 hQ7
  subst l7 y7 z7
  dsimp only [Pt.U] at hs7 gr7
  obtain ⟨X7r, hS7, hZ7, hown7⟩ := rebS (s := s) (vm0 := s.vm) hS0 (by rw [c6_0]; exact (Nat.le_trans (Nat.le_refl h0.size) E1.1)) X7 hs7 gr7 hZ hown
  obtain ⟨rfl, N7q, c7_0, c7_1, c7_2, c7_3⟩ := hQ7
  have N7 := Fr.app N6 N7q
  have Zs7 : n0 ≤ T7.heap.size := Nat.le_trans Zs1 c7_0.1
  have K7 : Keep h0 T7.heap [] := K1.trans c7_0 (allS (Or.inr sz_b1) all0)
  have f8 : Exa Z T7.heap b1 "com/example/headroom/headroom/ResourceUsage" := c7_1
  have f9 : Fld Z T7.heap b1 "com/example/headroom/headroom/ResourceUsage" "usage" "D" (.double (FP.i2d (own_u q))) := c7_2
  have f10 : Fld Z T7.heap b1 "com/example/headroom/headroom/ResourceUsage" "limit" "D" (.double (own_limv (own_lc q))) := c7_3
  obtain ⟨fs, hr, hrun, hended, hWE⟩ := Stand.leaveW (s := s) (vm₁ := T7.vm) X7r hS7 (Nat.le_refl _) (v := some (.ref b1)) (fun h => by rw [Bd.returns] at h; cases h)
  refine ⟨_, _, pre0 _ ?_, hrun, hended, _, _, rfl, ?_, hWE.1, hWE.2.1, hWE.2.2.1, hWE.2.2.2.mono (by decide) (by decide)⟩
  · show Steps p.tables e below (s₁.setTop (mkF m 0 #[.val (.int q)] [])) _
    refine st1 _ ?_
    refine sg5 _ ?_
    refine st6 _ ?_
    refine st7.trans ?_
    show Steps p.tables e below (T7.setTop (mkF m 16 #[.val (.int q)] [(.ref b1)])) _
    exact retOut X7r hx Bd.returns rfl (Or.inr (Or.inr (Or.inr (Or.inr ⟨rfl, rfl, rfl⟩)))) (hb hby d8_16) hr
  · show Q_rm8 Z q h0 n0 _ T7.heap _
    exact ⟨b1, rfl, N7, sz_b1, g_b1, K7, f8, f9, f10⟩
theorem d2_0 : decode prog_21_method_1_code 0 = .ok (.aload_n 0, 1) := by decide +kernel
theorem d2_1 : decode prog_21_method_1_code 1 = .ok (.invokespecial 1, 3) := by decide +kernel
theorem d2_4 : decode prog_21_method_1_code 4 = .ok (.ldc 7, 2) := by decide +kernel
theorem d2_6 : decode prog_21_method_1_code 6 = .ok (.dload_n 1, 1) := by decide +kernel
theorem d2_7 : decode prog_21_method_1_code 7 = .ok (.invokestatic 9, 3) := by decide +kernel
theorem d2_10 : decode prog_21_method_1_code 10 = .ok (.ldc 15, 2) := by decide +kernel
theorem d2_12 : decode prog_21_method_1_code 12 = .ok (.dload_n 3, 1) := by decide +kernel
theorem d2_13 : decode prog_21_method_1_code 13 = .ok (.invokestatic 9, 3) := by decide +kernel
theorem d2_16 : decode prog_21_method_1_code 16 = .ok (.ldc 17, 2) := by decide +kernel
theorem d2_18 : decode prog_21_method_1_code 18 = .ok (.dload 5, 2) := by decide +kernel
theorem d2_20 : decode prog_21_method_1_code 20 = .ok (.invokestatic 9, 3) := by decide +kernel
theorem d2_23 : decode prog_21_method_1_code 23 = .ok (.ldc 19, 2) := by decide +kernel
theorem d2_25 : decode prog_21_method_1_code 25 = .ok (.dload 7, 2) := by decide +kernel
theorem d2_27 : decode prog_21_method_1_code 27 = .ok (.invokestatic 9, 3) := by decide +kernel
theorem d2_30 : decode prog_21_method_1_code 30 = .ok (.aload_n 0, 1) := by decide +kernel
theorem d2_31 : decode prog_21_method_1_code 31 = .ok (.dload_n 1, 1) := by decide +kernel
theorem d2_32 : decode prog_21_method_1_code 32 = .ok (.putfield 21, 3) := by decide +kernel
theorem d2_35 : decode prog_21_method_1_code 35 = .ok (.aload_n 0, 1) := by decide +kernel
theorem d2_36 : decode prog_21_method_1_code 36 = .ok (.dload_n 3, 1) := by decide +kernel
theorem d2_37 : decode prog_21_method_1_code 37 = .ok (.putfield 26, 3) := by decide +kernel
theorem d2_40 : decode prog_21_method_1_code 40 = .ok (.aload_n 0, 1) := by decide +kernel
theorem d2_41 : decode prog_21_method_1_code 41 = .ok (.dload 5, 2) := by decide +kernel
theorem d2_43 : decode prog_21_method_1_code 43 = .ok (.putfield 28, 3) := by decide +kernel
theorem d2_46 : decode prog_21_method_1_code 46 = .ok (.aload_n 0, 1) := by decide +kernel
theorem d2_47 : decode prog_21_method_1_code 47 = .ok (.dload 7, 2) := by decide +kernel
theorem d2_49 : decode prog_21_method_1_code 49 = .ok (.putfield 30, 3) := by decide +kernel
theorem d2_52 : decode prog_21_method_1_code 52 = .ok (.return_, 1) := by decide +kernel
theorem pn_2 : plainName "com/example/headroom/headroom/ResourceWeights" = true := by first | (simp [plainName, overriddenIn]; done) | decide +kernel
theorem ef_rm2 (m : MethodId) (x0 : Addr) (x1 : UInt64) (x2 : UInt64) (x3 : UInt64) (x4 : UInt64) : entryFrame m #[(.ref x0), (.double x1), (.double x2), (.double x3), (.double x4)] 9 = mkF m 0 #[.val (.ref x0), .val (.double x1), .second, .val (.double x2), .second, .val (.double x3), .second, .val (.double x4), .second] [] := by first | (simp [entryFrame, mkF, argsToLocals, Value.category]; done) | rfl
def Q_rm2 (Z : State) (a : Addr) (x1 : UInt64) (x2 : UInt64) (x3 : UInt64) (x4 : UInt64) (h0 : Heap) (n0 : Nat) (rv : Option Value) (h : Heap) (L : List Loc) : Prop := rv = none ∧ Fr n0 L ∧ Keep h0 h [a] ∧ Exa Z h a "com/example/headroom/headroom/ResourceWeights" ∧ Fld Z h a "com/example/headroom/headroom/ResourceWeights" "cpu" "D" (.double x1) ∧ Fld Z h a "com/example/headroom/headroom/ResourceWeights" "directMemory" "D" (.double x2) ∧ Fld Z h a "com/example/headroom/headroom/ResourceWeights" "bandwidthIn" "D" (.double x3) ∧ Fld Z h a "com/example/headroom/headroom/ResourceWeights" "bandwidthOut" "D" (.double x4)
set_option maxRecDepth 65536 in
set_option maxHeartbeats 40000000 in
theorem rm2 (l : Launch) (Z : State) (a0 : Array Value) (hw : ∀ d ∈ tables_1, d.before a0 Z = true) (ws : List Jvm.Cond) (a : Addr) (x1 : UInt64) (x2 : UInt64) (x3 : UInt64) (x4 : UInt64) (h0 : Heap) (n0 : Nat) (Z0 : n0 ≤ h0.size) (E_a : Exa Z h0 a "com/example/headroom/headroom/ResourceWeights") (F_cpu : Fld Z h0 a "com/example/headroom/headroom/ResourceWeights" "cpu" "D" (.double (0 : UInt64))) (F_directMemory : Fld Z h0 a "com/example/headroom/headroom/ResourceWeights" "directMemory" "D" (.double (0 : UInt64))) (F_bandwidthIn : Fld Z h0 a "com/example/headroom/headroom/ResourceWeights" "bandwidthIn" "D" (.double (0 : UInt64))) (F_bandwidthOut : Fld Z h0 a "com/example/headroom/headroom/ResourceWeights" "bandwidthOut" "D" (.double (0 : UInt64))) (g_a : n0 ≤ a) (f_x1 : Jvm.Free.Fl.Fin64 x1) (n_x1 : ¬ ((cmpValue (FP.dcmp x1 (0 : UInt64)) .g) < (0 : Int32))) (f_x2 : Jvm.Free.Fl.Fin64 x2) (n_x2 : ¬ ((cmpValue (FP.dcmp x2 (0 : UInt64)) .g) < (0 : Int32))) (f_x3 : Jvm.Free.Fl.Fin64 x3) (n_x3 : ¬ ((cmpValue (FP.dcmp x3 (0 : UInt64)) .g) < (0 : Int32))) (f_x4 : Jvm.Free.Fl.Fin64 x4) (n_x4 : ¬ ((cmpValue (FP.dcmp x4 (0 : UInt64)) .g) < (0 : Int32))) :
    MetFree l (⟨"com/example/headroom/headroom/ResourceWeights", "<init>", "(DDDD)V"⟩ : MethodName) (head1 (Jvm.Cond.code (⟨"com/example/headroom/headroom/ResourceWeights", "<init>", "(DDDD)V"⟩ : MethodName) prog_21_method_1_code 9 none :: ws) ({ frames := 3, cells := 8, slots := 168, locals := 40 } : Room)) (fun av U => av = #[(.ref a), (.double x1), (.double x2), (.double x3), (.double x4)] ∧ Z.Warmed39 U.vm ∧ U.heap = h0) (fun _ _ _ _ _ => True) (fun _ U o U' => ∃ rv L, o = .returned rv ∧ Q_rm2 Z a x1 x2 x3 x4 h0 n0 rv U'.heap L ∧ ReturnedEndW U o U' L ({ frames := 3, cells := 8, slots := 168, locals := 40 } : Room).cells ({ frames := 3, cells := 8, slots := 168, locals := 40 } : Room).slots) := by
  refine MetFree.of_bodySF (plainFor_of_name pn_2) hisR ?_
  intro p e s m args below meth c s₁ Bd hml0 hP hK
  obtain ⟨rfl, hZ, hh⟩ := hP
  have hx := Bd.exec
  have hby := Bd.bytes
  have hml : c.maxLocals = 9 := hml0
  have hown : s.vm.findClass "com/example/headroom/headroom/ResourceWeights" = some m.cls := findClass_of_methodNamed Bd.named
  have hnm := (name_of_methodNamed Bd.named Bd.method).1
  have X0 : Stand p l e ({ frames := 3, cells := 8, slots := 168, locals := 40 } : Room) s m #[(.ref a), (.double x1), (.double x2), (.double x3), (.double x4)] below meth c s₁ [] 0 0 := Stand.of_body Bd
  have e0 : s₁.heap = h0 := by rw [← hh, Bd.state]; rfl
  have N0 := Fr.nil n0
  have pre0 : ∀ t, Steps p.tables e below (s₁.setTop (mkF m 0 #[.val (.ref a), .val (.double x1), .second, .val (.double x2), .second, .val (.double x3), .second, .val (.double x4), .second] [])) t → Steps p.tables e below (s₁.setTop (entryFrame m #[(.ref a), (.double x1), (.double x2), (.double x3), (.double x4)] 9)) t := fun t k => castTop (ef_rm2 m a x1 x2 x3 x4) k
  have hS0 : s.Since s.vm h0.size := State.WarmedH.since (State.WarmedH.refl s) _
  have sg1 : ∀ target, Steps p.tables e below (s₁.setTop (mkF m 1 #[.val (.ref a), .val (.double x1), .second, .val (.double x2), .second, .val (.double x3), .second, .val (.double x4), .second] [(.ref a)])) target → Steps p.tables e below (s₁.setTop (mkF m 0 #[.val (.ref a), .val (.double x1), .second, .val (.double x2), .second, .val (.double x3), .second, .val (.double x4), .second] [])) target := by
    intro target kt
    show Steps p.tables e below (s₁.setTop (mkF m 0 #[.val (.ref a), .val (.double x1), .second, .val (.double x2), .second, .val (.double x3), .second, .val (.double x4), .second] [])) _
    refine XS.aloadN X0.here hx rfl (hb hby d2_0) rfl rfl ?_
    exact kt
  obtain ⟨_, _, ⟨T2, L2, k2, n2⟩, -, X2, ⟨Lc2, hQ2, l2, y2, z2⟩, st2⟩ := X0.specialBack hx (y := (⟨"java/lang/Record", "<init>", "()V"⟩ : MethodName)) rfl hown (mvT hZ (hw _ (List.mem_of_getElem? (i := 10) rfl))) (mvT hZ (hw _ (List.mem_of_getElem? (i := 11) rfl))) (mvT hZ (hw _ (List.mem_of_getElem? (i := 14) rfl))) (by decide) (backOf (W := 0) (rm3 l Z a0 hw [] a h0 n0 Z0 ) hZ (hw _ (List.mem_of_getElem? (i := 14) rfl)) (hw _ (List.mem_of_getElem? (i := 13) rfl)) (by decide) (by decide)) (g := (mkF m 1 #[.val (.ref a), .val (.double x1), .second, .val (.double x2), .second, .val (.double x3), .second, .val (.double x4), .second] [(.ref a)])) rfl (by rw [hml]; rfl) (Steps.refl _) (a := a) (argsL := []) (rest := []) (lenOf pd_3 rfl) rfl (by show 2 * 0 + _ ≤ _; exact Nat.le_of_eq rfl) (hb hby d2_1) (fun _ _ => ⟨rfl, e0, (by decide : 0 + 0 ≤ _), (by decide : 0 + 0 ≤ _)⟩)
  dsimp only [Pt.U, Pt.locs, Pt.cells, Pt.slots] at X2 l2 y2 z2 st2 hQ2
  subst l2 y2 z2
  obtain ⟨rfl, N2q, c2_0⟩ := hQ2
  have N2 := Fr.app N0 N2q
  obtain ⟨b3, T3, h3, k3, X3, e3, E3, hS3, hk3, hZ3, hown3, st3⟩ := ldcS (s := s) (vm0 := s.vm) X2 hx hZ (own := "com/example/headroom/headroom/ResourceWeights") hown (hw _ (List.mem_of_getElem? (i := 18) rfl)) (own_wS hw) c2_0 hS0 (Nat.le_refl h0.size) (g := (mkF m 4 #[.val (.ref a), .val (.double x1), .second, .val (.double x2), .second, .val (.double x3), .second, .val (.double x4), .second] [])) rfl (hb hby d2_4) (n := 12) (by decide) (by decide) (by decide) (by decide)
  have Zs3 : n0 ≤ h3.size := Nat.le_trans Z0 E3.1
  have K3 : Keep h0 h3 [a] := (Keep.refl h0 [a]).ext E3
  have f4 : Exa Z h3 a "com/example/headroom/headroom/ResourceWeights" := E_a.ext E3
  have f5 : Fld Z h3 a "com/example/headroom/headroom/ResourceWeights" "cpu" "D" (.double (0 : UInt64)) := F_cpu.ext E3
  have f6 : Fld Z h3 a "com/example/headroom/headroom/ResourceWeights" "directMemory" "D" (.double (0 : UInt64)) := F_directMemory.ext E3
  have f7 : Fld Z h3 a "com/example/headroom/headroom/ResourceWeights" "bandwidthIn" "D" (.double (0 : UInt64)) := F_bandwidthIn.ext E3
  have f8 : Fld Z h3 a "com/example/headroom/headroom/ResourceWeights" "bandwidthOut" "D" (.double (0 : UInt64)) := F_bandwidthOut.ext E3
  have sg9 : ∀ target, Steps p.tables e below (T3.setTop (mkF m 7 #[.val (.ref a), .val (.double x1), .second, .val (.double x2), .second, .val (.double x3), .second, .val (.double x4), .second] [(.double x1), (.ref b3)])) target → Steps p.tables e below (T3.setTop (mkF m 6 #[.val (.ref a), .val (.double x1), .second, .val (.double x2), .second, .val (.double x3), .second, .val (.double x4), .second] [(.ref b3)])) target := by
    intro target kt
    show Steps p.tables e below (T3.setTop (mkF m 6 #[.val (.ref a), .val (.double x1), .second, .val (.double x2), .second, .val (.double x3), .second, .val (.double x4), .second] [(.ref b3)])) _
    refine XS.dloadN X3.here hx rfl (hb hby d2_6) rfl ?_
    exact kt
  obtain ⟨_, _, ⟨T10, L10, k10, n10⟩, -, X10, ⟨Lc10, hQ10, l10, y10, z10⟩, st10⟩ := Jvm.LawKit.callS X3 hx (y := (⟨"com/example/headroom/headroom/Figures", "requireNonNegative", "(Ljava/lang/String;D)V"⟩ : MethodName)) hown3 (mvT hZ3 (hw _ (List.mem_of_getElem? (i := 26) rfl))) (mvT hZ3 (hw _ (List.mem_of_getElem? (i := 27) rfl))) (mvT hZ3 (hw _ (List.mem_of_getElem? (i := 28) rfl))) (mvT hZ3 (hw _ (List.mem_of_getElem? (i := 29) rfl))) (by decide) (backOf (W := 0) (rm5 l Z a0 hw [] b3 x1 h3 n0 Zs3 f_x1 n_x1) hZ3 (hw _ (List.mem_of_getElem? (i := 29) rfl)) (hw _ (List.mem_of_getElem? (i := 28) rfl)) (by decide) (by decide)) (g := (mkF m 7 #[.val (.ref a), .val (.double x1), .second, .val (.double x2), .second, .val (.double x3), .second, .val (.double x4), .second] [(.double x1), (.ref b3)])) rfl (by rw [hml]; rfl) (argsL := [(.ref b3), (.double x1)]) (rest := []) (lenOf pd_17 rfl) rfl (by show 2 * 0 + _ ≤ _; exact Nat.le_of_eq rfl) (hb hby d2_7) (fun _ _ => ⟨rfl, e3, (by decide : 2 + 0 ≤ _), (by decide : 16 + 0 ≤ _)⟩)
  dsimp only [Pt.U, Pt.locs, Pt.cells, Pt.slots] at X10 l10 y10 z10 st10 hQ10
  subst l10 y10 z10
  obtain ⟨rfl, N10q, c10_0⟩ := hQ10
  have N10 := Fr.app N2 N10q
  obtain ⟨b11, T11, h11, k11, X11, e11, E11, hS11, hk11, hZ11, hown11, st11⟩ := ldcS (s := s) (vm0 := T3.vm) X10 hx hZ3 (own := "com/example/headroom/headroom/ResourceWeights") hown3 (hw _ (List.mem_of_getElem? (i := 39) rfl)) (own_wS hw) c10_0 hS3 hk3 (g := (mkF m 10 #[.val (.ref a), .val (.double x1), .second, .val (.double x2), .second, .val (.double x3), .second, .val (.double x4), .second] [])) rfl (hb hby d2_10) (n := 48) (by decide) (by decide) (by decide) (by decide)
  have Zs11 : n0 ≤ h11.size := Nat.le_trans Zs3 E11.1
  have K11 : Keep h0 h11 [a] := K3.ext E11
  have f12 : Exa Z h11 a "com/example/headroom/headroom/ResourceWeights" := f4.ext E11
  have f13 : Fld Z h11 a "com/example/headroom/headroom/ResourceWeights" "cpu" "D" (.double (0 : UInt64)) := f5.ext E11
  have f14 : Fld Z h11 a "com/example/headroom/headroom/ResourceWeights" "directMemory" "D" (.double (0 : UInt64)) := f6.ext E11
  have f15 : Fld Z h11 a "com/example/headroom/headroom/ResourceWeights" "bandwidthIn" "D" (.double (0 : UInt64)) := f7.ext E11
  have f16 : Fld Z h11 a "com/example/headroom/headroom/ResourceWeights" "bandwidthOut" "D" (.double (0 : UInt64)) := f8.ext E11
  have sg17 : ∀ target, Steps p.tables e below (T11.setTop (mkF m 13 #[.val (.ref a), .val (.double x1), .second, .val (.double x2), .second, .val (.double x3), .second, .val (.double x4), .second] [(.double x2), (.ref b11)])) target → Steps p.tables e below (T11.setTop (mkF m 12 #[.val (.ref a), .val (.double x1), .second, .val (.double x2), .second, .val (.double x3), .second, .val (.double x4), .second] [(.ref b11)])) target := by
    intro target kt
    show Steps p.tables e below (T11.setTop (mkF m 12 #[.val (.ref a), .val (.double x1), .second, .val (.double x2), .second, .val (.double x3), .second, .val (.double x4), .second] [(.ref b11)])) _
    refine XS.dloadN X11.here hx rfl (hb hby d2_12) rfl ?_
    exact kt
  obtain ⟨_, _, ⟨T18, L18, k18, n18⟩, -, X18, ⟨Lc18, hQ18, l18, y18, z18⟩, st18⟩ := Jvm.LawKit.callS X11 hx (y := (⟨"com/example/headroom/headroom/Figures", "requireNonNegative", "(Ljava/lang/String;D)V"⟩ : MethodName)) hown11 (mvT hZ11 (hw _ (List.mem_of_getElem? (i := 26) rfl))) (mvT hZ11 (hw _ (List.mem_of_getElem? (i := 27) rfl))) (mvT hZ11 (hw _ (List.mem_of_getElem? (i := 28) rfl))) (mvT hZ11 (hw _ (List.mem_of_getElem? (i := 29) rfl))) (by decide) (backOf (W := 0) (rm5 l Z a0 hw [] b11 x2 h11 n0 Zs11 f_x2 n_x2) hZ11 (hw _ (List.mem_of_getElem? (i := 29) rfl)) (hw _ (List.mem_of_getElem? (i := 28) rfl)) (by decide) (by decide)) (g := (mkF m 13 #[.val (.ref a), .val (.double x1), .second, .val (.double x2), .second, .val (.double x3), .second, .val (.double x4), .second] [(.double x2), (.ref b11)])) rfl (by rw [hml]; rfl) (argsL := [(.ref b11), (.double x2)]) (rest := []) (lenOf pd_17 rfl) rfl (by show 2 * 0 + _ ≤ _; exact Nat.le_of_eq rfl) (hb hby d2_13) (fun _ _ => ⟨rfl, e11, (by decide : 4 + 0 ≤ _), (by decide : 68 + 0 ≤ _)⟩)
  dsimp only [Pt.U, Pt.locs, Pt.cells, Pt.slots] at X18 l18 y18 z18 st18 hQ18
  subst l18 y18 z18
  obtain ⟨rfl, N18q, c18_0⟩ := hQ18
  have N18 := Fr.app N10 N18q
  obtain ⟨b19, T19, h19, k19, X19, e19, E19, hS19, hk19, hZ19, hown19, st19⟩ := ldcS (s := s) (vm0 := T11.vm) X18 hx hZ11 (own := "com/example/headroom/headroom/ResourceWeights") hown11 (hw _ (List.mem_of_getElem? (i := 40) rfl)) (own_wS hw) c18_0 hS11 hk11 (g := (mkF m 16 #[.val (.ref a), .val (.double x1), .second, .val (.double x2), .second, .val (.double x3), .second, .val (.double x4), .second] [])) rfl (hb hby d2_16) (n := 44) (by decide) (by decide) (by decide) (by decide)
  have Zs19 : n0 ≤ h19.size := Nat.le_trans Zs11 E19.1
  have K19 : Keep h0 h19 [a] := K11.ext E19
  have f20 : Exa Z h19 a "com/example/headroom/headroom/ResourceWeights" := f12.ext E19
  have f21 : Fld Z h19 a "com/example/headroom/headroom/ResourceWeights" "cpu" "D" (.double (0 : UInt64)) := f13.ext E19
  have f22 : Fld Z h19 a "com/example/headroom/headroom/ResourceWeights" "directMemory" "D" (.double (0 : UInt64)) := f14.ext E19
  have f23 : Fld Z h19 a "com/example/headroom/headroom/ResourceWeights" "bandwidthIn" "D" (.double (0 : UInt64)) := f15.ext E19
  have f24 : Fld Z h19 a "com/example/headroom/headroom/ResourceWeights" "bandwidthOut" "D" (.double (0 : UInt64)) := f16.ext E19
  have sg25 : ∀ target, Steps p.tables e below (T19.setTop (mkF m 20 #[.val (.ref a), .val (.double x1), .second, .val (.double x2), .second, .val (.double x3), .second, .val (.double x4), .second] [(.double x3), (.ref b19)])) target → Steps p.tables e below (T19.setTop (mkF m 18 #[.val (.ref a), .val (.double x1), .second, .val (.double x2), .second, .val (.double x3), .second, .val (.double x4), .second] [(.ref b19)])) target := by
    intro target kt
    show Steps p.tables e below (T19.setTop (mkF m 18 #[.val (.ref a), .val (.double x1), .second, .val (.double x2), .second, .val (.double x3), .second, .val (.double x4), .second] [(.ref b19)])) _
    refine XS.dload X19.here hx rfl (hb hby d2_18) rfl ?_
    exact kt
  obtain ⟨_, _, ⟨T26, L26, k26, n26⟩, -, X26, ⟨Lc26, hQ26, l26, y26, z26⟩, st26⟩ := Jvm.LawKit.callS X19 hx (y := (⟨"com/example/headroom/headroom/Figures", "requireNonNegative", "(Ljava/lang/String;D)V"⟩ : MethodName)) hown19 (mvT hZ19 (hw _ (List.mem_of_getElem? (i := 26) rfl))) (mvT hZ19 (hw _ (List.mem_of_getElem? (i := 27) rfl))) (mvT hZ19 (hw _ (List.mem_of_getElem? (i := 28) rfl))) (mvT hZ19 (hw _ (List.mem_of_getElem? (i := 29) rfl))) (by decide) (backOf (W := 0) (rm5 l Z a0 hw [] b19 x3 h19 n0 Zs19 f_x3 n_x3) hZ19 (hw _ (List.mem_of_getElem? (i := 29) rfl)) (hw _ (List.mem_of_getElem? (i := 28) rfl)) (by decide) (by decide)) (g := (mkF m 20 #[.val (.ref a), .val (.double x1), .second, .val (.double x2), .second, .val (.double x3), .second, .val (.double x4), .second] [(.double x3), (.ref b19)])) rfl (by rw [hml]; rfl) (argsL := [(.ref b19), (.double x3)]) (rest := []) (lenOf pd_17 rfl) rfl (by show 2 * 0 + _ ≤ _; exact Nat.le_of_eq rfl) (hb hby d2_20) (fun _ _ => ⟨rfl, e19, (by decide : 6 + 0 ≤ _), (by decide : 116 + 0 ≤ _)⟩)
  dsimp only [Pt.U, Pt.locs, Pt.cells, Pt.slots] at X26 l26 y26 z26 st26 hQ26
  subst l26 y26 z26
  obtain ⟨rfl, N26q, c26_0⟩ := hQ26
  have N26 := Fr.app N18 N26q
  obtain ⟨b27, T27, h27, k27, X27, e27, E27, hS27, hk27, hZ27, hown27, st27⟩ := ldcS (s := s) (vm0 := T19.vm) X26 hx hZ19 (own := "com/example/headroom/headroom/ResourceWeights") hown19 (hw _ (List.mem_of_getElem? (i := 41) rfl)) (own_wS hw) c26_0 hS19 hk19 (g := (mkF m 23 #[.val (.ref a), .val (.double x1), .second, .val (.double x2), .second, .val (.double x3), .second, .val (.double x4), .second] [])) rfl (hb hby d2_23) (n := 48) (by decide) (by decide) (by decide) (by decide)
  have Zs27 : n0 ≤ h27.size := Nat.le_trans Zs19 E27.1
  have K27 : Keep h0 h27 [a] := K19.ext E27
  have f28 : Exa Z h27 a "com/example/headroom/headroom/ResourceWeights" := f20.ext E27
  have f29 : Fld Z h27 a "com/example/headroom/headroom/ResourceWeights" "cpu" "D" (.double (0 : UInt64)) := f21.ext E27
  have f30 : Fld Z h27 a "com/example/headroom/headroom/ResourceWeights" "directMemory" "D" (.double (0 : UInt64)) := f22.ext E27
  have f31 : Fld Z h27 a "com/example/headroom/headroom/ResourceWeights" "bandwidthIn" "D" (.double (0 : UInt64)) := f23.ext E27
  have f32 : Fld Z h27 a "com/example/headroom/headroom/ResourceWeights" "bandwidthOut" "D" (.double (0 : UInt64)) := f24.ext E27
  have sg33 : ∀ target, Steps p.tables e below (T27.setTop (mkF m 27 #[.val (.ref a), .val (.double x1), .second, .val (.double x2), .second, .val (.double x3), .second, .val (.double x4), .second] [(.double x4), (.ref b27)])) target → Steps p.tables e below (T27.setTop (mkF m 25 #[.val (.ref a), .val (.double x1), .second, .val (.double x2), .second, .val (.double x3), .second, .val (.double x4), .second] [(.ref b27)])) target := by
    intro target kt
    show Steps p.tables e below (T27.setTop (mkF m 25 #[.val (.ref a), .val (.double x1), .second, .val (.double x2), .second, .val (.double x3), .second, .val (.double x4), .second] [(.ref b27)])) _
    refine XS.dload X27.here hx rfl (hb hby d2_25) rfl ?_
    exact kt
  obtain ⟨_, _, ⟨T34, L34, k34, n34⟩, -, X34, ⟨Lc34, hQ34, l34, y34, z34⟩, st34⟩ := Jvm.LawKit.callS X27 hx (y := (⟨"com/example/headroom/headroom/Figures", "requireNonNegative", "(Ljava/lang/String;D)V"⟩ : MethodName)) hown27 (mvT hZ27 (hw _ (List.mem_of_getElem? (i := 26) rfl))) (mvT hZ27 (hw _ (List.mem_of_getElem? (i := 27) rfl))) (mvT hZ27 (hw _ (List.mem_of_getElem? (i := 28) rfl))) (mvT hZ27 (hw _ (List.mem_of_getElem? (i := 29) rfl))) (by decide) (backOf (W := 0) (rm5 l Z a0 hw [] b27 x4 h27 n0 Zs27 f_x4 n_x4) hZ27 (hw _ (List.mem_of_getElem? (i := 29) rfl)) (hw _ (List.mem_of_getElem? (i := 28) rfl)) (by decide) (by decide)) (g := (mkF m 27 #[.val (.ref a), .val (.double x1), .second, .val (.double x2), .second, .val (.double x3), .second, .val (.double x4), .second] [(.double x4), (.ref b27)])) rfl (by rw [hml]; rfl) (argsL := [(.ref b27), (.double x4)]) (rest := []) (lenOf pd_17 rfl) rfl (by show 2 * 0 + _ ≤ _; exact Nat.le_of_eq rfl) (hb hby d2_27) (fun _ _ => ⟨rfl, e27, (by decide : 8 + 0 ≤ _), (by decide : 168 + 0 ≤ _)⟩)
  dsimp only [Pt.U, Pt.locs, Pt.cells, Pt.slots] at X34 l34 y34 z34 st34 hQ34
  subst l34 y34 z34
  obtain ⟨rfl, N34q, c34_0⟩ := hQ34
  have N34 := Fr.app N26 N34q
  have sg35 : ∀ target, Steps p.tables e below (T34.setTop (mkF m 32 #[.val (.ref a), .val (.double x1), .second, .val (.double x2), .second, .val (.double x3), .second, .val (.double x4), .second] [(.double x1), (.ref a)])) target → Steps p.tables e below (T34.setTop (mkF m 30 #[.val (.ref a), .val (.double x1), .second, .val (.double x2), .second, .val (.double x3), .second, .val (.double x4), .second] [])) target := by
    intro target kt
    show Steps p.tables e below (T34.setTop (mkF m 30 #[.val (.ref a), .val (.double x1), .second, .val (.double x2), .second, .val (.double x3), .second, .val (.double x4), .second] [])) _
    refine XS.aloadN X34.here hx rfl (hb hby d2_30) rfl rfl ?_
    show Steps p.tables e below (T34.setTop (mkF m 31 #[.val (.ref a), .val (.double x1), .second, .val (.double x2), .second, .val (.double x3), .second, .val (.double x4), .second] [(.ref a)])) _
    refine XS.dloadN X34.here hx rfl (hb hby d2_31) rfl ?_
    exact kt
  obtain ⟨T36, h36, X36, e36, W36, st36⟩ := putF X34 hx hZ27 hown27 (host := "") (Or.inl (hw _ (List.mem_of_getElem? (i := 42) rfl))) Via.refl c34_0 f29 f28 (Or.inr ⟨(hw _ (List.mem_of_getElem? (i := 43) rfl)), rfl, hnm⟩) (hw _ (List.mem_of_getElem? (i := 1) rfl)) (ty := .double) (by decide) rfl rfl (g := (mkF m 32 #[.val (.ref a), .val (.double x1), .second, .val (.double x2), .second, .val (.double x3), .second, .val (.double x4), .second] [(.double x1), (.ref a)])) rfl rfl (hb hby d2_32)
  have N36 := Fr.snoc X36 N34 g_a
  have Zs36 : n0 ≤ h36.size := by rw [W36.size]; exact Zs27
  have K36 : Keep h0 h36 [a] := K27.wr W36 (Or.inl (List.mem_of_getElem? (i := 0) rfl))
  have f37 : Exa Z h36 a "com/example/headroom/headroom/ResourceWeights" := f28.wr W36
  have f38 : Fld Z h36 a "com/example/headroom/headroom/ResourceWeights" "directMemory" "D" (.double (0 : UInt64)) := f30.other W36 (Or.inr (slot_ne (Or.inr (hw _ (List.mem_of_getElem? (i := 45) rfl))) (Or.inr (hw _ (List.mem_of_getElem? (i := 43) rfl))) (by decide) (t := .double) (t' := .double) (by decide) (by decide)))
  have f39 : Fld Z h36 a "com/example/headroom/headroom/ResourceWeights" "bandwidthIn" "D" (.double (0 : UInt64)) := f31.other W36 (Or.inr (slot_ne (Or.inr (hw _ (List.mem_of_getElem? (i := 47) rfl))) (Or.inr (hw _ (List.mem_of_getElem? (i := 43) rfl))) (by decide) (t := .double) (t' := .double) (by decide) (by decide)))
  have f40 : Fld Z h36 a "com/example/headroom/headroom/ResourceWeights" "bandwidthOut" "D" (.double (0 : UInt64)) := f32.other W36 (Or.inr (slot_ne (Or.inr (hw _ (List.mem_of_getElem? (i := 49) rfl))) (Or.inr (hw _ (List.mem_of_getElem? (i := 43) rfl))) (by decide) (t := .double) (t' := .double) (by decide) (by decide)))
  have f41 : Fld Z h36 a "com/example/headroom/headroom/ResourceWeights" "cpu" "D" (.double x1) := f29.same W36
  have sg42 : ∀ target, Steps p.tables e below (T36.setTop (mkF m 37 #[.val (.ref a), .val (.double x1), .second, .val (.double x2), .second, .val (.double x3), .second, .val (.double x4), .second] [(.double x2), (.ref a)])) target → Steps p.tables e below (T36.setTop (mkF m 35 #[.val (.ref a), .val (.double x1), .second, .val (.double x2), .second, .val (.double x3), .second, .val (.double x4), .second] [])) target := by
    intro target kt
    show Steps p.tables e below (T36.setTop (mkF m 35 #[.val (.ref a), .val (.double x1), .second, .val (.double x2), .second, .val (.double x3), .second, .val (.double x4), .second] [])) _
    refine XS.aloadN X36.here hx rfl (hb hby d2_35) rfl rfl ?_
    show Steps p.tables e below (T36.setTop (mkF m 36 #[.val (.ref a), .val (.double x1), .second, .val (.double x2), .second, .val (.double x3), .second, .val (.double x4), .second] [(.ref a)])) _
    refine XS.dloadN X36.here hx rfl (hb hby d2_36) rfl ?_
    exact kt
  obtain ⟨T43, h43, X43, e43, W43, st43⟩ := putF X36 hx hZ27 hown27 (host := "") (Or.inl (hw _ (List.mem_of_getElem? (i := 44) rfl))) Via.refl e36 f38 f37 (Or.inr ⟨(hw _ (List.mem_of_getElem? (i := 45) rfl)), rfl, hnm⟩) (hw _ (List.mem_of_getElem? (i := 1) rfl)) (ty := .double) (by decide) rfl rfl (g := (mkF m 37 #[.val (.ref a), .val (.double x1), .second, .val (.double x2), .second, .val (.double x3), .second, .val (.double x4), .second] [(.double x2), (.ref a)])) rfl rfl (hb hby d2_37)
  have N43 := Fr.snoc X43 N36 g_a
  have Zs43 : n0 ≤ h43.size := by rw [W43.size]; exact Zs36
  have K43 : Keep h0 h43 [a] := K36.wr W43 (Or.inl (List.mem_of_getElem? (i := 0) rfl))
  have f44 : Exa Z h43 a "com/example/headroom/headroom/ResourceWeights" := f37.wr W43
  have f45 : Fld Z h43 a "com/example/headroom/headroom/ResourceWeights" "cpu" "D" (.double x1) := f41.other W43 (Or.inr (slot_ne (Or.inr (hw _ (List.mem_of_getElem? (i := 43) rfl))) (Or.inr (hw _ (List.mem_of_getElem? (i := 45) rfl))) (by decide) (t := .double) (t' := .double) (by decide) (by decide)))
  have f46 : Fld Z h43 a "com/example/headroom/headroom/ResourceWeights" "bandwidthIn" "D" (.double (0 : UInt64)) := f39.other W43 (Or.inr (slot_ne (Or.inr (hw _ (List.mem_of_getElem? (i := 47) rfl))) (Or.inr (hw _ (List.mem_of_getElem? (i := 45) rfl))) (by decide) (t := .double) (t' := .double) (by decide) (by decide)))
  have f47 : Fld Z h43 a "com/example/headroom/headroom/ResourceWeights" "bandwidthOut" "D" (.double (0 : UInt64)) := f40.other W43 (Or.inr (slot_ne (Or.inr (hw _ (List.mem_of_getElem? (i := 49) rfl))) (Or.inr (hw _ (List.mem_of_getElem? (i := 45) rfl))) (by decide) (t := .double) (t' := .double) (by decide) (by decide)))
  have f48 : Fld Z h43 a "com/example/headroom/headroom/ResourceWeights" "directMemory" "D" (.double x2) := f38.same W43
  have sg49 : ∀ target, Steps p.tables e below (T43.setTop (mkF m 43 #[.val (.ref a), .val (.double x1), .second, .val (.double x2), .second, .val (.double x3), .second, .val (.double x4), .second] [(.double x3), (.ref a)])) target → Steps p.tables e below (T43.setTop (mkF m 40 #[.val (.ref a), .val (.double x1), .second, .val (.double x2), .second, .val (.double x3), .second, .val (.double x4), .second] [])) target := by
    intro target kt
    show Steps p.tables e below (T43.setTop (mkF m 40 #[.val (.ref a), .val (.double x1), .second, .val (.double x2), .second, .val (.double x3), .second, .val (.double x4), .second] [])) _
    refine XS.aloadN X43.here hx rfl (hb hby d2_40) rfl rfl ?_
    show Steps p.tables e below (T43.setTop (mkF m 41 #[.val (.ref a), .val (.double x1), .second, .val (.double x2), .second, .val (.double x3), .second, .val (.double x4), .second] [(.ref a)])) _
    refine XS.dload X43.here hx rfl (hb hby d2_41) rfl ?_
    exact kt
  obtain ⟨T50, h50, X50, e50, W50, st50⟩ := putF X43 hx hZ27 hown27 (host := "") (Or.inl (hw _ (List.mem_of_getElem? (i := 46) rfl))) Via.refl e43 f46 f44 (Or.inr ⟨(hw _ (List.mem_of_getElem? (i := 47) rfl)), rfl, hnm⟩) (hw _ (List.mem_of_getElem? (i := 1) rfl)) (ty := .double) (by decide) rfl rfl (g := (mkF m 43 #[.val (.ref a), .val (.double x1), .second, .val (.double x2), .second, .val (.double x3), .second, .val (.double x4), .second] [(.double x3), (.ref a)])) rfl rfl (hb hby d2_43)
  have N50 := Fr.snoc X50 N43 g_a
  have Zs50 : n0 ≤ h50.size := by rw [W50.size]; exact Zs43
  have K50 : Keep h0 h50 [a] := K43.wr W50 (Or.inl (List.mem_of_getElem? (i := 0) rfl))
  have f51 : Exa Z h50 a "com/example/headroom/headroom/ResourceWeights" := f44.wr W50
  have f52 : Fld Z h50 a "com/example/headroom/headroom/ResourceWeights" "cpu" "D" (.double x1) := f45.other W50 (Or.inr (slot_ne (Or.inr (hw _ (List.mem_of_getElem? (i := 43) rfl))) (Or.inr (hw _ (List.mem_of_getElem? (i := 47) rfl))) (by decide) (t := .double) (t' := .double) (by decide) (by decide)))
  have f53 : Fld Z h50 a "com/example/headroom/headroom/ResourceWeights" "directMemory" "D" (.double x2) := f48.other W50 (Or.inr (slot_ne (Or.inr (hw _ (List.mem_of_getElem? (i := 45) rfl))) (Or.inr (hw _ (List.mem_of_getElem? (i := 47) rfl))) (by decide) (t := .double) (t' := .double) (by decide) (by decide)))
  have f54 : Fld Z h50 a "com/example/headroom/headroom/ResourceWeights" "bandwidthOut" "D" (.double (0 : UInt64)) := f47.other W50 (Or.inr (slot_ne (Or.inr (hw _ (List.mem_of_getElem? (i := 49) rfl))) (Or.inr (hw _ (List.mem_of_getElem? (i := 47) rfl))) (by decide) (t := .double) (t' := .double) (by decide) (by decide)))
  have f55 : Fld Z h50 a "com/example/headroom/headroom/ResourceWeights" "bandwidthIn" "D" (.double x3) := f46.same W50
  have sg56 : ∀ target, Steps p.tables e below (T50.setTop (mkF m 49 #[.val (.ref a), .val (.double x1), .second, .val (.double x2), .second, .val (.double x3), .second, .val (.double x4), .second] [(.double x4), (.ref a)])) target → Steps p.tables e below (T50.setTop (mkF m 46 #[.val (.ref a), .val (.double x1), .second, .val (.double x2), .second, .val (.double x3), .second, .val (.double x4), .second] [])) target := by
    intro target kt
    show Steps p.tables e below (T50.setTop (mkF m 46 #[.val (.ref a), .val (.double x1), .second, .val (.double x2), .second, .val (.double x3), .second, .val (.double x4), .second] [])) _
    refine XS.aloadN X50.here hx rfl (hb hby d2_46) rfl rfl ?_
    show Steps p.tables e below (T50.setTop (mkF m 47 #[.val (.ref a), .val (.double x1), .second, .val (.double x2), .second, .val (.double x3), .second, .val (.double x4), .second] [(.ref a)])) _
    refine XS.dload X50.here hx rfl (hb hby d2_47) rfl ?_
    exact kt
  obtain ⟨T57, h57, X57, e57, W57, st57⟩ := putF X50 hx hZ27 hown27 (host := "") (Or.inl (hw _ (List.mem_of_getElem? (i := 48) rfl))) Via.refl e50 f54 f51 (Or.inr ⟨(hw _ (List.mem_of_getElem? (i := 49) rfl)), rfl, hnm⟩) (hw _ (List.mem_of_getElem? (i := 1) rfl)) (ty := .double) (by decide) rfl rfl (g := (mkF m 49 #[.val (.ref a), .val (.double x1), .second, .val (.double x2), .second, .val (.double x3), .second, .val (.double x4), .second] [(.double x4), (.ref a)])) rfl rfl (hb hby d2_49)
  have N57 := Fr.snoc X57 N50 g_a
  have Zs57 : n0 ≤ h57.size := by rw [W57.size]; exact Zs50
  have K57 : Keep h0 h57 [a] := K50.wr W57 (Or.inl (List.mem_of_getElem? (i := 0) rfl))
  have f58 : Exa Z h57 a "com/example/headroom/headroom/ResourceWeights" := f51.wr W57
  have f59 : Fld Z h57 a "com/example/headroom/headroom/ResourceWeights" "cpu" "D" (.double x1) := f52.other W57 (Or.inr (slot_ne (Or.inr (hw _ (List.mem_of_getElem? (i := 43) rfl))) (Or.inr (hw _ (List.mem_of_getElem? (i := 49) rfl))) (by decide) (t := .double) (t' := .double) (by decide) (by decide)))
  have f60 : Fld Z h57 a "com/example/headroom/headroom/ResourceWeights" "directMemory" "D" (.double x2) := f53.other W57 (Or.inr (slot_ne (Or.inr (hw _ (List.mem_of_getElem? (i := 45) rfl))) (Or.inr (hw _ (List.mem_of_getElem? (i := 49) rfl))) (by decide) (t := .double) (t' := .double) (by decide) (by decide)))
  have f61 : Fld Z h57 a "com/example/headroom/headroom/ResourceWeights" "bandwidthIn" "D" (.double x3) := f55.other W57 (Or.inr (slot_ne (Or.inr (hw _ (List.mem_of_getElem? (i := 47) rfl))) (Or.inr (hw _ (List.mem_of_getElem? (i := 49) rfl))) (by decide) (t := .double) (t' := .double) (by decide) (by decide)))
  have f62 : Fld Z h57 a "com/example/headroom/headroom/ResourceWeights" "bandwidthOut" "D" (.double x4) := f54.same W57
  obtain ⟨fs, hr, hrun, hended, hWE⟩ := Stand.leaveW (s := s) (vm₁ := T27.vm) X57 hS27 (by rw [e57]; exact (Nat.le_trans (Nat.le_trans (Nat.le_trans (Nat.le_trans hk27 (Keep.of_wr W36).1) (Keep.of_wr W43).1) (Keep.of_wr W50).1) (Keep.of_wr W57).1)) (v := none) (fun _ => rfl)
  refine ⟨_, _, pre0 _ ?_, hrun, hended, _, _, rfl, ?_, hWE.1, hWE.2.1, hWE.2.2.1, hWE.2.2.2.mono (by decide) (by decide)⟩
  · show Steps p.tables e below (s₁.setTop (mkF m 0 #[.val (.ref a), .val (.double x1), .second, .val (.double x2), .second, .val (.double x3), .second, .val (.double x4), .second] [])) _
    refine sg1 _ ?_
    refine st2.trans ?_
    refine st3 _ ?_
    refine sg9 _ ?_
    refine st10 _ ?_
    refine st11 _ ?_
    refine sg17 _ ?_
    refine st18 _ ?_
    refine st19 _ ?_
    refine sg25 _ ?_
    refine st26 _ ?_
    refine st27 _ ?_
    refine sg33 _ ?_
    refine st34 _ ?_
    refine sg35 _ ?_
    refine st36 _ ?_
    refine sg42 _ ?_
    refine st43 _ ?_
    refine sg49 _ ?_
    refine st50 _ ?_
    refine sg56 _ ?_
    refine st57 _ ?_
    show Steps p.tables e below (T57.setTop (mkF m 52 #[.val (.ref a), .val (.double x1), .second, .val (.double x2), .second, .val (.double x3), .second, .val (.double x4), .second] [])) _
    exact X57.returnOut hx Bd.returns (hb hby d2_52) hr
  · show Q_rm2 Z a x1 x2 x3 x4 h0 n0 _ T57.heap _
    rw [e57]
    exact ⟨rfl, N57, K57, f58, f59, f60, f61, f62⟩
theorem d11_0 : decode prog_5_method_1_code 0 = .ok (.aload_n 0, 1) := by decide +kernel
theorem d11_1 : decode prog_5_method_1_code 1 = .ok (.invokespecial 1, 3) := by decide +kernel
theorem d11_4 : decode prog_5_method_1_code 4 = .ok (.aload_n 1, 1) := by decide +kernel
theorem d11_5 : decode prog_5_method_1_code 5 = .ok (.ldc 7, 2) := by decide +kernel
theorem d11_7 : decode prog_5_method_1_code 7 = .ok (.invokestatic 9, 3) := by decide +kernel
theorem pd_16 : parseMethodDescriptor "(Ljava/lang/Object;Ljava/lang/String;)Ljava/lang/Object;" = some ⟨[(.object "java/lang/Object"), (.object "java/lang/String")], some (.object "java/lang/Object")⟩ := by decide +kernel
theorem d11_10 : decode prog_5_method_1_code 10 = .ok (.pop, 1) := by decide +kernel
theorem d11_11 : decode prog_5_method_1_code 11 = .ok (.aload_n 2, 1) := by decide +kernel
theorem d11_12 : decode prog_5_method_1_code 12 = .ok (.ldc 15, 2) := by decide +kernel
theorem d11_14 : decode prog_5_method_1_code 14 = .ok (.invokestatic 9, 3) := by decide +kernel
theorem d11_17 : decode prog_5_method_1_code 17 = .ok (.pop, 1) := by decide +kernel
theorem d11_18 : decode prog_5_method_1_code 18 = .ok (.aload_n 3, 1) := by decide +kernel
theorem d11_19 : decode prog_5_method_1_code 19 = .ok (.ldc 17, 2) := by decide +kernel
theorem d11_21 : decode prog_5_method_1_code 21 = .ok (.invokestatic 9, 3) := by decide +kernel
theorem d11_24 : decode prog_5_method_1_code 24 = .ok (.pop, 1) := by decide +kernel
theorem d11_25 : decode prog_5_method_1_code 25 = .ok (.aload 4, 2) := by decide +kernel
theorem d11_27 : decode prog_5_method_1_code 27 = .ok (.ldc 19, 2) := by decide +kernel
theorem d11_29 : decode prog_5_method_1_code 29 = .ok (.invokestatic 9, 3) := by decide +kernel
theorem d11_32 : decode prog_5_method_1_code 32 = .ok (.pop, 1) := by decide +kernel
theorem d11_33 : decode prog_5_method_1_code 33 = .ok (.aload_n 0, 1) := by decide +kernel
theorem d11_34 : decode prog_5_method_1_code 34 = .ok (.aload_n 1, 1) := by decide +kernel
theorem d11_35 : decode prog_5_method_1_code 35 = .ok (.putfield 21, 3) := by decide +kernel
theorem d11_38 : decode prog_5_method_1_code 38 = .ok (.aload_n 0, 1) := by decide +kernel
theorem d11_39 : decode prog_5_method_1_code 39 = .ok (.aload_n 2, 1) := by decide +kernel
theorem d11_40 : decode prog_5_method_1_code 40 = .ok (.putfield 26, 3) := by decide +kernel
theorem d11_43 : decode prog_5_method_1_code 43 = .ok (.aload_n 0, 1) := by decide +kernel
theorem d11_44 : decode prog_5_method_1_code 44 = .ok (.aload_n 3, 1) := by decide +kernel
theorem d11_45 : decode prog_5_method_1_code 45 = .ok (.putfield 28, 3) := by decide +kernel
theorem d11_48 : decode prog_5_method_1_code 48 = .ok (.aload_n 0, 1) := by decide +kernel
theorem d11_49 : decode prog_5_method_1_code 49 = .ok (.aload 4, 2) := by decide +kernel
theorem d11_51 : decode prog_5_method_1_code 51 = .ok (.putfield 30, 3) := by decide +kernel
theorem d11_54 : decode prog_5_method_1_code 54 = .ok (.return_, 1) := by decide +kernel
theorem pn_11 : plainName "com/example/headroom/headroom/BrokerUsage" = true := by first | (simp [plainName, overriddenIn]; done) | decide +kernel
theorem ef_rm11 (m : MethodId) (x0 : Addr) (x1 : Addr) (x2 : Addr) (x3 : Addr) (x4 : Addr) : entryFrame m #[(.ref x0), (.ref x1), (.ref x2), (.ref x3), (.ref x4)] 5 = mkF m 0 #[.val (.ref x0), .val (.ref x1), .val (.ref x2), .val (.ref x3), .val (.ref x4)] [] := by first | (simp [entryFrame, mkF, argsToLocals, Value.category]; done) | rfl
def Q_rm11 (Z : State) (a : Addr) (r1 : Addr) (r2 : Addr) (r3 : Addr) (r4 : Addr) (h0 : Heap) (n0 : Nat) (rv : Option Value) (h : Heap) (L : List Loc) : Prop := rv = none ∧ Fr n0 L ∧ Keep h0 h [a] ∧ Exa Z h a "com/example/headroom/headroom/BrokerUsage" ∧ Fld Z h a "com/example/headroom/headroom/BrokerUsage" "cpu" "Lcom/example/headroom/headroom/ResourceUsage;" (.ref r1) ∧ Fld Z h a "com/example/headroom/headroom/BrokerUsage" "directMemory" "Lcom/example/headroom/headroom/ResourceUsage;" (.ref r2) ∧ Fld Z h a "com/example/headroom/headroom/BrokerUsage" "bandwidthIn" "Lcom/example/headroom/headroom/ResourceUsage;" (.ref r3) ∧ Fld Z h a "com/example/headroom/headroom/BrokerUsage" "bandwidthOut" "Lcom/example/headroom/headroom/ResourceUsage;" (.ref r4)
set_option maxRecDepth 65536 in
set_option maxHeartbeats 40000000 in
theorem rm11 (l : Launch) (Z : State) (a0 : Array Value) (hw : ∀ d ∈ tables_1, d.before a0 Z = true) (ws : List Jvm.Cond) (a : Addr) (r1 : Addr) (r2 : Addr) (r3 : Addr) (r4 : Addr) (h0 : Heap) (n0 : Nat) (Z0 : n0 ≤ h0.size) (E_a : Exa Z h0 a "com/example/headroom/headroom/BrokerUsage") (F_cpu : Fld Z h0 a "com/example/headroom/headroom/BrokerUsage" "cpu" "Lcom/example/headroom/headroom/ResourceUsage;" .null) (F_directMemory : Fld Z h0 a "com/example/headroom/headroom/BrokerUsage" "directMemory" "Lcom/example/headroom/headroom/ResourceUsage;" .null) (F_bandwidthIn : Fld Z h0 a "com/example/headroom/headroom/BrokerUsage" "bandwidthIn" "Lcom/example/headroom/headroom/ResourceUsage;" .null) (F_bandwidthOut : Fld Z h0 a "com/example/headroom/headroom/BrokerUsage" "bandwidthOut" "Lcom/example/headroom/headroom/ResourceUsage;" .null) (g_a : n0 ≤ a) :
    MetFree l (⟨"com/example/headroom/headroom/BrokerUsage", "<init>", "(Lcom/example/headroom/headroom/ResourceUsage;Lcom/example/headroom/headroom/ResourceUsage;Lcom/example/headroom/headroom/ResourceUsage;Lcom/example/headroom/headroom/ResourceUsage;)V"⟩ : MethodName) (head1 (Jvm.Cond.code (⟨"com/example/headroom/headroom/BrokerUsage", "<init>", "(Lcom/example/headroom/headroom/ResourceUsage;Lcom/example/headroom/headroom/ResourceUsage;Lcom/example/headroom/headroom/ResourceUsage;Lcom/example/headroom/headroom/ResourceUsage;)V"⟩ : MethodName) prog_5_method_1_code 5 none :: ws) ({ frames := 2, cells := 8, slots := 168, locals := 24 } : Room)) (fun av U => av = #[(.ref a), (.ref r1), (.ref r2), (.ref r3), (.ref r4)] ∧ Z.Warmed39 U.vm ∧ U.heap = h0) (fun _ _ _ _ _ => True) (fun _ U o U' => ∃ rv L, o = .returned rv ∧ Q_rm11 Z a r1 r2 r3 r4 h0 n0 rv U'.heap L ∧ ReturnedEndW U o U' L ({ frames := 2, cells := 8, slots := 168, locals := 24 } : Room).cells ({ frames := 2, cells := 8, slots := 168, locals := 24 } : Room).slots) := by
  refine MetFree.of_bodySF (plainFor_of_name pn_11) hisR ?_
  intro p e s m args below meth c s₁ Bd hml0 hP hK
  obtain ⟨rfl, hZ, hh⟩ := hP
  have hx := Bd.exec
  have hby := Bd.bytes
  have hml : c.maxLocals = 5 := hml0
  have hown : s.vm.findClass "com/example/headroom/headroom/BrokerUsage" = some m.cls := findClass_of_methodNamed Bd.named
  have hnm := (name_of_methodNamed Bd.named Bd.method).1
  have X0 : Stand p l e ({ frames := 2, cells := 8, slots := 168, locals := 24 } : Room) s m #[(.ref a), (.ref r1), (.ref r2), (.ref r3), (.ref r4)] below meth c s₁ [] 0 0 := Stand.of_body Bd
  have e0 : s₁.heap = h0 := by rw [← hh, Bd.state]; rfl
  have N0 := Fr.nil n0
  have pre0 : ∀ t, Steps p.tables e below (s₁.setTop (mkF m 0 #[.val (.ref a), .val (.ref r1), .val (.ref r2), .val (.ref r3), .val (.ref r4)] [])) t → Steps p.tables e below (s₁.setTop (entryFrame m #[(.ref a), (.ref r1), (.ref r2), (.ref r3), (.ref r4)] 5)) t := fun t k => castTop (ef_rm11 m a r1 r2 r3 r4) k
  have hS0 : s.Since s.vm h0.size := State.WarmedH.since (State.WarmedH.refl s) _
  have sg1 : ∀ target, Steps p.tables e below (s₁.setTop (mkF m 1 #[.val (.ref a), .val (.ref r1), .val (.ref r2), .val (.ref r3), .val (.ref r4)] [(.ref a)])) target → Steps p.tables e below (s₁.setTop (mkF m 0 #[.val (.ref a), .val (.ref r1), .val (.ref r2), .val (.ref r3), .val (.ref r4)] [])) target := by
    intro target kt
    show Steps p.tables e below (s₁.setTop (mkF m 0 #[.val (.ref a), .val (.ref r1), .val (.ref r2), .val (.ref r3), .val (.ref r4)] [])) _
    refine XS.aloadN X0.here hx rfl (hb hby d11_0) rfl rfl ?_
    exact kt
  obtain ⟨_, _, ⟨T2, L2, k2, n2⟩, -, X2, ⟨Lc2, hQ2, l2, y2, z2⟩, st2⟩ := X0.specialBack hx (y := (⟨"java/lang/Record", "<init>", "()V"⟩ : MethodName)) rfl hown (mvT hZ (hw _ (List.mem_of_getElem? (i := 77) rfl))) (mvT hZ (hw _ (List.mem_of_getElem? (i := 11) rfl))) (mvT hZ (hw _ (List.mem_of_getElem? (i := 14) rfl))) (by decide) (backOf (W := 0) (rm3 l Z a0 hw [] a h0 n0 Z0 ) hZ (hw _ (List.mem_of_getElem? (i := 14) rfl)) (hw _ (List.mem_of_getElem? (i := 13) rfl)) (by decide) (by decide)) (g := (mkF m 1 #[.val (.ref a), .val (.ref r1), .val (.ref r2), .val (.ref r3), .val (.ref r4)] [(.ref a)])) rfl (by rw [hml]; rfl) (Steps.refl _) (a := a) (argsL := []) (rest := []) (lenOf pd_3 rfl) rfl (by show 2 * 0 + _ ≤ _; exact Nat.le_of_eq rfl) (hb hby d11_1) (fun _ _ => ⟨rfl, e0, (by decide : 0 + 0 ≤ _), (by decide : 0 + 0 ≤ _)⟩)
  dsimp only [Pt.U, Pt.locs, Pt.cells, Pt.slots] at X2 l2 y2 z2 st2 hQ2
  subst l2 y2 z2
  obtain ⟨rfl, N2q, c2_0⟩ := hQ2
  have N2 := Fr.app N0 N2q
  have sg3 : ∀ target, Steps p.tables e below (T2.setTop (mkF m 5 #[.val (.ref a), .val (.ref r1), .val (.ref r2), .val (.ref r3), .val (.ref r4)] [(.ref r1)])) target → Steps p.tables e below (T2.setTop (mkF m 4 #[.val (.ref a), .val (.ref r1), .val (.ref r2), .val (.ref r3), .val (.ref r4)] [])) target := by
    intro target kt
    show Steps p.tables e below (T2.setTop (mkF m 4 #[.val (.ref a), .val (.ref r1), .val (.ref r2), .val (.ref r3), .val (.ref r4)] [])) _
    refine XS.aloadN X2.here hx rfl (hb hby d11_4) rfl rfl ?_
    exact kt
  obtain ⟨b4, T4, h4, k4, X4, e4, E4, hS4, hk4, hZ4, hown4, st4⟩ := ldcS (s := s) (vm0 := s.vm) X2 hx hZ (own := "com/example/headroom/headroom/BrokerUsage") hown (hw _ (List.mem_of_getElem? (i := 78) rfl)) (own_wS hw) c2_0 hS0 (Nat.le_refl h0.size) (g := (mkF m 5 #[.val (.ref a), .val (.ref r1), .val (.ref r2), .val (.ref r3), .val (.ref r4)] [(.ref r1)])) rfl (hb hby d11_5) (n := 12) (by decide) (by decide) (by decide) (by decide)
  have Zs4 : n0 ≤ h4.size := Nat.le_trans Z0 E4.1
  have K4 : Keep h0 h4 [a] := (Keep.refl h0 [a]).ext E4
  have f5 : Exa Z h4 a "com/example/headroom/headroom/BrokerUsage" := E_a.ext E4
  have f6 : Fld Z h4 a "com/example/headroom/headroom/BrokerUsage" "cpu" "Lcom/example/headroom/headroom/ResourceUsage;" .null := F_cpu.ext E4
  have f7 : Fld Z h4 a "com/example/headroom/headroom/BrokerUsage" "directMemory" "Lcom/example/headroom/headroom/ResourceUsage;" .null := F_directMemory.ext E4
  have f8 : Fld Z h4 a "com/example/headroom/headroom/BrokerUsage" "bandwidthIn" "Lcom/example/headroom/headroom/ResourceUsage;" .null := F_bandwidthIn.ext E4
  have f9 : Fld Z h4 a "com/example/headroom/headroom/BrokerUsage" "bandwidthOut" "Lcom/example/headroom/headroom/ResourceUsage;" .null := F_bandwidthOut.ext E4
  obtain ⟨_, _, ⟨T10, L10, k10, n10⟩, -, X10, ⟨Lc10, hQ10, l10, y10, z10⟩, st10⟩ := Jvm.LawKit.callS X4 hx (y := (⟨"java/util/Objects", "requireNonNull", "(Ljava/lang/Object;Ljava/lang/String;)Ljava/lang/Object;"⟩ : MethodName)) hown4 (mvT hZ4 (hw _ (List.mem_of_getElem? (i := 79) rfl))) (mvT hZ4 (hw _ (List.mem_of_getElem? (i := 80) rfl))) (mvT hZ4 (hw _ (List.mem_of_getElem? (i := 81) rfl))) (mvT hZ4 (hw _ (List.mem_of_getElem? (i := 82) rfl))) (by decide) (backOf (W := 0) (rm12 l Z a0 hw [] r1 b4 h4 n0 Zs4 ) hZ4 (hw _ (List.mem_of_getElem? (i := 82) rfl)) (hw _ (List.mem_of_getElem? (i := 81) rfl)) (by decide) (by decide)) (g := (mkF m 7 #[.val (.ref a), .val (.ref r1), .val (.ref r2), .val (.ref r3), .val (.ref r4)] [(.ref b4), (.ref r1)])) rfl (by rw [hml]; rfl) (argsL := [(.ref r1), (.ref b4)]) (rest := []) (lenOf pd_16 rfl) rfl (by show 2 * 0 + _ ≤ _; exact Nat.le_of_eq rfl) (hb hby d11_7) (fun _ _ => ⟨rfl, e4, (by decide : 2 + 0 ≤ _), (by decide : 16 + 0 ≤ _)⟩)
  dsimp only [Pt.U, Pt.locs, Pt.cells, Pt.slots] at X10 l10 y10 z10 st10 hQ10
  subst l10 y10 z10
  obtain ⟨rfl, N10q, c10_0⟩ := hQ10
  have N10 := Fr.app N2 N10q
  have sg11 : ∀ target, Steps p.tables e below (T10.setTop (mkF m 12 #[.val (.ref a), .val (.ref r1), .val (.ref r2), .val (.ref r3), .val (.ref r4)] [(.ref r2)])) target → Steps p.tables e below (T10.setTop (mkF m 10 #[.val (.ref a), .val (.ref r1), .val (.ref r2), .val (.ref r3), .val (.ref r4)] [(.ref r1)])) target := by
    intro target kt
    show Steps p.tables e below (T10.setTop (mkF m 10 #[.val (.ref a), .val (.ref r1), .val (.ref r2), .val (.ref r3), .val (.ref r4)] [(.ref r1)])) _
    refine XS.pop X10.here hx rfl (hb hby d11_10) rfl rfl ?_
    show Steps p.tables e below (T10.setTop (mkF m 11 #[.val (.ref a), .val (.ref r1), .val (.ref r2), .val (.ref r3), .val (.ref r4)] [])) _
    refine XS.aloadN X10.here hx rfl (hb hby d11_11) rfl rfl ?_
    exact kt
  obtain ⟨b12, T12, h12, k12, X12, e12, E12, hS12, hk12, hZ12, hown12, st12⟩ := ldcS (s := s) (vm0 := T4.vm) X10 hx hZ4 (own := "com/example/headroom/headroom/BrokerUsage") hown4 (hw _ (List.mem_of_getElem? (i := 83) rfl)) (own_wS hw) c10_0 hS4 hk4 (g := (mkF m 12 #[.val (.ref a), .val (.ref r1), .val (.ref r2), .val (.ref r3), .val (.ref r4)] [(.ref r2)])) rfl (hb hby d11_12) (n := 48) (by decide) (by decide) (by decide) (by decide)
  have Zs12 : n0 ≤ h12.size := Nat.le_trans Zs4 E12.1
  have K12 : Keep h0 h12 [a] := K4.ext E12
  have f13 : Exa Z h12 a "com/example/headroom/headroom/BrokerUsage" := f5.ext E12
  have f14 : Fld Z h12 a "com/example/headroom/headroom/BrokerUsage" "cpu" "Lcom/example/headroom/headroom/ResourceUsage;" .null := f6.ext E12
  have f15 : Fld Z h12 a "com/example/headroom/headroom/BrokerUsage" "directMemory" "Lcom/example/headroom/headroom/ResourceUsage;" .null := f7.ext E12
  have f16 : Fld Z h12 a "com/example/headroom/headroom/BrokerUsage" "bandwidthIn" "Lcom/example/headroom/headroom/ResourceUsage;" .null := f8.ext E12
  have f17 : Fld Z h12 a "com/example/headroom/headroom/BrokerUsage" "bandwidthOut" "Lcom/example/headroom/headroom/ResourceUsage;" .null := f9.ext E12
  obtain ⟨_, _, ⟨T18, L18, k18, n18⟩, -, X18, ⟨Lc18, hQ18, l18, y18, z18⟩, st18⟩ := Jvm.LawKit.callS X12 hx (y := (⟨"java/util/Objects", "requireNonNull", "(Ljava/lang/Object;Ljava/lang/String;)Ljava/lang/Object;"⟩ : MethodName)) hown12 (mvT hZ12 (hw _ (List.mem_of_getElem? (i := 79) rfl))) (mvT hZ12 (hw _ (List.mem_of_getElem? (i := 80) rfl))) (mvT hZ12 (hw _ (List.mem_of_getElem? (i := 81) rfl))) (mvT hZ12 (hw _ (List.mem_of_getElem? (i := 82) rfl))) (by decide) (backOf (W := 0) (rm12 l Z a0 hw [] r2 b12 h12 n0 Zs12 ) hZ12 (hw _ (List.mem_of_getElem? (i := 82) rfl)) (hw _ (List.mem_of_getElem? (i := 81) rfl)) (by decide) (by decide)) (g := (mkF m 14 #[.val (.ref a), .val (.ref r1), .val (.ref r2), .val (.ref r3), .val (.ref r4)] [(.ref b12), (.ref r2)])) rfl (by rw [hml]; rfl) (argsL := [(.ref r2), (.ref b12)]) (rest := []) (lenOf pd_16 rfl) rfl (by show 2 * 0 + _ ≤ _; exact Nat.le_of_eq rfl) (hb hby d11_14) (fun _ _ => ⟨rfl, e12, (by decide : 4 + 0 ≤ _), (by decide : 68 + 0 ≤ _)⟩)
  dsimp only [Pt.U, Pt.locs, Pt.cells, Pt.slots] at X18 l18 y18 z18 st18 hQ18
  subst l18 y18 z18
  obtain ⟨rfl, N18q, c18_0⟩ := hQ18
  have N18 := Fr.app N10 N18q
  have sg19 : ∀ target, Steps p.tables e below (T18.setTop (mkF m 19 #[.val (.ref a), .val (.ref r1), .val (.ref r2), .val (.ref r3), .val (.ref r4)] [(.ref r3)])) target → Steps p.tables e below (T18.setTop (mkF m 17 #[.val (.ref a), .val (.ref r1), .val (.ref r2), .val (.ref r3), .val (.ref r4)] [(.ref r2)])) target := by
    intro target kt
    show Steps p.tables e below (T18.setTop (mkF m 17 #[.val (.ref a), .val (.ref r1), .val (.ref r2), .val (.ref r3), .val (.ref r4)] [(.ref r2)])) _
    refine XS.pop X18.here hx rfl (hb hby d11_17) rfl rfl ?_
    show Steps p.tables e below (T18.setTop (mkF m 18 #[.val (.ref a), .val (.ref r1), .val (.ref r2), .val (.ref r3), .val (.ref r4)] [])) _
    refine XS.aloadN X18.here hx rfl (hb hby d11_18) rfl rfl ?_
    exact kt
  obtain ⟨b20, T20, h20, k20, X20, e20, E20, hS20, hk20, hZ20, hown20, st20⟩ := ldcS (s := s) (vm0 := T12.vm) X18 hx hZ12 (own := "com/example/headroom/headroom/BrokerUsage") hown12 (hw _ (List.mem_of_getElem? (i := 84) rfl)) (own_wS hw) c18_0 hS12 hk12 (g := (mkF m 19 #[.val (.ref a), .val (.ref r1), .val (.ref r2), .val (.ref r3), .val (.ref r4)] [(.ref r3)])) rfl (hb hby d11_19) (n := 44) (by decide) (by decide) (by decide) (by decide)
  have Zs20 : n0 ≤ h20.size := Nat.le_trans Zs12 E20.1
  have K20 : Keep h0 h20 [a] := K12.ext E20
  have f21 : Exa Z h20 a "com/example/headroom/headroom/BrokerUsage" := f13.ext E20
  have f22 : Fld Z h20 a "com/example/headroom/headroom/BrokerUsage" "cpu" "Lcom/example/headroom/headroom/ResourceUsage;" .null := f14.ext E20
  have f23 : Fld Z h20 a "com/example/headroom/headroom/BrokerUsage" "directMemory" "Lcom/example/headroom/headroom/ResourceUsage;" .null := f15.ext E20
  have f24 : Fld Z h20 a "com/example/headroom/headroom/BrokerUsage" "bandwidthIn" "Lcom/example/headroom/headroom/ResourceUsage;" .null := f16.ext E20
  have f25 : Fld Z h20 a "com/example/headroom/headroom/BrokerUsage" "bandwidthOut" "Lcom/example/headroom/headroom/ResourceUsage;" .null := f17.ext E20
  obtain ⟨_, _, ⟨T26, L26, k26, n26⟩, -, X26, ⟨Lc26, hQ26, l26, y26, z26⟩, st26⟩ := Jvm.LawKit.callS X20 hx (y := (⟨"java/util/Objects", "requireNonNull", "(Ljava/lang/Object;Ljava/lang/String;)Ljava/lang/Object;"⟩ : MethodName)) hown20 (mvT hZ20 (hw _ (List.mem_of_getElem? (i := 79) rfl))) (mvT hZ20 (hw _ (List.mem_of_getElem? (i := 80) rfl))) (mvT hZ20 (hw _ (List.mem_of_getElem? (i := 81) rfl))) (mvT hZ20 (hw _ (List.mem_of_getElem? (i := 82) rfl))) (by decide) (backOf (W := 0) (rm12 l Z a0 hw [] r3 b20 h20 n0 Zs20 ) hZ20 (hw _ (List.mem_of_getElem? (i := 82) rfl)) (hw _ (List.mem_of_getElem? (i := 81) rfl)) (by decide) (by decide)) (g := (mkF m 21 #[.val (.ref a), .val (.ref r1), .val (.ref r2), .val (.ref r3), .val (.ref r4)] [(.ref b20), (.ref r3)])) rfl (by rw [hml]; rfl) (argsL := [(.ref r3), (.ref b20)]) (rest := []) (lenOf pd_16 rfl) rfl (by show 2 * 0 + _ ≤ _; exact Nat.le_of_eq rfl) (hb hby d11_21) (fun _ _ => ⟨rfl, e20, (by decide : 6 + 0 ≤ _), (by decide : 116 + 0 ≤ _)⟩)
  dsimp only [Pt.U, Pt.locs, Pt.cells, Pt.slots] at X26 l26 y26 z26 st26 hQ26
  subst l26 y26 z26
  obtain ⟨rfl, N26q, c26_0⟩ := hQ26
  have N26 := Fr.app N18 N26q
  have sg27 : ∀ target, Steps p.tables e below (T26.setTop (mkF m 27 #[.val (.ref a), .val (.ref r1), .val (.ref r2), .val (.ref r3), .val (.ref r4)] [(.ref r4)])) target → Steps p.tables e below (T26.setTop (mkF m 24 #[.val (.ref a), .val (.ref r1), .val (.ref r2), .val (.ref r3), .val (.ref r4)] [(.ref r3)])) target := by
    intro target kt
    show Steps p.tables e below (T26.setTop (mkF m 24 #[.val (.ref a), .val (.ref r1), .val (.ref r2), .val (.ref r3), .val (.ref r4)] [(.ref r3)])) _
    refine XS.pop X26.here hx rfl (hb hby d11_24) rfl rfl ?_
    show Steps p.tables e below (T26.setTop (mkF m 25 #[.val (.ref a), .val (.ref r1), .val (.ref r2), .val (.ref r3), .val (.ref r4)] [])) _
    refine XS.aload X26.here hx rfl (hb hby d11_25) rfl rfl ?_
    exact kt
  obtain ⟨b28, T28, h28, k28, X28, e28, E28, hS28, hk28, hZ28, hown28, st28⟩ := ldcS (s := s) (vm0 := T20.vm) X26 hx hZ20 (own := "com/example/headroom/headroom/BrokerUsage") hown20 (hw _ (List.mem_of_getElem? (i := 85) rfl)) (own_wS hw) c26_0 hS20 hk20 (g := (mkF m 27 #[.val (.ref a), .val (.ref r1), .val (.ref r2), .val (.ref r3), .val (.ref r4)] [(.ref r4)])) rfl (hb hby d11_27) (n := 48) (by decide) (by decide) (by decide) (by decide)
  have Zs28 : n0 ≤ h28.size := Nat.le_trans Zs20 E28.1
  have K28 : Keep h0 h28 [a] := K20.ext E28
  have f29 : Exa Z h28 a "com/example/headroom/headroom/BrokerUsage" := f21.ext E28
  have f30 : Fld Z h28 a "com/example/headroom/headroom/BrokerUsage" "cpu" "Lcom/example/headroom/headroom/ResourceUsage;" .null := f22.ext E28
  have f31 : Fld Z h28 a "com/example/headroom/headroom/BrokerUsage" "directMemory" "Lcom/example/headroom/headroom/ResourceUsage;" .null := f23.ext E28
  have f32 : Fld Z h28 a "com/example/headroom/headroom/BrokerUsage" "bandwidthIn" "Lcom/example/headroom/headroom/ResourceUsage;" .null := f24.ext E28
  have f33 : Fld Z h28 a "com/example/headroom/headroom/BrokerUsage" "bandwidthOut" "Lcom/example/headroom/headroom/ResourceUsage;" .null := f25.ext E28
  obtain ⟨_, _, ⟨T34, L34, k34, n34⟩, -, X34, ⟨Lc34, hQ34, l34, y34, z34⟩, st34⟩ := Jvm.LawKit.callS X28 hx (y := (⟨"java/util/Objects", "requireNonNull", "(Ljava/lang/Object;Ljava/lang/String;)Ljava/lang/Object;"⟩ : MethodName)) hown28 (mvT hZ28 (hw _ (List.mem_of_getElem? (i := 79) rfl))) (mvT hZ28 (hw _ (List.mem_of_getElem? (i := 80) rfl))) (mvT hZ28 (hw _ (List.mem_of_getElem? (i := 81) rfl))) (mvT hZ28 (hw _ (List.mem_of_getElem? (i := 82) rfl))) (by decide) (backOf (W := 0) (rm12 l Z a0 hw [] r4 b28 h28 n0 Zs28 ) hZ28 (hw _ (List.mem_of_getElem? (i := 82) rfl)) (hw _ (List.mem_of_getElem? (i := 81) rfl)) (by decide) (by decide)) (g := (mkF m 29 #[.val (.ref a), .val (.ref r1), .val (.ref r2), .val (.ref r3), .val (.ref r4)] [(.ref b28), (.ref r4)])) rfl (by rw [hml]; rfl) (argsL := [(.ref r4), (.ref b28)]) (rest := []) (lenOf pd_16 rfl) rfl (by show 2 * 0 + _ ≤ _; exact Nat.le_of_eq rfl) (hb hby d11_29) (fun _ _ => ⟨rfl, e28, (by decide : 8 + 0 ≤ _), (by decide : 168 + 0 ≤ _)⟩)
  dsimp only [Pt.U, Pt.locs, Pt.cells, Pt.slots] at X34 l34 y34 z34 st34 hQ34
  subst l34 y34 z34
  obtain ⟨rfl, N34q, c34_0⟩ := hQ34
  have N34 := Fr.app N26 N34q
  have sg35 : ∀ target, Steps p.tables e below (T34.setTop (mkF m 35 #[.val (.ref a), .val (.ref r1), .val (.ref r2), .val (.ref r3), .val (.ref r4)] [(.ref r1), (.ref a)])) target → Steps p.tables e below (T34.setTop (mkF m 32 #[.val (.ref a), .val (.ref r1), .val (.ref r2), .val (.ref r3), .val (.ref r4)] [(.ref r4)])) target := by
    intro target kt
    show Steps p.tables e below (T34.setTop (mkF m 32 #[.val (.ref a), .val (.ref r1), .val (.ref r2), .val (.ref r3), .val (.ref r4)] [(.ref r4)])) _
    refine XS.pop X34.here hx rfl (hb hby d11_32) rfl rfl ?_
    show Steps p.tables e below (T34.setTop (mkF m 33 #[.val (.ref a), .val (.ref r1), .val (.ref r2), .val (.ref r3), .val (.ref r4)] [])) _
    refine XS.aloadN X34.here hx rfl (hb hby d11_33) rfl rfl ?_
    show Steps p.tables e below (T34.setTop (mkF m 34 #[.val (.ref a), .val (.ref r1), .val (.ref r2), .val (.ref r3), .val (.ref r4)] [(.ref a)])) _
    refine XS.aloadN X34.here hx rfl (hb hby d11_34) rfl rfl ?_
    exact kt
  obtain ⟨T36, h36, X36, e36, W36, st36⟩ := putF X34 hx hZ28 hown28 (host := "") (Or.inl (hw _ (List.mem_of_getElem? (i := 86) rfl))) Via.refl c34_0 f30 f29 (Or.inr ⟨(hw _ (List.mem_of_getElem? (i := 87) rfl)), rfl, hnm⟩) (hw _ (List.mem_of_getElem? (i := 51) rfl)) (ty := (.object "com/example/headroom/headroom/ResourceUsage")) (by decide) rfl rfl (g := (mkF m 35 #[.val (.ref a), .val (.ref r1), .val (.ref r2), .val (.ref r3), .val (.ref r4)] [(.ref r1), (.ref a)])) rfl rfl (hb hby d11_35)
  have N36 := Fr.snoc X36 N34 g_a
  have Zs36 : n0 ≤ h36.size := by rw [W36.size]; exact Zs28
  have K36 : Keep h0 h36 [a] := K28.wr W36 (Or.inl (List.mem_of_getElem? (i := 0) rfl))
  have f37 : Exa Z h36 a "com/example/headroom/headroom/BrokerUsage" := f29.wr W36
  have f38 : Fld Z h36 a "com/example/headroom/headroom/BrokerUsage" "directMemory" "Lcom/example/headroom/headroom/ResourceUsage;" .null := f31.other W36 (Or.inr (slot_ne (Or.inr (hw _ (List.mem_of_getElem? (i := 89) rfl))) (Or.inr (hw _ (List.mem_of_getElem? (i := 87) rfl))) (by decide) (t := (.object "com/example/headroom/headroom/ResourceUsage")) (t' := (.object "com/example/headroom/headroom/ResourceUsage")) (by decide) (by decide)))
  have f39 : Fld Z h36 a "com/example/headroom/headroom/BrokerUsage" "bandwidthIn" "Lcom/example/headroom/headroom/ResourceUsage;" .null := f32.other W36 (Or.inr (slot_ne (Or.inr (hw _ (List.mem_of_getElem? (i := 91) rfl))) (Or.inr (hw _ (List.mem_of_getElem? (i := 87) rfl))) (by decide) (t := (.object "com/example/headroom/headroom/ResourceUsage")) (t' := (.object "com/example/headroom/headroom/ResourceUsage")) (by decide) (by decide)))
  have f40 : Fld Z h36 a "com/example/headroom/headroom/BrokerUsage" "bandwidthOut" "Lcom/example/headroom/headroom/ResourceUsage;" .null := f33.other W36 (Or.inr (slot_ne (Or.inr (hw _ (List.mem_of_getElem? (i := 93) rfl))) (Or.inr (hw _ (List.mem_of_getElem? (i := 87) rfl))) (by decide) (t := (.object "com/example/headroom/headroom/ResourceUsage")) (t' := (.object "com/example/headroom/headroom/ResourceUsage")) (by decide) (by decide)))
  have f41 : Fld Z h36 a "com/example/headroom/headroom/BrokerUsage" "cpu" "Lcom/example/headroom/headroom/ResourceUsage;" (.ref r1) := f30.same W36
  have sg42 : ∀ target, Steps p.tables e below (T36.setTop (mkF m 40 #[.val (.ref a), .val (.ref r1), .val (.ref r2), .val (.ref r3), .val (.ref r4)] [(.ref r2), (.ref a)])) target → Steps p.tables e below (T36.setTop (mkF m 38 #[.val (.ref a), .val (.ref r1), .val (.ref r2), .val (.ref r3), .val (.ref r4)] [])) target := by
    intro target kt
    show Steps p.tables e below (T36.setTop (mkF m 38 #[.val (.ref a), .val (.ref r1), .val (.ref r2), .val (.ref r3), .val (.ref r4)] [])) _
    refine XS.aloadN X36.here hx rfl (hb hby d11_38) rfl rfl ?_
    show Steps p.tables e below (T36.setTop (mkF m 39 #[.val (.ref a), .val (.ref r1), .val (.ref r2), .val (.ref r3), .val (.ref r4)] [(.ref a)])) _
    refine XS.aloadN X36.here hx rfl (hb hby d11_39) rfl rfl ?_
    exact kt
  obtain ⟨T43, h43, X43, e43, W43, st43⟩ := putF X36 hx hZ28 hown28 (host := "") (Or.inl (hw _ (List.mem_of_getElem? (i := 88) rfl))) Via.refl e36 f38 f37 (Or.inr ⟨(hw _ (List.mem_of_getElem? (i := 89) rfl)), rfl, hnm⟩) (hw _ (List.mem_of_getElem? (i := 51) rfl)) (ty := (.object "com/example/headroom/headroom/ResourceUsage")) (by decide) rfl rfl (g := (mkF m 40 #[.val (.ref a), .val (.ref r1), .val (.ref r2), .val (.ref r3), .val (.ref r4)] [(.ref r2), (.ref a)])) rfl rfl (hb hby d11_40)
  have N43 := Fr.snoc X43 N36 g_a
  have Zs43 : n0 ≤ h43.size := by rw [W43.size]; exact Zs36
  have K43 : Keep h0 h43 [a] := K36.wr W43 (Or.inl (List.mem_of_getElem? (i := 0) rfl))
  have f44 : Exa Z h43 a "com/example/headroom/headroom/BrokerUsage" := f37.wr W43
  have f45 : Fld Z h43 a "com/example/headroom/headroom/BrokerUsage" "cpu" "Lcom/example/headroom/headroom/ResourceUsage;" (.ref r1) := f41.other W43 (Or.inr (slot_ne (Or.inr (hw _ (List.mem_of_getElem? (i := 87) rfl))) (Or.inr (hw _ (List.mem_of_getElem? (i := 89) rfl))) (by decide) (t := (.object "com/example/headroom/headroom/ResourceUsage")) (t' := (.object "com/example/headroom/headroom/ResourceUsage")) (by decide) (by decide)))
  have f46 : Fld Z h43 a "com/example/headroom/headroom/BrokerUsage" "bandwidthIn" "Lcom/example/headroom/headroom/ResourceUsage;" .null := f39.other W43 (Or.inr (slot_ne (Or.inr (hw _ (List.mem_of_getElem? (i := 91) rfl))) (Or.inr (hw _ (List.mem_of_getElem? (i := 89) rfl))) (by decide) (t := (.object "com/example/headroom/headroom/ResourceUsage")) (t' := (.object "com/example/headroom/headroom/ResourceUsage")) (by decide) (by decide)))
  have f47 : Fld Z h43 a "com/example/headroom/headroom/BrokerUsage" "bandwidthOut" "Lcom/example/headroom/headroom/ResourceUsage;" .null := f40.other W43 (Or.inr (slot_ne (Or.inr (hw _ (List.mem_of_getElem? (i := 93) rfl))) (Or.inr (hw _ (List.mem_of_getElem? (i := 89) rfl))) (by decide) (t := (.object "com/example/headroom/headroom/ResourceUsage")) (t' := (.object "com/example/headroom/headroom/ResourceUsage")) (by decide) (by decide)))
  have f48 : Fld Z h43 a "com/example/headroom/headroom/BrokerUsage" "directMemory" "Lcom/example/headroom/headroom/ResourceUsage;" (.ref r2) := f38.same W43
  have sg49 : ∀ target, Steps p.tables e below (T43.setTop (mkF m 45 #[.val (.ref a), .val (.ref r1), .val (.ref r2), .val (.ref r3), .val (.ref r4)] [(.ref r3), (.ref a)])) target → Steps p.tables e below (T43.setTop (mkF m 43 #[.val (.ref a), .val (.ref r1), .val (.ref r2), .val (.ref r3), .val (.ref r4)] [])) target := by
    intro target kt
    show Steps p.tables e below (T43.setTop (mkF m 43 #[.val (.ref a), .val (.ref r1), .val (.ref r2), .val (.ref r3), .val (.ref r4)] [])) _
    refine XS.aloadN X43.here hx rfl (hb hby d11_43) rfl rfl ?_
    show Steps p.tables e below (T43.setTop (mkF m 44 #[.val (.ref a), .val (.ref r1), .val (.ref r2), .val (.ref r3), .val (.ref r4)] [(.ref a)])) _
    refine XS.aloadN X43.here hx rfl (hb hby d11_44) rfl rfl ?_
    exact kt
  obtain ⟨T50, h50, X50, e50, W50, st50⟩ := putF X43 hx hZ28 hown28 (host := "") (Or.inl (hw _ (List.mem_of_getElem? (i := 90) rfl))) Via.refl e43 f46 f44 (Or.inr ⟨(hw _ (List.mem_of_getElem? (i := 91) rfl)), rfl, hnm⟩) (hw _ (List.mem_of_getElem? (i := 51) rfl)) (ty := (.object "com/example/headroom/headroom/ResourceUsage")) (by decide) rfl rfl (g := (mkF m 45 #[.val (.ref a), .val (.ref r1), .val (.ref r2), .val (.ref r3), .val (.ref r4)] [(.ref r3), (.ref a)])) rfl rfl (hb hby d11_45)
  have N50 := Fr.snoc X50 N43 g_a
  have Zs50 : n0 ≤ h50.size := by rw [W50.size]; exact Zs43
  have K50 : Keep h0 h50 [a] := K43.wr W50 (Or.inl (List.mem_of_getElem? (i := 0) rfl))
  have f51 : Exa Z h50 a "com/example/headroom/headroom/BrokerUsage" := f44.wr W50
  have f52 : Fld Z h50 a "com/example/headroom/headroom/BrokerUsage" "cpu" "Lcom/example/headroom/headroom/ResourceUsage;" (.ref r1) := f45.other W50 (Or.inr (slot_ne (Or.inr (hw _ (List.mem_of_getElem? (i := 87) rfl))) (Or.inr (hw _ (List.mem_of_getElem? (i := 91) rfl))) (by decide) (t := (.object "com/example/headroom/headroom/ResourceUsage")) (t' := (.object "com/example/headroom/headroom/ResourceUsage")) (by decide) (by decide)))
  have f53 : Fld Z h50 a "com/example/headroom/headroom/BrokerUsage" "directMemory" "Lcom/example/headroom/headroom/ResourceUsage;" (.ref r2) := f48.other W50 (Or.inr (slot_ne (Or.inr (hw _ (List.mem_of_getElem? (i := 89) rfl))) (Or.inr (hw _ (List.mem_of_getElem? (i := 91) rfl))) (by decide) (t := (.object "com/example/headroom/headroom/ResourceUsage")) (t' := (.object "com/example/headroom/headroom/ResourceUsage")) (by decide) (by decide)))
  have f54 : Fld Z h50 a "com/example/headroom/headroom/BrokerUsage" "bandwidthOut" "Lcom/example/headroom/headroom/ResourceUsage;" .null := f47.other W50 (Or.inr (slot_ne (Or.inr (hw _ (List.mem_of_getElem? (i := 93) rfl))) (Or.inr (hw _ (List.mem_of_getElem? (i := 91) rfl))) (by decide) (t := (.object "com/example/headroom/headroom/ResourceUsage")) (t' := (.object "com/example/headroom/headroom/ResourceUsage")) (by decide) (by decide)))
  have f55 : Fld Z h50 a "com/example/headroom/headroom/BrokerUsage" "bandwidthIn" "Lcom/example/headroom/headroom/ResourceUsage;" (.ref r3) := f46.same W50
  have sg56 : ∀ target, Steps p.tables e below (T50.setTop (mkF m 51 #[.val (.ref a), .val (.ref r1), .val (.ref r2), .val (.ref r3), .val (.ref r4)] [(.ref r4), (.ref a)])) target → Steps p.tables e below (T50.setTop (mkF m 48 #[.val (.ref a), .val (.ref r1), .val (.ref r2), .val (.ref r3), .val (.ref r4)] [])) target := by
    intro target kt
    show Steps p.tables e below (T50.setTop (mkF m 48 #[.val (.ref a), .val (.ref r1), .val (.ref r2), .val (.ref r3), .val (.ref r4)] [])) _
    refine XS.aloadN X50.here hx rfl (hb hby d11_48) rfl rfl ?_
    show Steps p.tables e below (T50.setTop (mkF m 49 #[.val (.ref a), .val (.ref r1), .val (.ref r2), .val (.ref r3), .val (.ref r4)] [(.ref a)])) _
    refine XS.aload X50.here hx rfl (hb hby d11_49) rfl rfl ?_
    exact kt
  obtain ⟨T57, h57, X57, e57, W57, st57⟩ := putF X50 hx hZ28 hown28 (host := "") (Or.inl (hw _ (List.mem_of_getElem? (i := 92) rfl))) Via.refl e50 f54 f51 (Or.inr ⟨(hw _ (List.mem_of_getElem? (i := 93) rfl)), rfl, hnm⟩) (hw _ (List.mem_of_getElem? (i := 51) rfl)) (ty := (.object "com/example/headroom/headroom/ResourceUsage")) (by decide) rfl rfl (g := (mkF m 51 #[.val (.ref a), .val (.ref r1), .val (.ref r2), .val (.ref r3), .val (.ref r4)] [(.ref r4), (.ref a)])) rfl rfl (hb hby d11_51)
  have N57 := Fr.snoc X57 N50 g_a
  have Zs57 : n0 ≤ h57.size := by rw [W57.size]; exact Zs50
  have K57 : Keep h0 h57 [a] := K50.wr W57 (Or.inl (List.mem_of_getElem? (i := 0) rfl))
  have f58 : Exa Z h57 a "com/example/headroom/headroom/BrokerUsage" := f51.wr W57
  have f59 : Fld Z h57 a "com/example/headroom/headroom/BrokerUsage" "cpu" "Lcom/example/headroom/headroom/ResourceUsage;" (.ref r1) := f52.other W57 (Or.inr (slot_ne (Or.inr (hw _ (List.mem_of_getElem? (i := 87) rfl))) (Or.inr (hw _ (List.mem_of_getElem? (i := 93) rfl))) (by decide) (t := (.object "com/example/headroom/headroom/ResourceUsage")) (t' := (.object "com/example/headroom/headroom/ResourceUsage")) (by decide) (by decide)))
  have f60 : Fld Z h57 a "com/example/headroom/headroom/BrokerUsage" "directMemory" "Lcom/example/headroom/headroom/ResourceUsage;" (.ref r2) := f53.other W57 (Or.inr (slot_ne (Or.inr (hw _ (List.mem_of_getElem? (i := 89) rfl))) (Or.inr (hw _ (List.mem_of_getElem? (i := 93) rfl))) (by decide) (t := (.object "com/example/headroom/headroom/ResourceUsage")) (t' := (.object "com/example/headroom/headroom/ResourceUsage")) (by decide) (by decide)))
  have f61 : Fld Z h57 a "com/example/headroom/headroom/BrokerUsage" "bandwidthIn" "Lcom/example/headroom/headroom/ResourceUsage;" (.ref r3) := f55.other W57 (Or.inr (slot_ne (Or.inr (hw _ (List.mem_of_getElem? (i := 91) rfl))) (Or.inr (hw _ (List.mem_of_getElem? (i := 93) rfl))) (by decide) (t := (.object "com/example/headroom/headroom/ResourceUsage")) (t' := (.object "com/example/headroom/headroom/ResourceUsage")) (by decide) (by decide)))
  have f62 : Fld Z h57 a "com/example/headroom/headroom/BrokerUsage" "bandwidthOut" "Lcom/example/headroom/headroom/ResourceUsage;" (.ref r4) := f54.same W57
  obtain ⟨fs, hr, hrun, hended, hWE⟩ := Stand.leaveW (s := s) (vm₁ := T28.vm) X57 hS28 (by rw [e57]; exact (Nat.le_trans (Nat.le_trans (Nat.le_trans (Nat.le_trans hk28 (Keep.of_wr W36).1) (Keep.of_wr W43).1) (Keep.of_wr W50).1) (Keep.of_wr W57).1)) (v := none) (fun _ => rfl)
  refine ⟨_, _, pre0 _ ?_, hrun, hended, _, _, rfl, ?_, hWE.1, hWE.2.1, hWE.2.2.1, hWE.2.2.2.mono (by decide) (by decide)⟩
  · show Steps p.tables e below (s₁.setTop (mkF m 0 #[.val (.ref a), .val (.ref r1), .val (.ref r2), .val (.ref r3), .val (.ref r4)] [])) _
    refine sg1 _ ?_
    refine st2.trans ?_
    refine sg3 _ ?_
    refine st4 _ ?_
    refine st10 _ ?_
    refine sg11 _ ?_
    refine st12 _ ?_
    refine st18 _ ?_
    refine sg19 _ ?_
    refine st20 _ ?_
    refine st26 _ ?_
    refine sg27 _ ?_
    refine st28 _ ?_
    refine st34 _ ?_
    refine sg35 _ ?_
    refine st36 _ ?_
    refine sg42 _ ?_
    refine st43 _ ?_
    refine sg49 _ ?_
    refine st50 _ ?_
    refine sg56 _ ?_
    refine st57 _ ?_
    show Steps p.tables e below (T57.setTop (mkF m 54 #[.val (.ref a), .val (.ref r1), .val (.ref r2), .val (.ref r3), .val (.ref r4)] [])) _
    exact X57.returnOut hx Bd.returns (hb hby d11_54) hr
  · show Q_rm11 Z a r1 r2 r3 r4 h0 n0 _ T57.heap _
    rw [e57]
    exact ⟨rfl, N57, K57, f58, f59, f60, f61, f62⟩
theorem d13_0 : decode prog_21_method_3_code 0 = .ok (.aload_n 1, 1) := by decide +kernel
theorem d13_1 : decode prog_21_method_3_code 1 = .ok (.ldc 56, 2) := by decide +kernel
theorem d13_3 : decode prog_21_method_3_code 3 = .ok (.invokestatic 58, 3) := by decide +kernel
theorem d13_6 : decode prog_21_method_3_code 6 = .ok (.pop, 1) := by decide +kernel
theorem d13_7 : decode prog_21_method_3_code 7 = .ok (.aload_n 1, 1) := by decide +kernel
theorem d13_8 : decode prog_21_method_3_code 8 = .ok (.invokevirtual 64, 3) := by decide +kernel
theorem pd_2 : parseMethodDescriptor "()Lcom/example/headroom/headroom/ResourceUsage;" = some ⟨[], some (.object "com/example/headroom/headroom/ResourceUsage")⟩ := by decide +kernel
theorem d13_11 : decode prog_21_method_3_code 11 = .ok (.aload_n 0, 1) := by decide +kernel
theorem d13_12 : decode prog_21_method_3_code 12 = .ok (.getfield 21, 3) := by decide +kernel
theorem d13_15 : decode prog_21_method_3_code 15 = .ok (.invokestatic 69, 3) := by decide +kernel
theorem pd_14 : parseMethodDescriptor "(Lcom/example/headroom/headroom/ResourceUsage;D)D" = some ⟨[(.object "com/example/headroom/headroom/ResourceUsage"), .double], some .double⟩ := by decide +kernel
theorem d13_18 : decode prog_21_method_3_code 18 = .ok (.dstore_n 2, 1) := by decide +kernel
theorem d13_19 : decode prog_21_method_3_code 19 = .ok (.aload_n 1, 1) := by decide +kernel
theorem d13_20 : decode prog_21_method_3_code 20 = .ok (.invokevirtual 73, 3) := by decide +kernel
theorem d13_23 : decode prog_21_method_3_code 23 = .ok (.aload_n 0, 1) := by decide +kernel
theorem d13_24 : decode prog_21_method_3_code 24 = .ok (.getfield 26, 3) := by decide +kernel
theorem d13_27 : decode prog_21_method_3_code 27 = .ok (.invokestatic 69, 3) := by decide +kernel
theorem d13_30 : decode prog_21_method_3_code 30 = .ok (.dstore 4, 2) := by decide +kernel
theorem d13_32 : decode prog_21_method_3_code 32 = .ok (.aload_n 1, 1) := by decide +kernel
theorem d13_33 : decode prog_21_method_3_code 33 = .ok (.invokevirtual 75, 3) := by decide +kernel
theorem d13_36 : decode prog_21_method_3_code 36 = .ok (.aload_n 0, 1) := by decide +kernel
theorem d13_37 : decode prog_21_method_3_code 37 = .ok (.getfield 28, 3) := by decide +kernel
theorem d13_40 : decode prog_21_method_3_code 40 = .ok (.invokestatic 69, 3) := by decide +kernel
theorem d13_43 : decode prog_21_method_3_code 43 = .ok (.dstore 6, 2) := by decide +kernel
theorem d13_45 : decode prog_21_method_3_code 45 = .ok (.aload_n 1, 1) := by decide +kernel
theorem d13_46 : decode prog_21_method_3_code 46 = .ok (.invokevirtual 77, 3) := by decide +kernel
theorem d13_49 : decode prog_21_method_3_code 49 = .ok (.aload_n 0, 1) := by decide +kernel
theorem d13_50 : decode prog_21_method_3_code 50 = .ok (.getfield 30, 3) := by decide +kernel
theorem d13_53 : decode prog_21_method_3_code 53 = .ok (.invokestatic 69, 3) := by decide +kernel
theorem d13_56 : decode prog_21_method_3_code 56 = .ok (.dstore 8, 2) := by decide +kernel
theorem d13_58 : decode prog_21_method_3_code 58 = .ok (.dload_n 2, 1) := by decide +kernel
theorem d13_59 : decode prog_21_method_3_code 59 = .ok (.dload 4, 2) := by decide +kernel
theorem d13_61 : decode prog_21_method_3_code 61 = .ok (.invokestatic 79, 3) := by decide +kernel
theorem pd_6 : parseMethodDescriptor "(DD)D" = some ⟨[.double, .double], some .double⟩ := by decide +kernel
theorem d13_64 : decode prog_21_method_3_code 64 = .ok (.dload 6, 2) := by decide +kernel
theorem d13_66 : decode prog_21_method_3_code 66 = .ok (.dload 8, 2) := by decide +kernel
theorem d13_68 : decode prog_21_method_3_code 68 = .ok (.invokestatic 79, 3) := by decide +kernel
theorem d13_71 : decode prog_21_method_3_code 71 = .ok (.invokestatic 79, 3) := by decide +kernel
theorem d13_74 : decode prog_21_method_3_code 74 = .ok (.dstore 10, 2) := by decide +kernel
theorem d13_76 : decode prog_21_method_3_code 76 = .ok (.ldc2_w 85, 3) := by decide +kernel
theorem d13_79 : decode prog_21_method_3_code 79 = .ok (.dload 10, 2) := by decide +kernel
theorem d13_81 : decode prog_21_method_3_code 81 = .ok (.dmul, 1) := by decide +kernel
theorem d13_82 : decode prog_21_method_3_code 82 = .ok (.dreturn, 1) := by decide +kernel
theorem pn_13 : plainName "com/example/headroom/headroom/ResourceWeights" = true := by first | (simp [plainName, overriddenIn]; done) | decide +kernel
theorem ef_rm13 (m : MethodId) (x0 : Addr) (x1 : Addr) : entryFrame m #[(.ref x0), (.ref x1)] 12 = mkF m 0 #[.val (.ref x0), .val (.ref x1), .unset, .unset, .unset, .unset, .unset, .unset, .unset, .unset, .unset, .unset] [] := by first | (simp [entryFrame, mkF, argsToLocals, Value.category]; done) | rfl
def Q_rm13 (Z : State) (a : Addr) (b : Addr) (u1 : UInt64) (v1 : UInt64) (z1 : UInt64) (u2 : UInt64) (v2 : UInt64) (z2 : UInt64) (u3 : UInt64) (v3 : UInt64) (z3 : UInt64) (u4 : UInt64) (v4 : UInt64) (z4 : UInt64) (r1 : Addr) (r2 : Addr) (r3 : Addr) (r4 : Addr) (h0 : Heap) (n0 : Nat) (rv : Option Value) (h : Heap) (L : List Loc) : Prop := rv = some (.double (FP.dmul (4636737291354636288 : UInt64) (own_pk (own_pk (own_sh u1 v1 z1) (own_sh u2 v2 z2)) (own_pk (own_sh u3 v3 z3) (own_sh u4 v4 z4))))) ∧ Fr n0 L ∧ Keep h0 h []
set_option maxRecDepth 65536 in
set_option maxHeartbeats 40000000 in
theorem rm13 (l : Launch) (Z : State) (a0 : Array Value) (hw : ∀ d ∈ tables_1, d.before a0 Z = true) (ws : List Jvm.Cond) (a : Addr) (b : Addr) (u1 : UInt64) (v1 : UInt64) (z1 : UInt64) (u2 : UInt64) (v2 : UInt64) (z2 : UInt64) (u3 : UInt64) (v3 : UInt64) (z3 : UInt64) (u4 : UInt64) (v4 : UInt64) (z4 : UInt64) (r1 : Addr) (r2 : Addr) (r3 : Addr) (r4 : Addr) (h0 : Heap) (n0 : Nat) (Z0 : n0 ≤ h0.size) (E_b : Exa Z h0 b "com/example/headroom/headroom/BrokerUsage") (F_cpu : Fld Z h0 a "com/example/headroom/headroom/ResourceWeights" "cpu" "D" (.double z1)) (F_directMemory : Fld Z h0 a "com/example/headroom/headroom/ResourceWeights" "directMemory" "D" (.double z2)) (F_bandwidthIn : Fld Z h0 a "com/example/headroom/headroom/ResourceWeights" "bandwidthIn" "D" (.double z3)) (F_bandwidthOut : Fld Z h0 a "com/example/headroom/headroom/ResourceWeights" "bandwidthOut" "D" (.double z4)) (B_cpu : Fld Z h0 b "com/example/headroom/headroom/BrokerUsage" "cpu" "Lcom/example/headroom/headroom/ResourceUsage;" (.ref r1)) (B_directMemory : Fld Z h0 b "com/example/headroom/headroom/BrokerUsage" "directMemory" "Lcom/example/headroom/headroom/ResourceUsage;" (.ref r2)) (B_bandwidthIn : Fld Z h0 b "com/example/headroom/headroom/BrokerUsage" "bandwidthIn" "Lcom/example/headroom/headroom/ResourceUsage;" (.ref r3)) (B_bandwidthOut : Fld Z h0 b "com/example/headroom/headroom/BrokerUsage" "bandwidthOut" "Lcom/example/headroom/headroom/ResourceUsage;" (.ref r4)) (E_r1 : Exa Z h0 r1 "com/example/headroom/headroom/ResourceUsage") (U_r1 : Fld Z h0 r1 "com/example/headroom/headroom/ResourceUsage" "usage" "D" (.double u1)) (L_r1 : Fld Z h0 r1 "com/example/headroom/headroom/ResourceUsage" "limit" "D" (.double v1)) (nna1 : ¬ ((cmpValue (FP.dcmp v1 (0 : UInt64)) .l) = (0 : Int32)) → Jvm.Free.Fl.NoNaN64 (FP.ddiv u1 v1)) (nnb1 : ¬ ((cmpValue (FP.dcmp z1 (0 : UInt64)) .l) = (0 : Int32)) → Jvm.Free.Fl.NoNaN64 (FP.dmul (own_fr u1 v1) z1)) (nn1 : Jvm.Free.Fl.NoNaN64 (own_sh u1 v1 z1)) (E_r2 : Exa Z h0 r2 "com/example/headroom/headroom/ResourceUsage") (U_r2 : Fld Z h0 r2 "com/example/headroom/headroom/ResourceUsage" "usage" "D" (.double u2)) (L_r2 : Fld Z h0 r2 "com/example/headroom/headroom/ResourceUsage" "limit" "D" (.double v2)) (nna2 : ¬ ((cmpValue (FP.dcmp v2 (0 : UInt64)) .l) = (0 : Int32)) → Jvm.Free.Fl.NoNaN64 (FP.ddiv u2 v2)) (nnb2 : ¬ ((cmpValue (FP.dcmp z2 (0 : UInt64)) .l) = (0 : Int32)) → Jvm.Free.Fl.NoNaN64 (FP.dmul (own_fr u2 v2) z2)) (nn2 : Jvm.Free.Fl.NoNaN64 (own_sh u2 v2 z2)) (E_r3 : Exa Z h0 r3 "com/example/headroom/headroom/ResourceUsage") (U_r3 : Fld Z h0 r3 "com/example/headroom/headroom/ResourceUsage" "usage" "D" (.double u3)) (L_r3 : Fld Z h0 r3 "com/example/headroom/headroom/ResourceUsage" "limit" "D" (.double v3)) (nna3 : ¬ ((cmpValue (FP.dcmp v3 (0 : UInt64)) .l) = (0 : Int32)) → Jvm.Free.Fl.NoNaN64 (FP.ddiv u3 v3)) (nnb3 : ¬ ((cmpValue (FP.dcmp z3 (0 : UInt64)) .l) = (0 : Int32)) → Jvm.Free.Fl.NoNaN64 (FP.dmul (own_fr u3 v3) z3)) (nn3 : Jvm.Free.Fl.NoNaN64 (own_sh u3 v3 z3)) (E_r4 : Exa Z h0 r4 "com/example/headroom/headroom/ResourceUsage") (U_r4 : Fld Z h0 r4 "com/example/headroom/headroom/ResourceUsage" "usage" "D" (.double u4)) (L_r4 : Fld Z h0 r4 "com/example/headroom/headroom/ResourceUsage" "limit" "D" (.double v4)) (nna4 : ¬ ((cmpValue (FP.dcmp v4 (0 : UInt64)) .l) = (0 : Int32)) → Jvm.Free.Fl.NoNaN64 (FP.ddiv u4 v4)) (nnb4 : ¬ ((cmpValue (FP.dcmp z4 (0 : UInt64)) .l) = (0 : Int32)) → Jvm.Free.Fl.NoNaN64 (FP.dmul (own_fr u4 v4) z4)) (nn4 : Jvm.Free.Fl.NoNaN64 (own_sh u4 v4 z4)) (nnm : Jvm.Free.Fl.NoNaN64 (FP.dmul (4636737291354636288 : UInt64) (own_pk (own_pk (own_sh u1 v1 z1) (own_sh u2 v2 z2)) (own_pk (own_sh u3 v3 z3) (own_sh u4 v4 z4))))) :
    MetFree l (⟨"com/example/headroom/headroom/ResourceWeights", "score", "(Lcom/example/headroom/headroom/BrokerUsage;)D"⟩ : MethodName) (head1 (Jvm.Cond.code (⟨"com/example/headroom/headroom/ResourceWeights", "score", "(Lcom/example/headroom/headroom/BrokerUsage;)D"⟩ : MethodName) prog_21_method_3_code 12 (some .double) :: ws) ({ frames := 2, cells := 2, slots := 28, locals := 26 } : Room)) (fun av U => av = #[(.ref a), (.ref b)] ∧ Z.Warmed39 U.vm ∧ U.heap = h0) (fun _ _ _ _ _ => True) (fun _ U o U' => ∃ rv L, o = .returned rv ∧ Q_rm13 Z a b u1 v1 z1 u2 v2 z2 u3 v3 z3 u4 v4 z4 r1 r2 r3 r4 h0 n0 rv U'.heap L ∧ ReturnedEndW U o U' L ({ frames := 2, cells := 2, slots := 28, locals := 26 } : Room).cells ({ frames := 2, cells := 2, slots := 28, locals := 26 } : Room).slots) := by
  refine MetFree.of_bodySF (plainFor_of_name pn_13) hisR ?_
  intro p e s m args below meth c s₁ Bd hml0 hP hK
  obtain ⟨rfl, hZ, hh⟩ := hP
  have hx := Bd.exec
  have hby := Bd.bytes
  have hml : c.maxLocals = 12 := hml0
  have hown : s.vm.findClass "com/example/headroom/headroom/ResourceWeights" = some m.cls := findClass_of_methodNamed Bd.named
  have hnm := (name_of_methodNamed Bd.named Bd.method).1
  have X0 : Stand p l e ({ frames := 2, cells := 2, slots := 28, locals := 26 } : Room) s m #[(.ref a), (.ref b)] below meth c s₁ [] 0 0 := Stand.of_body Bd
  have e0 : s₁.heap = h0 := by rw [← hh, Bd.state]; rfl
  have N0 := Fr.nil n0
  have pre0 : ∀ t, Steps p.tables e below (s₁.setTop (mkF m 0 #[.val (.ref a), .val (.ref b), .unset, .unset, .unset, .unset, .unset, .unset, .unset, .unset, .unset, .unset] [])) t → Steps p.tables e below (s₁.setTop (entryFrame m #[(.ref a), (.ref b)] 12)) t := fun t k => castTop (ef_rm13 m a b) k
  have hS0 : s.Since s.vm h0.size := State.WarmedH.since (State.WarmedH.refl s) _
  have sg1 : ∀ target, Steps p.tables e below (s₁.setTop (mkF m 1 #[.val (.ref a), .val (.ref b), .unset, .unset, .unset, .unset, .unset, .unset, .unset, .unset, .unset, .unset] [(.ref b)])) target → Steps p.tables e below (s₁.setTop (mkF m 0 #[.val (.ref a), .val (.ref b), .unset, .unset, .unset, .unset, .unset, .unset, .unset, .unset, .unset, .unset] [])) target := by
    intro target kt
    show Steps p.tables e below (s₁.setTop (mkF m 0 #[.val (.ref a), .val (.ref b), .unset, .unset, .unset, .unset, .unset, .unset, .unset, .unset, .unset, .unset] [])) _
    refine XS.aloadN X0.here hx rfl (hb hby d13_0) rfl rfl ?_
    exact kt
  obtain ⟨b2, T2, h2, k2, X2, e2, E2, hS2, hk2, hZ2, hown2, st2⟩ := ldcS (s := s) (vm0 := s.vm) X0 hx hZ (own := "com/example/headroom/headroom/ResourceWeights") hown (hw _ (List.mem_of_getElem? (i := 99) rfl)) (own_wS hw) e0 hS0 (Nat.le_refl h0.size) (g := (mkF m 1 #[.val (.ref a), .val (.ref b), .unset, .unset, .unset, .unset, .unset, .unset, .unset, .unset, .unset, .unset] [(.ref b)])) rfl (hb hby d13_1) (n := 24) (by decide) (by decide) (by decide) (by decide)
  have Zs2 : n0 ≤ h2.size := Nat.le_trans Z0 E2.1
  have K2 : Keep h0 h2 [] := (Keep.refl h0 []).ext E2
  have f3 : Exa Z h2 b "com/example/headroom/headroom/BrokerUsage" := E_b.ext E2
  have f4 : Fld Z h2 a "com/example/headroom/headroom/ResourceWeights" "cpu" "D" (.double z1) := F_cpu.ext E2
  have f5 : Fld Z h2 a "com/example/headroom/headroom/ResourceWeights" "directMemory" "D" (.double z2) := F_directMemory.ext E2
  have f6 : Fld Z h2 a "com/example/headroom/headroom/ResourceWeights" "bandwidthIn" "D" (.double z3) := F_bandwidthIn.ext E2
  have f7 : Fld Z h2 a "com/example/headroom/headroom/ResourceWeights" "bandwidthOut" "D" (.double z4) := F_bandwidthOut.ext E2
  have f8 : Fld Z h2 b "com/example/headroom/headroom/BrokerUsage" "cpu" "Lcom/example/headroom/headroom/ResourceUsage;" (.ref r1) := B_cpu.ext E2
  have f9 : Fld Z h2 b "com/example/headroom/headroom/BrokerUsage" "directMemory" "Lcom/example/headroom/headroom/ResourceUsage;" (.ref r2) := B_directMemory.ext E2
  have f10 : Fld Z h2 b "com/example/headroom/headroom/BrokerUsage" "bandwidthIn" "Lcom/example/headroom/headroom/ResourceUsage;" (.ref r3) := B_bandwidthIn.ext E2
  have f11 : Fld Z h2 b "com/example/headroom/headroom/BrokerUsage" "bandwidthOut" "Lcom/example/headroom/headroom/ResourceUsage;" (.ref r4) := B_bandwidthOut.ext E2
  have f12 : Exa Z h2 r1 "com/example/headroom/headroom/ResourceUsage" := E_r1.ext E2
  have f13 : Fld Z h2 r1 "com/example/headroom/headroom/ResourceUsage" "usage" "D" (.double u1) := U_r1.ext E2
  have f14 : Fld Z h2 r1 "com/example/headroom/headroom/ResourceUsage" "limit" "D" (.double v1) := L_r1.ext E2
  have f15 : Exa Z h2 r2 "com/example/headroom/headroom/ResourceUsage" := E_r2.ext E2
  have f16 : Fld Z h2 r2 "com/example/headroom/headroom/ResourceUsage" "usage" "D" (.double u2) := U_r2.ext E2
  have f17 : Fld Z h2 r2 "com/example/headroom/headroom/ResourceUsage" "limit" "D" (.double v2) := L_r2.ext E2
  have f18 : Exa Z h2 r3 "com/example/headroom/headroom/ResourceUsage" := E_r3.ext E2
  have f19 : Fld Z h2 r3 "com/example/headroom/headroom/ResourceUsage" "usage" "D" (.double u3) := U_r3.ext E2
  have f20 : Fld Z h2 r3 "com/example/headroom/headroom/ResourceUsage" "limit" "D" (.double v3) := L_r3.ext E2
  have f21 : Exa Z h2 r4 "com/example/headroom/headroom/ResourceUsage" := E_r4.ext E2
  have f22 : Fld Z h2 r4 "com/example/headroom/headroom/ResourceUsage" "usage" "D" (.double u4) := U_r4.ext E2
  have f23 : Fld Z h2 r4 "com/example/headroom/headroom/ResourceUsage" "limit" "D" (.double v4) := L_r4.ext E2
  obtain ⟨_, _, ⟨T24, L24, k24, n24⟩, -, X24, ⟨Lc24, hQ24, l24, y24, z24⟩, st24⟩ := Jvm.LawKit.callS X2 hx (y := (⟨"java/util/Objects", "requireNonNull", "(Ljava/lang/Object;Ljava/lang/String;)Ljava/lang/Object;"⟩ : MethodName)) hown2 (mvT hZ2 (hw _ (List.mem_of_getElem? (i := 100) rfl))) (mvT hZ2 (hw _ (List.mem_of_getElem? (i := 80) rfl))) (mvT hZ2 (hw _ (List.mem_of_getElem? (i := 81) rfl))) (mvT hZ2 (hw _ (List.mem_of_getElem? (i := 82) rfl))) (by decide) (backOf (W := 0) (rm12 l Z a0 hw [] b b2 h2 n0 Zs2 ) hZ2 (hw _ (List.mem_of_getElem? (i := 82) rfl)) (hw _ (List.mem_of_getElem? (i := 81) rfl)) (by decide) (by decide)) (g := (mkF m 3 #[.val (.ref a), .val (.ref b), .unset, .unset, .unset, .unset, .unset, .unset, .unset, .unset, .unset, .unset] [(.ref b2), (.ref b)])) rfl (by rw [hml]; rfl) (argsL := [(.ref b), (.ref b2)]) (rest := []) (lenOf pd_16 rfl) rfl (by show 2 * 0 + _ ≤ _; exact Nat.le_of_eq rfl) (hb hby d13_3) (fun _ _ => ⟨rfl, e2, (by decide : 2 + 0 ≤ _), (by decide : 28 + 0 ≤ _)⟩)
  dsimp only [Pt.U, Pt.locs, Pt.cells, Pt.slots] at X24 l24 y24 z24 st24 hQ24
  subst l24 y24 z24
  obtain ⟨rfl, N24q, c24_0⟩ := hQ24
  have N24 := Fr.app N0 N24q
  have sg25 : ∀ target, Steps p.tables e below (T24.setTop (mkF m 8 #[.val (.ref a), .val (.ref b), .unset, .unset, .unset, .unset, .unset, .unset, .unset, .unset, .unset, .unset] [(.ref b)])) target → Steps p.tables e below (T24.setTop (mkF m 6 #[.val (.ref a), .val (.ref b), .unset, .unset, .unset, .unset, .unset, .unset, .unset, .unset, .unset, .unset] [(.ref b)])) target := by
    intro target kt
    show Steps p.tables e below (T24.setTop (mkF m 6 #[.val (.ref a), .val (.ref b), .unset, .unset, .unset, .unset, .unset, .unset, .unset, .unset, .unset, .unset] [(.ref b)])) _
    refine XS.pop X24.here hx rfl (hb hby d13_6) rfl rfl ?_
    show Steps p.tables e below (T24.setTop (mkF m 7 #[.val (.ref a), .val (.ref b), .unset, .unset, .unset, .unset, .unset, .unset, .unset, .unset, .unset, .unset] [])) _
    refine XS.aloadN X24.here hx rfl (hb hby d13_7) rfl rfl ?_
    exact kt
  obtain ⟨cq26, kq26, q26a, q26b, q26c⟩ := isOf hZ2 c24_0 f3
  obtain ⟨_, _, ⟨T26, L26, k26, n26⟩, -, X26, ⟨Lc26, hQ26, l26, y26, z26⟩, st26⟩ := X24.virtualBack hx (y := (⟨"com/example/headroom/headroom/BrokerUsage", "cpu", "()Lcom/example/headroom/headroom/ResourceUsage;"⟩ : MethodName)) (z := (⟨"com/example/headroom/headroom/BrokerUsage", "cpu", "()Lcom/example/headroom/headroom/ResourceUsage;"⟩ : MethodName)) hown2 (mvT hZ2 (hw _ (List.mem_of_getElem? (i := 101) rfl))) (mvT hZ2 (hw _ (List.mem_of_getElem? (i := 102) rfl))) (notFace_of_selects (args := #[]) (mvT hZ2 (hw _ (List.mem_of_getElem? (i := 104) rfl)))) (mvT hZ2 (hw _ (List.mem_of_getElem? (i := 104) rfl))) (mvT hZ2 (hw _ (List.mem_of_getElem? (i := 103) rfl))) (by decide) (backOf (W := 0) (rm14 l Z a0 hw [] b r1 h2 n0 Zs2 f8) hZ2 (hw _ (List.mem_of_getElem? (i := 105) rfl)) (hw _ (List.mem_of_getElem? (i := 52) rfl)) (by decide) (by decide)) q26a q26c (g := (mkF m 8 #[.val (.ref a), .val (.ref b), .unset, .unset, .unset, .unset, .unset, .unset, .unset, .unset, .unset, .unset] [(.ref b)])) rfl (by rw [hml]; rfl) (Steps.refl _) (argsL := []) (rest := []) (lenOf pd_2 rfl) rfl (by show 2 * 0 + _ ≤ _; exact Nat.le_of_eq rfl) (hb hby d13_8) (fun _ _ => ⟨rfl, c24_0, (by decide : 2 + 0 ≤ _), (by decide : 28 + 0 ≤ _)⟩)
  dsimp only [Pt.U, Pt.locs, Pt.cells, Pt.slots] at X26 l26 y26 z26 st26 hQ26
  subst l26 y26 z26
  obtain ⟨rfl, N26q, c26_0⟩ := hQ26
  have N26 := Fr.app N24 N26q
  have sg27 : ∀ target, Steps p.tables e below (T26.setTop (mkF m 12 #[.val (.ref a), .val (.ref b), .unset, .unset, .unset, .unset, .unset, .unset, .unset, .unset, .unset, .unset] [(.ref a), (.ref r1)])) target → Steps p.tables e below (T26.setTop (mkF m 11 #[.val (.ref a), .val (.ref b), .unset, .unset, .unset, .unset, .unset, .unset, .unset, .unset, .unset, .unset] [(.ref r1)])) target := by
    intro target kt
    show Steps p.tables e below (T26.setTop (mkF m 11 #[.val (.ref a), .val (.ref b), .unset, .unset, .unset, .unset, .unset, .unset, .unset, .unset, .unset, .unset] [(.ref r1)])) _
    refine XS.aloadN X26.here hx rfl (hb hby d13_11) rfl rfl ?_
    exact kt
  obtain ⟨T28, X28, e28, st28⟩ := getF X26 hx hZ2 hown2 (host := "") (Or.inl (hw _ (List.mem_of_getElem? (i := 42) rfl))) Via.refl c26_0 f4 (g := (mkF m 12 #[.val (.ref a), .val (.ref b), .unset, .unset, .unset, .unset, .unset, .unset, .unset, .unset, .unset, .unset] [(.ref a), (.ref r1)])) rfl rfl (hb hby d13_12)
  obtain ⟨_, _, ⟨T29, L29, k29, n29⟩, -, X29, ⟨Lc29, hQ29, l29, y29, z29⟩, st29⟩ := Jvm.LawKit.callS X28 hx (y := (⟨"com/example/headroom/headroom/ResourceWeights", "share", "(Lcom/example/headroom/headroom/ResourceUsage;D)D"⟩ : MethodName)) hown2 (mvT hZ2 (hw _ (List.mem_of_getElem? (i := 106) rfl))) (mvT hZ2 (hw _ (List.mem_of_getElem? (i := 107) rfl))) (mvT hZ2 (hw _ (List.mem_of_getElem? (i := 2) rfl))) (mvT hZ2 (hw _ (List.mem_of_getElem? (i := 108) rfl))) (by decide) (backOf (W := 0) (rm15 l Z a0 hw [] r1 z1 u1 v1 h2 n0 Zs2 f12 f13 f14 nna1 nnb1) hZ2 (hw _ (List.mem_of_getElem? (i := 108) rfl)) (hw _ (List.mem_of_getElem? (i := 2) rfl)) (by decide) (by decide)) (g := (mkF m 15 #[.val (.ref a), .val (.ref b), .unset, .unset, .unset, .unset, .unset, .unset, .unset, .unset, .unset, .unset] [(.double z1), (.ref r1)])) rfl (by rw [hml]; rfl) (argsL := [(.ref r1), (.double z1)]) (rest := []) (lenOf pd_14 rfl) rfl (by show 2 * 0 + _ ≤ _; exact Nat.le_of_eq rfl) (hb hby d13_15) (fun _ _ => ⟨rfl, e28, (by decide : 2 + 0 ≤ _), (by decide : 28 + 0 ≤ _)⟩)
  dsimp only [Pt.U, Pt.locs, Pt.cells, Pt.slots] at X29 l29 y29 z29 st29 hQ29
  subst l29 y29 z29
  obtain ⟨rfl, N29q, c29_0⟩ := hQ29
  have N29 := Fr.app N26 N29q
  have sg30 : ∀ target, Steps p.tables e below (T29.setTop (mkF m 20 #[.val (.ref a), .val (.ref b), .val (.double (own_sh u1 v1 z1)), .second, .unset, .unset, .unset, .unset, .unset, .unset, .unset, .unset] [(.ref b)])) target → Steps p.tables e below (T29.setTop (mkF m 18 #[.val (.ref a), .val (.ref b), .unset, .unset, .unset, .unset, .unset, .unset, .unset, .unset, .unset, .unset] [(.double (own_sh u1 v1 z1))])) target := by
    intro target kt
    show Steps p.tables e below (T29.setTop (mkF m 18 #[.val (.ref a), .val (.ref b), .unset, .unset, .unset, .unset, .unset, .unset, .unset, .unset, .unset, .unset] [(.double (own_sh u1 v1 z1))])) _
    refine XS.dstoreN X29.here hx rfl (hb hby d13_18) rfl (l' := #[.val (.ref a), .val (.ref b), .val (.double (own_sh u1 v1 z1)), .second, .unset, .unset, .unset, .unset, .unset, .unset, .unset, .unset]) rfl ?_
    show Steps p.tables e below (T29.setTop (mkF m 19 #[.val (.ref a), .val (.ref b), .val (.double (own_sh u1 v1 z1)), .second, .unset, .unset, .unset, .unset, .unset, .unset, .unset, .unset] [])) _
    refine XS.aloadN X29.here hx rfl (hb hby d13_19) rfl rfl ?_
    exact kt
  obtain ⟨cq31, kq31, q31a, q31b, q31c⟩ := isOf hZ2 c29_0 f3
  obtain ⟨_, _, ⟨T31, L31, k31, n31⟩, -, X31, ⟨Lc31, hQ31, l31, y31, z31⟩, st31⟩ := X29.virtualBack hx (y := (⟨"com/example/headroom/headroom/BrokerUsage", "directMemory", "()Lcom/example/headroom/headroom/ResourceUsage;"⟩ : MethodName)) (z := (⟨"com/example/headroom/headroom/BrokerUsage", "directMemory", "()Lcom/example/headroom/headroom/ResourceUsage;"⟩ : MethodName)) hown2 (mvT hZ2 (hw _ (List.mem_of_getElem? (i := 109) rfl))) (mvT hZ2 (hw _ (List.mem_of_getElem? (i := 110) rfl))) (notFace_of_selects (args := #[]) (mvT hZ2 (hw _ (List.mem_of_getElem? (i := 112) rfl)))) (mvT hZ2 (hw _ (List.mem_of_getElem? (i := 112) rfl))) (mvT hZ2 (hw _ (List.mem_of_getElem? (i := 111) rfl))) (by decide) (backOf (W := 0) (rm16 l Z a0 hw [] b r2 h2 n0 Zs2 f9) hZ2 (hw _ (List.mem_of_getElem? (i := 113) rfl)) (hw _ (List.mem_of_getElem? (i := 52) rfl)) (by decide) (by decide)) q31a q31c (g := (mkF m 20 #[.val (.ref a), .val (.ref b), .val (.double (own_sh u1 v1 z1)), .second, .unset, .unset, .unset, .unset, .unset, .unset, .unset, .unset] [(.ref b)])) rfl (by rw [hml]; rfl) (Steps.refl _) (argsL := []) (rest := []) (lenOf pd_2 rfl) rfl (by show 2 * 0 + _ ≤ _; exact Nat.le_of_eq rfl) (hb hby d13_20) (fun _ _ => ⟨rfl, c29_0, (by decide : 2 + 0 ≤ _), (by decide : 28 + 0 ≤ _)⟩)
  dsimp only [Pt.U, Pt.locs, Pt.cells, Pt.slots] at X31 l31 y31 z31 st31 hQ31
  subst l31 y31 z31
  obtain ⟨rfl, N31q, c31_0⟩ := hQ31
  have N31 := Fr.app N29 N31q
  have sg32 : ∀ target, Steps p.tables e below (T31.setTop (mkF m 24 #[.val (.ref a), .val (.ref b), .val (.double (own_sh u1 v1 z1)), .second, .unset, .unset, .unset, .unset, .unset, .unset, .unset, .unset] [(.ref a), (.ref r2)])) target → Steps p.tables e below (T31.setTop (mkF m 23 #[.val (.ref a), .val (.ref b), .val (.double (own_sh u1 v1 z1)), .second, .unset, .unset, .unset, .unset, .unset, .unset, .unset, .unset] [(.ref r2)])) target := by
    intro target kt
    show Steps p.tables e below (T31.setTop (mkF m 23 #[.val (.ref a), .val (.ref b), .val (.double (own_sh u1 v1 z1)), .second, .unset, .unset, .unset, .unset, .unset, .unset, .unset, .unset] [(.ref r2)])) _
    refine XS.aloadN X31.here hx rfl (hb hby d13_23) rfl rfl ?_
    exact kt
  obtain ⟨T33, X33, e33, st33⟩ := getF X31 hx hZ2 hown2 (host := "") (Or.inl (hw _ (List.mem_of_getElem? (i := 44) rfl))) Via.refl c31_0 f5 (g := (mkF m 24 #[.val (.ref a), .val (.ref b), .val (.double (own_sh u1 v1 z1)), .second, .unset, .unset, .unset, .unset, .unset, .unset, .unset, .unset] [(.ref a), (.ref r2)])) rfl rfl (hb hby d13_24)
  obtain ⟨_, _, ⟨T34, L34, k34, n34⟩, -, X34, ⟨Lc34, hQ34, l34, y34, z34⟩, st34⟩ := Jvm.LawKit.callS X33 hx (y := (⟨"com/example/headroom/headroom/ResourceWeights", "share", "(Lcom/example/headroom/headroom/ResourceUsage;D)D"⟩ : MethodName)) hown2 (mvT hZ2 (hw _ (List.mem_of_getElem? (i := 106) rfl))) (mvT hZ2 (hw _ (List.mem_of_getElem? (i := 107) rfl))) (mvT hZ2 (hw _ (List.mem_of_getElem? (i := 2) rfl))) (mvT hZ2 (hw _ (List.mem_of_getElem? (i := 108) rfl))) (by decide) (backOf (W := 0) (rm15 l Z a0 hw [] r2 z2 u2 v2 h2 n0 Zs2 f15 f16 f17 nna2 nnb2) hZ2 (hw _ (List.mem_of_getElem? (i := 108) rfl)) (hw _ (List.mem_of_getElem? (i := 2) rfl)) (by decide) (by decide)) (g := (mkF m 27 #[.val (.ref a), .val (.ref b), .val (.double (own_sh u1 v1 z1)), .second, .unset, .unset, .unset, .unset, .unset, .unset, .unset, .unset] [(.double z2), (.ref r2)])) rfl (by rw [hml]; rfl) (argsL := [(.ref r2), (.double z2)]) (rest := []) (lenOf pd_14 rfl) rfl (by show 2 * 0 + _ ≤ _; exact Nat.le_of_eq rfl) (hb hby d13_27) (fun _ _ => ⟨rfl, e33, (by decide : 2 + 0 ≤ _), (by decide : 28 + 0 ≤ _)⟩)
  dsimp only [Pt.U, Pt.locs, Pt.cells, Pt.slots] at X34 l34 y34 z34 st34 hQ34
  subst l34 y34 z34
  obtain ⟨rfl, N34q, c34_0⟩ := hQ34
  have N34 := Fr.app N31 N34q
  have sg35 : ∀ target, Steps p.tables e below (T34.setTop (mkF m 33 #[.val (.ref a), .val (.ref b), .val (.double (own_sh u1 v1 z1)), .second, .val (.double (own_sh u2 v2 z2)), .second, .unset, .unset, .unset, .unset, .unset, .unset] [(.ref b)])) target → Steps p.tables e below (T34.setTop (mkF m 30 #[.val (.ref a), .val (.ref b), .val (.double (own_sh u1 v1 z1)), .second, .unset, .unset, .unset, .unset, .unset, .unset, .unset, .unset] [(.double (own_sh u2 v2 z2))])) target := by
    intro target kt
    show Steps p.tables e below (T34.setTop (mkF m 30 #[.val (.ref a), .val (.ref b), .val (.double (own_sh u1 v1 z1)), .second, .unset, .unset, .unset, .unset, .unset, .unset, .unset, .unset] [(.double (own_sh u2 v2 z2))])) _
    refine XS.dstore X34.here hx rfl (hb hby d13_30) rfl (l' := #[.val (.ref a), .val (.ref b), .val (.double (own_sh u1 v1 z1)), .second, .val (.double (own_sh u2 v2 z2)), .second, .unset, .unset, .unset, .unset, .unset, .unset]) rfl ?_
    show Steps p.tables e below (T34.setTop (mkF m 32 #[.val (.ref a), .val (.ref b), .val (.double (own_sh u1 v1 z1)), .second, .val (.double (own_sh u2 v2 z2)), .second, .unset, .unset, .unset, .unset, .unset, .unset] [])) _
    refine XS.aloadN X34.here hx rfl (hb hby d13_32) rfl rfl ?_
    exact kt
  obtain ⟨cq36, kq36, q36a, q36b, q36c⟩ := isOf hZ2 c34_0 f3
  obtain ⟨_, _, ⟨T36, L36, k36, n36⟩, -, X36, ⟨Lc36, hQ36, l36, y36, z36⟩, st36⟩ := X34.virtualBack hx (y := (⟨"com/example/headroom/headroom/BrokerUsage", "bandwidthIn", "()Lcom/example/headroom/headroom/ResourceUsage;"⟩ : MethodName)) (z := (⟨"com/example/headroom/headroom/BrokerUsage", "bandwidthIn", "()Lcom/example/headroom/headroom/ResourceUsage;"⟩ : MethodName)) hown2 (mvT hZ2 (hw _ (List.mem_of_getElem? (i := 114) rfl))) (mvT hZ2 (hw _ (List.mem_of_getElem? (i := 115) rfl))) (notFace_of_selects (args := #[]) (mvT hZ2 (hw _ (List.mem_of_getElem? (i := 117) rfl)))) (mvT hZ2 (hw _ (List.mem_of_getElem? (i := 117) rfl))) (mvT hZ2 (hw _ (List.mem_of_getElem? (i := 116) rfl))) (by decide) (backOf (W := 0) (rm17 l Z a0 hw [] b r3 h2 n0 Zs2 f10) hZ2 (hw _ (List.mem_of_getElem? (i := 118) rfl)) (hw _ (List.mem_of_getElem? (i := 52) rfl)) (by decide) (by decide)) q36a q36c (g := (mkF m 33 #[.val (.ref a), .val (.ref b), .val (.double (own_sh u1 v1 z1)), .second, .val (.double (own_sh u2 v2 z2)), .second, .unset, .unset, .unset, .unset, .unset, .unset] [(.ref b)])) rfl (by rw [hml]; rfl) (Steps.refl _) (argsL := []) (rest := []) (lenOf pd_2 rfl) rfl (by show 2 * 0 + _ ≤ _; exact Nat.le_of_eq rfl) (hb hby d13_33) (fun _ _ => ⟨rfl, c34_0, (by decide : 2 + 0 ≤ _), (by decide : 28 + 0 ≤ _)⟩)
  dsimp only [Pt.U, Pt.locs, Pt.cells, Pt.slots] at X36 l36 y36 z36 st36 hQ36
  subst l36 y36 z36
  obtain ⟨rfl, N36q, c36_0⟩ := hQ36
  have N36 := Fr.app N34 N36q
  have sg37 : ∀ target, Steps p.tables e below (T36.setTop (mkF m 37 #[.val (.ref a), .val (.ref b), .val (.double (own_sh u1 v1 z1)), .second, .val (.double (own_sh u2 v2 z2)), .second, .unset, .unset, .unset, .unset, .unset, .unset] [(.ref a), (.ref r3)])) target → Steps p.tables e below (T36.setTop (mkF m 36 #[.val (.ref a), .val (.ref b), .val (.double (own_sh u1 v1 z1)), .second, .val (.double (own_sh u2 v2 z2)), .second, .unset, .unset, .unset, .unset, .unset, .unset] [(.ref r3)])) target := by
    intro target kt
    show Steps p.tables e below (T36.setTop (mkF m 36 #[.val (.ref a), .val (.ref b), .val (.double (own_sh u1 v1 z1)), .second, .val (.double (own_sh u2 v2 z2)), .second, .unset, .unset, .unset, .unset, .unset, .unset] [(.ref r3)])) _
    refine XS.aloadN X36.here hx rfl (hb hby d13_36) rfl rfl ?_
    exact kt
  obtain ⟨T38, X38, e38, st38⟩ := getF X36 hx hZ2 hown2 (host := "") (Or.inl (hw _ (List.mem_of_getElem? (i := 46) rfl))) Via.refl c36_0 f6 (g := (mkF m 37 #[.val (.ref a), .val (.ref b), .val (.double (own_sh u1 v1 z1)), .second, .val (.double (own_sh u2 v2 z2)), .second, .unset, .unset, .unset, .unset, .unset, .unset] [(.ref a), (.ref r3)])) rfl rfl (hb hby d13_37)
  obtain ⟨_, _, ⟨T39, L39, k39, n39⟩, -, X39, ⟨Lc39, hQ39, l39, y39, z39⟩, st39⟩ := Jvm.LawKit.callS X38 hx (y := (⟨"com/example/headroom/headroom/ResourceWeights", "share", "(Lcom/example/headroom/headroom/ResourceUsage;D)D"⟩ : MethodName)) hown2 (mvT hZ2 (hw _ (List.mem_of_getElem? (i := 106) rfl))) (mvT hZ2 (hw _ (List.mem_of_getElem? (i := 107) rfl))) (mvT hZ2 (hw _ (List.mem_of_getElem? (i := 2) rfl))) (mvT hZ2 (hw _ (List.mem_of_getElem? (i := 108) rfl))) (by decide) (backOf (W := 0) (rm15 l Z a0 hw [] r3 z3 u3 v3 h2 n0 Zs2 f18 f19 f20 nna3 nnb3) hZ2 (hw _ (List.mem_of_getElem? (i := 108) rfl)) (hw _ (List.mem_of_getElem? (i := 2) rfl)) (by decide) (by decide)) (g := (mkF m 40 #[.val (.ref a), .val (.ref b), .val (.double (own_sh u1 v1 z1)), .second, .val (.double (own_sh u2 v2 z2)), .second, .unset, .unset, .unset, .unset, .unset, .unset] [(.double z3), (.ref r3)])) rfl (by rw [hml]; rfl) (argsL := [(.ref r3), (.double z3)]) (rest := []) (lenOf pd_14 rfl) rfl (by show 2 * 0 + _ ≤ _; exact Nat.le_of_eq rfl) (hb hby d13_40) (fun _ _ => ⟨rfl, e38, (by decide : 2 + 0 ≤ _), (by decide : 28 + 0 ≤ _)⟩)
  dsimp only [Pt.U, Pt.locs, Pt.cells, Pt.slots] at X39 l39 y39 z39 st39 hQ39
  subst l39 y39 z39
  obtain ⟨rfl, N39q, c39_0⟩ := hQ39
  have N39 := Fr.app N36 N39q
  have sg40 : ∀ target, Steps p.tables e below (T39.setTop (mkF m 46 #[.val (.ref a), .val (.ref b), .val (.double (own_sh u1 v1 z1)), .second, .val (.double (own_sh u2 v2 z2)), .second, .val (.double (own_sh u3 v3 z3)), .second, .unset, .unset, .unset, .unset] [(.ref b)])) target → Steps p.tables e below (T39.setTop (mkF m 43 #[.val (.ref a), .val (.ref b), .val (.double (own_sh u1 v1 z1)), .second, .val (.double (own_sh u2 v2 z2)), .second, .unset, .unset, .unset, .unset, .unset, .unset] [(.double (own_sh u3 v3 z3))])) target := by
    intro target kt
    show Steps p.tables e below (T39.setTop (mkF m 43 #[.val (.ref a), .val (.ref b), .val (.double (own_sh u1 v1 z1)), .second, .val (.double (own_sh u2 v2 z2)), .second, .unset, .unset, .unset, .unset, .unset, .unset] [(.double (own_sh u3 v3 z3))])) _
    refine XS.dstore X39.here hx rfl (hb hby d13_43) rfl (l' := #[.val (.ref a), .val (.ref b), .val (.double (own_sh u1 v1 z1)), .second, .val (.double (own_sh u2 v2 z2)), .second, .val (.double (own_sh u3 v3 z3)), .second, .unset, .unset, .unset, .unset]) rfl ?_
    show Steps p.tables e below (T39.setTop (mkF m 45 #[.val (.ref a), .val (.ref b), .val (.double (own_sh u1 v1 z1)), .second, .val (.double (own_sh u2 v2 z2)), .second, .val (.double (own_sh u3 v3 z3)), .second, .unset, .unset, .unset, .unset] [])) _
    refine XS.aloadN X39.here hx rfl (hb hby d13_45) rfl rfl ?_
    exact kt
  obtain ⟨cq41, kq41, q41a, q41b, q41c⟩ := isOf hZ2 c39_0 f3
  obtain ⟨_, _, ⟨T41, L41, k41, n41⟩, -, X41, ⟨Lc41, hQ41, l41, y41, z41⟩, st41⟩ := X39.virtualBack hx (y := (⟨"com/example/headroom/headroom/BrokerUsage", "bandwidthOut", "()Lcom/example/headroom/headroom/ResourceUsage;"⟩ : MethodName)) (z := (⟨"com/example/headroom/headroom/BrokerUsage", "bandwidthOut", "()Lcom/example/headroom/headroom/ResourceUsage;"⟩ : MethodName)) hown2 (mvT hZ2 (hw _ (List.mem_of_getElem? (i := 119) rfl))) (mvT hZ2 (hw _ (List.mem_of_getElem? (i := 120) rfl))) (notFace_of_selects (args := #[]) (mvT hZ2 (hw _ (List.mem_of_getElem? (i := 122) rfl)))) (mvT hZ2 (hw _ (List.mem_of_getElem? (i := 122) rfl))) (mvT hZ2 (hw _ (List.mem_of_getElem? (i := 121) rfl))) (by decide) (backOf (W := 0) (rm18 l Z a0 hw [] b r4 h2 n0 Zs2 f11) hZ2 (hw _ (List.mem_of_getElem? (i := 123) rfl)) (hw _ (List.mem_of_getElem? (i := 52) rfl)) (by decide) (by decide)) q41a q41c (g := (mkF m 46 #[.val (.ref a), .val (.ref b), .val (.double (own_sh u1 v1 z1)), .second, .val (.double (own_sh u2 v2 z2)), .second, .val (.double (own_sh u3 v3 z3)), .second, .unset, .unset, .unset, .unset] [(.ref b)])) rfl (by rw [hml]; rfl) (Steps.refl _) (argsL := []) (rest := []) (lenOf pd_2 rfl) rfl (by show 2 * 0 + _ ≤ _; exact Nat.le_of_eq rfl) (hb hby d13_46) (fun _ _ => ⟨rfl, c39_0, (by decide : 2 + 0 ≤ _), (by decide : 28 + 0 ≤ _)⟩)
  dsimp only [Pt.U, Pt.locs, Pt.cells, Pt.slots] at X41 l41 y41 z41 st41 hQ41
  subst l41 y41 z41
  obtain ⟨rfl, N41q, c41_0⟩ := hQ41
  have N41 := Fr.app N39 N41q
  have sg42 : ∀ target, Steps p.tables e below (T41.setTop (mkF m 50 #[.val (.ref a), .val (.ref b), .val (.double (own_sh u1 v1 z1)), .second, .val (.double (own_sh u2 v2 z2)), .second, .val (.double (own_sh u3 v3 z3)), .second, .unset, .unset, .unset, .unset] [(.ref a), (.ref r4)])) target → Steps p.tables e below (T41.setTop (mkF m 49 #[.val (.ref a), .val (.ref b), .val (.double (own_sh u1 v1 z1)), .second, .val (.double (own_sh u2 v2 z2)), .second, .val (.double (own_sh u3 v3 z3)), .second, .unset, .unset, .unset, .unset] [(.ref r4)])) target := by
    intro target kt
    show Steps p.tables e below (T41.setTop (mkF m 49 #[.val (.ref a), .val (.ref b), .val (.double (own_sh u1 v1 z1)), .second, .val (.double (own_sh u2 v2 z2)), .second, .val (.double (own_sh u3 v3 z3)), .second, .unset, .unset, .unset, .unset] [(.ref r4)])) _
    refine XS.aloadN X41.here hx rfl (hb hby d13_49) rfl rfl ?_
    exact kt
  obtain ⟨T43, X43, e43, st43⟩ := getF X41 hx hZ2 hown2 (host := "") (Or.inl (hw _ (List.mem_of_getElem? (i := 48) rfl))) Via.refl c41_0 f7 (g := (mkF m 50 #[.val (.ref a), .val (.ref b), .val (.double (own_sh u1 v1 z1)), .second, .val (.double (own_sh u2 v2 z2)), .second, .val (.double (own_sh u3 v3 z3)), .second, .unset, .unset, .unset, .unset] [(.ref a), (.ref r4)])) rfl rfl (hb hby d13_50)
  obtain ⟨_, _, ⟨T44, L44, k44, n44⟩, -, X44, ⟨Lc44, hQ44, l44, y44, z44⟩, st44⟩ := Jvm.LawKit.callS X43 hx (y := (⟨"com/example/headroom/headroom/ResourceWeights", "share", "(Lcom/example/headroom/headroom/ResourceUsage;D)D"⟩ : MethodName)) hown2 (mvT hZ2 (hw _ (List.mem_of_getElem? (i := 106) rfl))) (mvT hZ2 (hw _ (List.mem_of_getElem? (i := 107) rfl))) (mvT hZ2 (hw _ (List.mem_of_getElem? (i := 2) rfl))) (mvT hZ2 (hw _ (List.mem_of_getElem? (i := 108) rfl))) (by decide) (backOf (W := 0) (rm15 l Z a0 hw [] r4 z4 u4 v4 h2 n0 Zs2 f21 f22 f23 nna4 nnb4) hZ2 (hw _ (List.mem_of_getElem? (i := 108) rfl)) (hw _ (List.mem_of_getElem? (i := 2) rfl)) (by decide) (by decide)) (g := (mkF m 53 #[.val (.ref a), .val (.ref b), .val (.double (own_sh u1 v1 z1)), .second, .val (.double (own_sh u2 v2 z2)), .second, .val (.double (own_sh u3 v3 z3)), .second, .unset, .unset, .unset, .unset] [(.double z4), (.ref r4)])) rfl (by rw [hml]; rfl) (argsL := [(.ref r4), (.double z4)]) (rest := []) (lenOf pd_14 rfl) rfl (by show 2 * 0 + _ ≤ _; exact Nat.le_of_eq rfl) (hb hby d13_53) (fun _ _ => ⟨rfl, e43, (by decide : 2 + 0 ≤ _), (by decide : 28 + 0 ≤ _)⟩)
  dsimp only [Pt.U, Pt.locs, Pt.cells, Pt.slots] at X44 l44 y44 z44 st44 hQ44
  subst l44 y44 z44
  obtain ⟨rfl, N44q, c44_0⟩ := hQ44
  have N44 := Fr.app N41 N44q
  have sg45 : ∀ target, Steps p.tables e below (T44.setTop (mkF m 61 #[.val (.ref a), .val (.ref b), .val (.double (own_sh u1 v1 z1)), .second, .val (.double (own_sh u2 v2 z2)), .second, .val (.double (own_sh u3 v3 z3)), .second, .val (.double (own_sh u4 v4 z4)), .second, .unset, .unset] [(.double (own_sh u2 v2 z2)), (.double (own_sh u1 v1 z1))])) target → Steps p.tables e below (T44.setTop (mkF m 56 #[.val (.ref a), .val (.ref b), .val (.double (own_sh u1 v1 z1)), .second, .val (.double (own_sh u2 v2 z2)), .second, .val (.double (own_sh u3 v3 z3)), .second, .unset, .unset, .unset, .unset] [(.double (own_sh u4 v4 z4))])) target := by
    intro target kt
    show Steps p.tables e below (T44.setTop (mkF m 56 #[.val (.ref a), .val (.ref b), .val (.double (own_sh u1 v1 z1)), .second, .val (.double (own_sh u2 v2 z2)), .second, .val (.double (own_sh u3 v3 z3)), .second, .unset, .unset, .unset, .unset] [(.double (own_sh u4 v4 z4))])) _
    refine XS.dstore X44.here hx rfl (hb hby d13_56) rfl (l' := #[.val (.ref a), .val (.ref b), .val (.double (own_sh u1 v1 z1)), .second, .val (.double (own_sh u2 v2 z2)), .second, .val (.double (own_sh u3 v3 z3)), .second, .val (.double (own_sh u4 v4 z4)), .second, .unset, .unset]) rfl ?_
    show Steps p.tables e below (T44.setTop (mkF m 58 #[.val (.ref a), .val (.ref b), .val (.double (own_sh u1 v1 z1)), .second, .val (.double (own_sh u2 v2 z2)), .second, .val (.double (own_sh u3 v3 z3)), .second, .val (.double (own_sh u4 v4 z4)), .second, .unset, .unset] [])) _
    refine XS.dloadN X44.here hx rfl (hb hby d13_58) rfl ?_
    show Steps p.tables e below (T44.setTop (mkF m 59 #[.val (.ref a), .val (.ref b), .val (.double (own_sh u1 v1 z1)), .second, .val (.double (own_sh u2 v2 z2)), .second, .val (.double (own_sh u3 v3 z3)), .second, .val (.double (own_sh u4 v4 z4)), .second, .unset, .unset] [(.double (own_sh u1 v1 z1))])) _
    refine XS.dload X44.here hx rfl (hb hby d13_59) rfl ?_
    exact kt
  obtain ⟨T46, X46, e46, st46⟩ := natS X44 hx hZ2 hown2 (hw _ (List.mem_of_getElem? (i := 124) rfl)) (hw _ (List.mem_of_getElem? (i := 125) rfl)) (hw _ (List.mem_of_getElem? (i := 36) rfl)) (hw _ (List.mem_of_getElem? (i := 126) rfl)) (by decide) c44_0 (W := 0) (F := fun a' => a' = #[.double (own_sh u1 v1 z1), .double (own_sh u2 v2 z2)] ∧ Jvm.Free.Fl.NoNaN64 (own_sh u1 v1 z1) ∧ Jvm.Free.Fl.NoNaN64 (own_sh u2 v2 z2)) (fun hc => Jvm.Free.Fl.Abs.maxD_pays (own_sh u1 v1 z1) (own_sh u2 v2 z2) hc (by decide) (by decide)) (g := (mkF m 61 #[.val (.ref a), .val (.ref b), .val (.double (own_sh u1 v1 z1)), .second, .val (.double (own_sh u2 v2 z2)), .second, .val (.double (own_sh u3 v3 z3)), .second, .val (.double (own_sh u4 v4 z4)), .second, .unset, .unset] [(.double (own_sh u2 v2 z2)), (.double (own_sh u1 v1 z1))])) rfl (by rw [hml]; rfl) (argsL := [(.double (own_sh u1 v1 z1)), (.double (own_sh u2 v2 z2))]) (rest := []) (lenOf pd_6 rfl) rfl (by show 2 * 0 + _ ≤ _; exact Nat.le_of_eq rfl) (hb hby d13_61) (by decide) (by decide) ⟨rfl, nn1, nn2⟩ rfl
  have sg47 : ∀ target, Steps p.tables e below (T46.setTop (mkF m 68 #[.val (.ref a), .val (.ref b), .val (.double (own_sh u1 v1 z1)), .second, .val (.double (own_sh u2 v2 z2)), .second, .val (.double (own_sh u3 v3 z3)), .second, .val (.double (own_sh u4 v4 z4)), .second, .unset, .unset] [(.double (own_sh u4 v4 z4)), (.double (own_sh u3 v3 z3)), (.double (own_pk (own_sh u1 v1 z1) (own_sh u2 v2 z2)))])) target → Steps p.tables e below (T46.setTop (mkF m 64 #[.val (.ref a), .val (.ref b), .val (.double (own_sh u1 v1 z1)), .second, .val (.double (own_sh u2 v2 z2)), .second, .val (.double (own_sh u3 v3 z3)), .second, .val (.double (own_sh u4 v4 z4)), .second, .unset, .unset] [(.double (own_pk (own_sh u1 v1 z1) (own_sh u2 v2 z2)))])) target := by
    intro target kt
    show Steps p.tables e below (T46.setTop (mkF m 64 #[.val (.ref a), .val (.ref b), .val (.double (own_sh u1 v1 z1)), .second, .val (.double (own_sh u2 v2 z2)), .second, .val (.double (own_sh u3 v3 z3)), .second, .val (.double (own_sh u4 v4 z4)), .second, .unset, .unset] [(.double (own_pk (own_sh u1 v1 z1) (own_sh u2 v2 z2)))])) _
    refine XS.dload X46.here hx rfl (hb hby d13_64) rfl ?_
    show Steps p.tables e below (T46.setTop (mkF m 66 #[.val (.ref a), .val (.ref b), .val (.double (own_sh u1 v1 z1)), .second, .val (.double (own_sh u2 v2 z2)), .second, .val (.double (own_sh u3 v3 z3)), .second, .val (.double (own_sh u4 v4 z4)), .second, .unset, .unset] [(.double (own_sh u3 v3 z3)), (.double (own_pk (own_sh u1 v1 z1) (own_sh u2 v2 z2)))])) _
    refine XS.dload X46.here hx rfl (hb hby d13_66) rfl ?_
    exact kt
  obtain ⟨T48, X48, e48, st48⟩ := natS X46 hx hZ2 hown2 (hw _ (List.mem_of_getElem? (i := 124) rfl)) (hw _ (List.mem_of_getElem? (i := 125) rfl)) (hw _ (List.mem_of_getElem? (i := 36) rfl)) (hw _ (List.mem_of_getElem? (i := 126) rfl)) (by decide) e46 (W := 2) (F := fun a' => a' = #[.double (own_sh u3 v3 z3), .double (own_sh u4 v4 z4)] ∧ Jvm.Free.Fl.NoNaN64 (own_sh u3 v3 z3) ∧ Jvm.Free.Fl.NoNaN64 (own_sh u4 v4 z4)) (fun hc => Jvm.Free.Fl.Abs.maxD_pays (own_sh u3 v3 z3) (own_sh u4 v4 z4) hc (by decide) (by decide)) (g := (mkF m 68 #[.val (.ref a), .val (.ref b), .val (.double (own_sh u1 v1 z1)), .second, .val (.double (own_sh u2 v2 z2)), .second, .val (.double (own_sh u3 v3 z3)), .second, .val (.double (own_sh u4 v4 z4)), .second, .unset, .unset] [(.double (own_sh u4 v4 z4)), (.double (own_sh u3 v3 z3)), (.double (own_pk (own_sh u1 v1 z1) (own_sh u2 v2 z2)))])) rfl (by rw [hml]; rfl) (argsL := [(.double (own_sh u3 v3 z3)), (.double (own_sh u4 v4 z4))]) (rest := [(.double (own_pk (own_sh u1 v1 z1) (own_sh u2 v2 z2)))]) (lenOf pd_6 rfl) rfl (by show 2 * 0 + _ ≤ _; exact Nat.le_of_eq rfl) (hb hby d13_68) (by decide) (by decide) ⟨rfl, nn3, nn4⟩ rfl
  obtain ⟨T49, X49, e49, st49⟩ := natS X48 hx hZ2 hown2 (hw _ (List.mem_of_getElem? (i := 124) rfl)) (hw _ (List.mem_of_getElem? (i := 125) rfl)) (hw _ (List.mem_of_getElem? (i := 36) rfl)) (hw _ (List.mem_of_getElem? (i := 126) rfl)) (by decide) e48 (W := 0) (F := fun a' => a' = #[.double (own_pk (own_sh u1 v1 z1) (own_sh u2 v2 z2)), .double (own_pk (own_sh u3 v3 z3) (own_sh u4 v4 z4))] ∧ Jvm.Free.Fl.NoNaN64 (own_pk (own_sh u1 v1 z1) (own_sh u2 v2 z2)) ∧ Jvm.Free.Fl.NoNaN64 (own_pk (own_sh u3 v3 z3) (own_sh u4 v4 z4))) (fun hc => Jvm.Free.Fl.Abs.maxD_pays (own_pk (own_sh u1 v1 z1) (own_sh u2 v2 z2)) (own_pk (own_sh u3 v3 z3) (own_sh u4 v4 z4)) hc (by decide) (by decide)) (g := (mkF m 71 #[.val (.ref a), .val (.ref b), .val (.double (own_sh u1 v1 z1)), .second, .val (.double (own_sh u2 v2 z2)), .second, .val (.double (own_sh u3 v3 z3)), .second, .val (.double (own_sh u4 v4 z4)), .second, .unset, .unset] [(.double (own_pk (own_sh u3 v3 z3) (own_sh u4 v4 z4))), (.double (own_pk (own_sh u1 v1 z1) (own_sh u2 v2 z2)))])) rfl (by rw [hml]; rfl) (argsL := [(.double (own_pk (own_sh u1 v1 z1) (own_sh u2 v2 z2))), (.double (own_pk (own_sh u3 v3 z3) (own_sh u4 v4 z4)))]) (rest := []) (lenOf pd_6 rfl) rfl (by show 2 * 0 + _ ≤ _; exact Nat.le_of_eq rfl) (hb hby d13_71) (by decide) (by decide) ⟨rfl, (Jvm.Free.Fl.pick64_noNaN nn1 nn2), (Jvm.Free.Fl.pick64_noNaN nn3 nn4)⟩ rfl
  have sg50 : ∀ target, Steps p.tables e below (T49.setTop (mkF m 82 #[.val (.ref a), .val (.ref b), .val (.double (own_sh u1 v1 z1)), .second, .val (.double (own_sh u2 v2 z2)), .second, .val (.double (own_sh u3 v3 z3)), .second, .val (.double (own_sh u4 v4 z4)), .second, .val (.double (own_pk (own_pk (own_sh u1 v1 z1) (own_sh u2 v2 z2)) (own_pk (own_sh u3 v3 z3) (own_sh u4 v4 z4)))), .second] [(.double (FP.dmul (4636737291354636288 : UInt64) (own_pk (own_pk (own_sh u1 v1 z1) (own_sh u2 v2 z2)) (own_pk (own_sh u3 v3 z3) (own_sh u4 v4 z4)))))])) target → Steps p.tables e below (T49.setTop (mkF m 74 #[.val (.ref a), .val (.ref b), .val (.double (own_sh u1 v1 z1)), .second, .val (.double (own_sh u2 v2 z2)), .second, .val (.double (own_sh u3 v3 z3)), .second, .val (.double (own_sh u4 v4 z4)), .second, .unset, .unset] [(.double (own_pk (own_pk (own_sh u1 v1 z1) (own_sh u2 v2 z2)) (own_pk (own_sh u3 v3 z3) (own_sh u4 v4 z4))))])) target := by
    intro target kt
    show Steps p.tables e below (T49.setTop (mkF m 74 #[.val (.ref a), .val (.ref b), .val (.double (own_sh u1 v1 z1)), .second, .val (.double (own_sh u2 v2 z2)), .second, .val (.double (own_sh u3 v3 z3)), .second, .val (.double (own_sh u4 v4 z4)), .second, .unset, .unset] [(.double (own_pk (own_pk (own_sh u1 v1 z1) (own_sh u2 v2 z2)) (own_pk (own_sh u3 v3 z3) (own_sh u4 v4 z4))))])) _
    refine XS.dstore X49.here hx rfl (hb hby d13_74) rfl (l' := #[.val (.ref a), .val (.ref b), .val (.double (own_sh u1 v1 z1)), .second, .val (.double (own_sh u2 v2 z2)), .second, .val (.double (own_sh u3 v3 z3)), .second, .val (.double (own_sh u4 v4 z4)), .second, .val (.double (own_pk (own_pk (own_sh u1 v1 z1) (own_sh u2 v2 z2)) (own_pk (own_sh u3 v3 z3) (own_sh u4 v4 z4)))), .second]) rfl ?_
    show Steps p.tables e below (T49.setTop (mkF m 76 #[.val (.ref a), .val (.ref b), .val (.double (own_sh u1 v1 z1)), .second, .val (.double (own_sh u2 v2 z2)), .second, .val (.double (own_sh u3 v3 z3)), .second, .val (.double (own_sh u4 v4 z4)), .second, .val (.double (own_pk (own_pk (own_sh u1 v1 z1) (own_sh u2 v2 z2)) (own_pk (own_sh u3 v3 z3) (own_sh u4 v4 z4)))), .second] [])) _
    refine X49.ldc2DoubleC hx hown2 (mvT hZ2 (hw _ (List.mem_of_getElem? (i := 127) rfl))) (g := (mkF m 76 #[.val (.ref a), .val (.ref b), .val (.double (own_sh u1 v1 z1)), .second, .val (.double (own_sh u2 v2 z2)), .second, .val (.double (own_sh u3 v3 z3)), .second, .val (.double (own_sh u4 v4 z4)), .second, .val (.double (own_pk (own_pk (own_sh u1 v1 z1) (own_sh u2 v2 z2)) (own_pk (own_sh u3 v3 z3) (own_sh u4 v4 z4)))), .second] [])) rfl (hb hby d13_76) _ ?_
    show Steps p.tables e below (T49.setTop (mkF m 79 #[.val (.ref a), .val (.ref b), .val (.double (own_sh u1 v1 z1)), .second, .val (.double (own_sh u2 v2 z2)), .second, .val (.double (own_sh u3 v3 z3)), .second, .val (.double (own_sh u4 v4 z4)), .second, .val (.double (own_pk (own_pk (own_sh u1 v1 z1) (own_sh u2 v2 z2)) (own_pk (own_sh u3 v3 z3) (own_sh u4 v4 z4)))), .second] [(.double (4636737291354636288 : UInt64))])) _
    refine XS.dload X49.here hx rfl (hb hby d13_79) rfl ?_
    show Steps p.tables e below (T49.setTop (mkF m 81 #[.val (.ref a), .val (.ref b), .val (.double (own_sh u1 v1 z1)), .second, .val (.double (own_sh u2 v2 z2)), .second, .val (.double (own_sh u3 v3 z3)), .second, .val (.double (own_sh u4 v4 z4)), .second, .val (.double (own_pk (own_pk (own_sh u1 v1 z1) (own_sh u2 v2 z2)) (own_pk (own_sh u3 v3 z3) (own_sh u4 v4 z4)))), .second] [(.double (own_pk (own_pk (own_sh u1 v1 z1) (own_sh u2 v2 z2)) (own_pk (own_sh u3 v3 z3) (own_sh u4 v4 z4)))), (.double (4636737291354636288 : UInt64))])) _
    refine XS.dmulS X49.here hx rfl (v := (FP.dmul (4636737291354636288 : UInt64) (own_pk (own_pk (own_sh u1 v1 z1) (own_sh u2 v2 z2)) (own_pk (own_sh u3 v3 z3) (own_sh u4 v4 z4))))) (hb hby d13_81) rfl nnm rfl ?_
    exact kt
  obtain ⟨fs, hr, hrun, hended, hWE⟩ := Stand.leaveW (s := s) (vm₁ := T2.vm) X49 hS2 (by rw [e49]; exact hk2) (v := some (.double (FP.dmul (4636737291354636288 : UInt64) (own_pk (own_pk (own_sh u1 v1 z1) (own_sh u2 v2 z2)) (own_pk (own_sh u3 v3 z3) (own_sh u4 v4 z4)))))) (fun h => by rw [Bd.returns] at h; cases h)
  refine ⟨_, _, pre0 _ ?_, hrun, hended, _, _, rfl, ?_, hWE.1, hWE.2.1, hWE.2.2.1, hWE.2.2.2.mono (by decide) (by decide)⟩
  · show Steps p.tables e below (s₁.setTop (mkF m 0 #[.val (.ref a), .val (.ref b), .unset, .unset, .unset, .unset, .unset, .unset, .unset, .unset, .unset, .unset] [])) _
    refine sg1 _ ?_
    refine st2 _ ?_
    refine st24 _ ?_
    refine sg25 _ ?_
    refine st26.trans ?_
    refine sg27 _ ?_
    refine st28 _ ?_
    refine st29 _ ?_
    refine sg30 _ ?_
    refine st31.trans ?_
    refine sg32 _ ?_
    refine st33 _ ?_
    refine st34 _ ?_
    refine sg35 _ ?_
    refine st36.trans ?_
    refine sg37 _ ?_
    refine st38 _ ?_
    refine st39 _ ?_
    refine sg40 _ ?_
    refine st41.trans ?_
    refine sg42 _ ?_
    refine st43 _ ?_
    refine st44 _ ?_
    refine sg45 _ ?_
    refine st46 _ ?_
    refine sg47 _ ?_
    refine st48 _ ?_
    refine st49 _ ?_
    refine sg50 _ ?_
    show Steps p.tables e below (T49.setTop (mkF m 82 #[.val (.ref a), .val (.ref b), .val (.double (own_sh u1 v1 z1)), .second, .val (.double (own_sh u2 v2 z2)), .second, .val (.double (own_sh u3 v3 z3)), .second, .val (.double (own_sh u4 v4 z4)), .second, .val (.double (own_pk (own_pk (own_sh u1 v1 z1) (own_sh u2 v2 z2)) (own_pk (own_sh u3 v3 z3) (own_sh u4 v4 z4)))), .second] [(.double (FP.dmul (4636737291354636288 : UInt64) (own_pk (own_pk (own_sh u1 v1 z1) (own_sh u2 v2 z2)) (own_pk (own_sh u3 v3 z3) (own_sh u4 v4 z4)))))])) _
    exact retOut X49 hx Bd.returns rfl (Or.inr (Or.inr (Or.inl ⟨rfl, rfl, _, rfl⟩))) (hb hby d13_82) hr
  · show Q_rm13 Z a b u1 v1 z1 u2 v2 z2 u3 v3 z3 u4 v4 z4 r1 r2 r3 r4 h0 n0 _ T49.heap _
    rw [e49]
    exact ⟨rfl, N44, K2⟩
theorem pd_8 : parseMethodDescriptor "(DDDD)V" = some ⟨[.double, .double, .double, .double], none⟩ := by decide +kernel
theorem pd_11 : parseMethodDescriptor "(I)Lcom/example/headroom/headroom/ResourceUsage;" = some ⟨[.int], some (.object "com/example/headroom/headroom/ResourceUsage")⟩ := by decide +kernel
theorem pd_15 : parseMethodDescriptor "(Lcom/example/headroom/headroom/ResourceUsage;Lcom/example/headroom/headroom/ResourceUsage;Lcom/example/headroom/headroom/ResourceUsage;Lcom/example/headroom/headroom/ResourceUsage;)V" = some ⟨[(.object "com/example/headroom/headroom/ResourceUsage"), (.object "com/example/headroom/headroom/ResourceUsage"), (.object "com/example/headroom/headroom/ResourceUsage"), (.object "com/example/headroom/headroom/ResourceUsage")], none⟩ := by decide +kernel
theorem pd_13 : parseMethodDescriptor "(Lcom/example/headroom/headroom/BrokerUsage;)D" = some ⟨[(.object "com/example/headroom/headroom/BrokerUsage")], some .double⟩ := by decide +kernel
theorem pd_10 : parseMethodDescriptor "(I)J" = some ⟨[.int], some .long⟩ := by decide +kernel
theorem pd_12 : parseMethodDescriptor "(JJ)J" = some ⟨[.long, .long], some .long⟩ := by decide +kernel
theorem pn_0 : plainName "com/example/headroom/headroom/ResourceWeightsScorePinLaw" = true := by first | (simp [plainName, overriddenIn]; done) | decide +kernel
theorem ef_rm0 (m : MethodId) (x0 : Int32) (x1 : Int32) (x2 : Int32) (x3 : Int32) : entryFrame m #[(.int x0), (.int x1), (.int x2), (.int x3)] maxLocals = mkF m 0 #[.val (.int x0), .val (.int x1), .val (.int x2), .val (.int x3), .unset, .unset, .unset, .unset, .unset, .unset, .unset, .unset, .unset, .unset, .unset, .unset, .unset, .unset] [] := by first | (simp [entryFrame, mkF, argsToLocals, Value.category, maxLocals]; done) | rfl
def Q_rm0 (Z : State) (i0 : Int32) (i1 : Int32) (i2 : Int32) (i3 : Int32) (h0 : Heap) (n0 : Nat) (rv : Option Value) (h : Heap) (L : List Loc) : Prop := rv = some (.int 1) ∧ Fr n0 L
set_option maxRecDepth 65536 in
set_option maxHeartbeats 40000000 in
theorem rm0 (l : Launch) (Z : State) (a0 : Array Value) (hw : ∀ d ∈ tables_1, d.before a0 Z = true) (ws : List Jvm.Cond) (i0 : Int32) (i1 : Int32) (i2 : Int32) (i3 : Int32) (h0 : Heap) (n0 : Nat) (Z0 : n0 ≤ h0.size) :
    MetFree l x (head1 (Jvm.Cond.code x code maxLocals ret :: ws) room_1) (fun av U => av = #[(.int i0), (.int i1), (.int i2), (.int i3)] ∧ Z.Warmed39 U.vm ∧ U.heap = h0) (fun _ _ _ _ _ => True) (fun _ U o U' => ∃ rv L, o = .returned rv ∧ Q_rm0 Z i0 i1 i2 i3 h0 n0 rv U'.heap L ∧ ReturnedEndW U o U' L room_1.cells room_1.slots) := by
  refine MetFree.of_bodySF (plainFor_of_name pn_0) hisR ?_
  intro p e s m args below meth c s₁ Bd hml0 hP hK
  obtain ⟨rfl, hZ, hh⟩ := hP
  have hx := Bd.exec
  have hby := Bd.bytes
  have hml : c.maxLocals = 18 := hml0
  have hown : s.vm.findClass "com/example/headroom/headroom/ResourceWeightsScorePinLaw" = some m.cls := findClass_of_methodNamed Bd.named
  have hnm := (name_of_methodNamed Bd.named Bd.method).1
  have X0 : Stand p l e room_1 s m #[(.int i0), (.int i1), (.int i2), (.int i3)] below meth c s₁ [] 0 0 := Stand.of_body Bd
  have e0 : s₁.heap = h0 := by rw [← hh, Bd.state]; rfl
  have N0 := Fr.nil n0
  have pre0 : ∀ t, Steps p.tables e below (s₁.setTop (mkF m 0 #[.val (.int i0), .val (.int i1), .val (.int i2), .val (.int i3), .unset, .unset, .unset, .unset, .unset, .unset, .unset, .unset, .unset, .unset, .unset, .unset, .unset, .unset] [])) t → Steps p.tables e below (s₁.setTop (entryFrame m #[(.int i0), (.int i1), (.int i2), (.int i3)] maxLocals)) t := fun t k => castTop (ef_rm0 m i0 i1 i2 i3) k
  have hS0 : s.Since s.vm h0.size := State.WarmedH.since (State.WarmedH.refl s) _
  have R1 := own_Rs i0
  have R2 := own_Rs i1
  have R3 := own_Rs i2
  have R4 := own_Rs i3
  have RM := own_R_max (own_R_max R1 R2) (own_R_max R3 R4)
  obtain ⟨T1, h1, X1, e1, E1, A1, D1, -, st1⟩ := newO X0 hx hZ hown (hw _ (List.mem_of_getElem? (i := 0) rfl)) (hw _ (List.mem_of_getElem? (i := 1) rfl)) (hw _ (List.mem_of_getElem? (i := 2) rfl)) e0 (g := (mkF m 0 #[.val (.int i0), .val (.int i1), .val (.int i2), .val (.int i3), .unset, .unset, .unset, .unset, .unset, .unset, .unset, .unset, .unset, .unset, .unset, .unset, .unset, .unset] [])) rfl (hb hby at_0) (by decide) (by decide)
  obtain ⟨b1, g1⟩ : ∃ z, z = h0.size := ⟨_, rfl⟩
  rw [← g1] at A1 D1 st1
  have g_b1 : n0 ≤ b1 := Nat.le_trans Z0 (Nat.le_of_eq g1.symm)
  have Zs1 : n0 ≤ h1.size := Nat.le_trans Z0 E1.1
  have f2 : Exa Z h1 b1 "com/example/headroom/headroom/ResourceWeights" := A1
  have f3 : Fld Z h1 b1 "com/example/headroom/headroom/ResourceWeights" "cpu" "D" (.double (0 : UInt64)) := D1 (Or.inr (hw _ (List.mem_of_getElem? (i := 43) rfl))) (ty := .double) (by decide)
  have f4 : Fld Z h1 b1 "com/example/headroom/headroom/ResourceWeights" "directMemory" "D" (.double (0 : UInt64)) := D1 (Or.inr (hw _ (List.mem_of_getElem? (i := 45) rfl))) (ty := .double) (by decide)
  have f5 : Fld Z h1 b1 "com/example/headroom/headroom/ResourceWeights" "bandwidthIn" "D" (.double (0 : UInt64)) := D1 (Or.inr (hw _ (List.mem_of_getElem? (i := 47) rfl))) (ty := .double) (by decide)
  have f6 : Fld Z h1 b1 "com/example/headroom/headroom/ResourceWeights" "bandwidthOut" "D" (.double (0 : UInt64)) := D1 (Or.inr (hw _ (List.mem_of_getElem? (i := 49) rfl))) (ty := .double) (by decide)
  have sg7 : ∀ target, Steps p.tables e below (T1.setTop (mkF m 5 #[.val (.int i0), .val (.int i1), .val (.int i2), .val (.int i3), .unset, .unset, .unset, .unset, .unset, .unset, .unset, .unset, .unset, .unset, .unset, .unset, .unset, .unset] [(.int i0), (.ref b1), (.ref b1)])) target → Steps p.tables e below (T1.setTop (mkF m 3 #[.val (.int i0), .val (.int i1), .val (.int i2), .val (.int i3), .unset, .unset, .unset, .unset, .unset, .unset, .unset, .unset, .unset, .unset, .unset, .unset, .unset, .unset] [(.ref b1)])) target := by
    intro target kt
    show Steps p.tables e below (T1.setTop (mkF m 3 #[.val (.int i0), .val (.int i1), .val (.int i2), .val (.int i3), .unset, .unset, .unset, .unset, .unset, .unset, .unset, .unset, .unset, .unset, .unset, .unset, .unset, .unset] [(.ref b1)])) _
    refine XS.dup X1.here hx rfl (hb hby at_3) rfl rfl ?_
    show Steps p.tables e below (T1.setTop (mkF m 4 #[.val (.int i0), .val (.int i1), .val (.int i2), .val (.int i3), .unset, .unset, .unset, .unset, .unset, .unset, .unset, .unset, .unset, .unset, .unset, .unset, .unset, .unset] [(.ref b1), (.ref b1)])) _
    refine XS.iloadN X1.here hx rfl (hb hby at_4) rfl ?_
    exact kt
  obtain ⟨_, _, ⟨T8, L8, k8, n8⟩, -, X8, ⟨Lc8, hQ8, l8, y8, z8⟩, st8⟩ := Jvm.LawKit.callS X1 hx (y := (⟨"com/example/headroom/headroom/ResourceWeightsScorePinLaw", "weightOf", "(I)D"⟩ : MethodName)) hown (mvT hZ (hw _ (List.mem_of_getElem? (i := 3) rfl))) (mvT hZ (hw _ (List.mem_of_getElem? (i := 4) rfl))) (mvT hZ (hw _ (List.mem_of_getElem? (i := 5) rfl))) (mvT hZ (hw _ (List.mem_of_getElem? (i := 6) rfl))) (by decide) (backOf (W := 2) (rm1 l Z a0 hw [] i0 h1 n0 Zs1 ) hZ (hw _ (List.mem_of_getElem? (i := 6) rfl)) (hw _ (List.mem_of_getElem? (i := 5) rfl)) (by decide) (by decide)) (g := (mkF m 5 #[.val (.int i0), .val (.int i1), .val (.int i2), .val (.int i3), .unset, .unset, .unset, .unset, .unset, .unset, .unset, .unset, .unset, .unset, .unset, .unset, .unset, .unset] [(.int i0), (.ref b1), (.ref b1)])) rfl (by rw [hml]; rfl) (argsL := [(.int i0)]) (rest := [(.ref b1), (.ref b1)]) (lenOf pd_9 rfl) rfl (by show 2 * 0 + _ ≤ _; exact Nat.le_of_eq rfl) (hb hby at_5) (fun _ _ => ⟨rfl, e1, (by decide : 1 + 0 ≤ _), (by decide : 4 + 0 ≤ _)⟩)
  dsimp only [Pt.U, Pt.locs, Pt.cells, Pt.slots] at X8 l8 y8 z8 st8 hQ8
  subst l8 y8 z8
  obtain ⟨rfl, N8q, c8_0⟩ := hQ8
  have N8 := Fr.app N0 N8q
  have sg9 : ∀ target, Steps p.tables e below (T8.setTop (mkF m 9 #[.val (.int i0), .val (.int i1), .val (.int i2), .val (.int i3), .unset, .unset, .unset, .unset, .unset, .unset, .unset, .unset, .unset, .unset, .unset, .unset, .unset, .unset] [(.int i1), (.double (FP.i2d (own_wt i0))), (.ref b1), (.ref b1)])) target → Steps p.tables e below (T8.setTop (mkF m 8 #[.val (.int i0), .val (.int i1), .val (.int i2), .val (.int i3), .unset, .unset, .unset, .unset, .unset, .unset, .unset, .unset, .unset, .unset, .unset, .unset, .unset, .unset] [(.double (FP.i2d (own_wt i0))), (.ref b1), (.ref b1)])) target := by
    intro target kt
    show Steps p.tables e below (T8.setTop (mkF m 8 #[.val (.int i0), .val (.int i1), .val (.int i2), .val (.int i3), .unset, .unset, .unset, .unset, .unset, .unset, .unset, .unset, .unset, .unset, .unset, .unset, .unset, .unset] [(.double (FP.i2d (own_wt i0))), (.ref b1), (.ref b1)])) _
    refine XS.iloadN X8.here hx rfl (hb hby at_8) rfl ?_
    exact kt
  obtain ⟨_, _, ⟨T10, L10, k10, n10⟩, -, X10, ⟨Lc10, hQ10, l10, y10, z10⟩, st10⟩ := Jvm.LawKit.callS X8 hx (y := (⟨"com/example/headroom/headroom/ResourceWeightsScorePinLaw", "weightOf", "(I)D"⟩ : MethodName)) hown (mvT hZ (hw _ (List.mem_of_getElem? (i := 3) rfl))) (mvT hZ (hw _ (List.mem_of_getElem? (i := 4) rfl))) (mvT hZ (hw _ (List.mem_of_getElem? (i := 5) rfl))) (mvT hZ (hw _ (List.mem_of_getElem? (i := 6) rfl))) (by decide) (backOf (W := 4) (rm1 l Z a0 hw [] i1 h1 n0 Zs1 ) hZ (hw _ (List.mem_of_getElem? (i := 6) rfl)) (hw _ (List.mem_of_getElem? (i := 5) rfl)) (by decide) (by decide)) (g := (mkF m 9 #[.val (.int i0), .val (.int i1), .val (.int i2), .val (.int i3), .unset, .unset, .unset, .unset, .unset, .unset, .unset, .unset, .unset, .unset, .unset, .unset, .unset, .unset] [(.int i1), (.double (FP.i2d (own_wt i0))), (.ref b1), (.ref b1)])) rfl (by rw [hml]; rfl) (argsL := [(.int i1)]) (rest := [(.double (FP.i2d (own_wt i0))), (.ref b1), (.ref b1)]) (lenOf pd_9 rfl) rfl (by show 2 * 0 + _ ≤ _; exact Nat.le_of_eq rfl) (hb hby at_9) (fun _ _ => ⟨rfl, c8_0, (by decide : 1 + 0 ≤ _), (by decide : 4 + 0 ≤ _)⟩)
  dsimp only [Pt.U, Pt.locs, Pt.cells, Pt.slots] at X10 l10 y10 z10 st10 hQ10
  subst l10 y10 z10
  obtain ⟨rfl, N10q, c10_0⟩ := hQ10
  have N10 := Fr.app N8 N10q
  have sg11 : ∀ target, Steps p.tables e below (T10.setTop (mkF m 13 #[.val (.int i0), .val (.int i1), .val (.int i2), .val (.int i3), .unset, .unset, .unset, .unset, .unset, .unset, .unset, .unset, .unset, .unset, .unset, .unset, .unset, .unset] [(.int i2), (.double (FP.i2d (own_wt i1))), (.double (FP.i2d (own_wt i0))), (.ref b1), (.ref b1)])) target → Steps p.tables e below (T10.setTop (mkF m 12 #[.val (.int i0), .val (.int i1), .val (.int i2), .val (.int i3), .unset, .unset, .unset, .unset, .unset, .unset, .unset, .unset, .unset, .unset, .unset, .unset, .unset, .unset] [(.double (FP.i2d (own_wt i1))), (.double (FP.i2d (own_wt i0))), (.ref b1), (.ref b1)])) target := by
    intro target kt
    show Steps p.tables e below (T10.setTop (mkF m 12 #[.val (.int i0), .val (.int i1), .val (.int i2), .val (.int i3), .unset, .unset, .unset, .unset, .unset, .unset, .unset, .unset, .unset, .unset, .unset, .unset, .unset, .unset] [(.double (FP.i2d (own_wt i1))), (.double (FP.i2d (own_wt i0))), (.ref b1), (.ref b1)])) _
    refine XS.iloadN X10.here hx rfl (hb hby at_12) rfl ?_
    exact kt
  obtain ⟨_, _, ⟨T12, L12, k12, n12⟩, -, X12, ⟨Lc12, hQ12, l12, y12, z12⟩, st12⟩ := Jvm.LawKit.callS X10 hx (y := (⟨"com/example/headroom/headroom/ResourceWeightsScorePinLaw", "weightOf", "(I)D"⟩ : MethodName)) hown (mvT hZ (hw _ (List.mem_of_getElem? (i := 3) rfl))) (mvT hZ (hw _ (List.mem_of_getElem? (i := 4) rfl))) (mvT hZ (hw _ (List.mem_of_getElem? (i := 5) rfl))) (mvT hZ (hw _ (List.mem_of_getElem? (i := 6) rfl))) (by decide) (backOf (W := 6) (rm1 l Z a0 hw [] i2 h1 n0 Zs1 ) hZ (hw _ (List.mem_of_getElem? (i := 6) rfl)) (hw _ (List.mem_of_getElem? (i := 5) rfl)) (by decide) (by decide)) (g := (mkF m 13 #[.val (.int i0), .val (.int i1), .val (.int i2), .val (.int i3), .unset, .unset, .unset, .unset, .unset, .unset, .unset, .unset, .unset, .unset, .unset, .unset, .unset, .unset] [(.int i2), (.double (FP.i2d (own_wt i1))), (.double (FP.i2d (own_wt i0))), (.ref b1), (.ref b1)])) rfl (by rw [hml]; rfl) (argsL := [(.int i2)]) (rest := [(.double (FP.i2d (own_wt i1))), (.double (FP.i2d (own_wt i0))), (.ref b1), (.ref b1)]) (lenOf pd_9 rfl) rfl (by show 2 * 0 + _ ≤ _; exact Nat.le_of_eq rfl) (hb hby at_13) (fun _ _ => ⟨rfl, c10_0, (by decide : 1 + 0 ≤ _), (by decide : 4 + 0 ≤ _)⟩)
  dsimp only [Pt.U, Pt.locs, Pt.cells, Pt.slots] at X12 l12 y12 z12 st12 hQ12
  subst l12 y12 z12
  obtain ⟨rfl, N12q, c12_0⟩ := hQ12
  have N12 := Fr.app N10 N12q
  have sg13 : ∀ target, Steps p.tables e below (T12.setTop (mkF m 17 #[.val (.int i0), .val (.int i1), .val (.int i2), .val (.int i3), .unset, .unset, .unset, .unset, .unset, .unset, .unset, .unset, .unset, .unset, .unset, .unset, .unset, .unset] [(.int i3), (.double (FP.i2d (own_wt i2))), (.double (FP.i2d (own_wt i1))), (.double (FP.i2d (own_wt i0))), (.ref b1), (.ref b1)])) target → Steps p.tables e below (T12.setTop (mkF m 16 #[.val (.int i0), .val (.int i1), .val (.int i2), .val (.int i3), .unset, .unset, .unset, .unset, .unset, .unset, .unset, .unset, .unset, .unset, .unset, .unset, .unset, .unset] [(.double (FP.i2d (own_wt i2))), (.double (FP.i2d (own_wt i1))), (.double (FP.i2d (own_wt i0))), (.ref b1), (.ref b1)])) target := by
    intro target kt
    show Steps p.tables e below (T12.setTop (mkF m 16 #[.val (.int i0), .val (.int i1), .val (.int i2), .val (.int i3), .unset, .unset, .unset, .unset, .unset, .unset, .unset, .unset, .unset, .unset, .unset, .unset, .unset, .unset] [(.double (FP.i2d (own_wt i2))), (.double (FP.i2d (own_wt i1))), (.double (FP.i2d (own_wt i0))), (.ref b1), (.ref b1)])) _
    refine XS.iloadN X12.here hx rfl (hb hby at_16) rfl ?_
    exact kt
  obtain ⟨_, _, ⟨T14, L14, k14, n14⟩, -, X14, ⟨Lc14, hQ14, l14, y14, z14⟩, st14⟩ := Jvm.LawKit.callS X12 hx (y := (⟨"com/example/headroom/headroom/ResourceWeightsScorePinLaw", "weightOf", "(I)D"⟩ : MethodName)) hown (mvT hZ (hw _ (List.mem_of_getElem? (i := 3) rfl))) (mvT hZ (hw _ (List.mem_of_getElem? (i := 4) rfl))) (mvT hZ (hw _ (List.mem_of_getElem? (i := 5) rfl))) (mvT hZ (hw _ (List.mem_of_getElem? (i := 6) rfl))) (by decide) (backOf (W := 8) (rm1 l Z a0 hw [] i3 h1 n0 Zs1 ) hZ (hw _ (List.mem_of_getElem? (i := 6) rfl)) (hw _ (List.mem_of_getElem? (i := 5) rfl)) (by decide) (by decide)) (g := (mkF m 17 #[.val (.int i0), .val (.int i1), .val (.int i2), .val (.int i3), .unset, .unset, .unset, .unset, .unset, .unset, .unset, .unset, .unset, .unset, .unset, .unset, .unset, .unset] [(.int i3), (.double (FP.i2d (own_wt i2))), (.double (FP.i2d (own_wt i1))), (.double (FP.i2d (own_wt i0))), (.ref b1), (.ref b1)])) rfl (by rw [hml]; rfl) (argsL := [(.int i3)]) (rest := [(.double (FP.i2d (own_wt i2))), (.double (FP.i2d (own_wt i1))), (.double (FP.i2d (own_wt i0))), (.ref b1), (.ref b1)]) (lenOf pd_9 rfl) rfl (by show 2 * 0 + _ ≤ _; exact Nat.le_of_eq rfl) (hb hby at_17) (fun _ _ => ⟨rfl, c12_0, (by decide : 1 + 0 ≤ _), (by decide : 4 + 0 ≤ _)⟩)
  dsimp only [Pt.U, Pt.locs, Pt.cells, Pt.slots] at X14 l14 y14 z14 st14 hQ14
  subst l14 y14 z14
  obtain ⟨rfl, N14q, c14_0⟩ := hQ14
  have N14 := Fr.app N12 N14q
  obtain ⟨_, _, ⟨T15, L15, k15, n15⟩, -, X15, hs15, gr15, ⟨Lc15, hQ15, l15, y15, z15⟩, st15⟩ := X14.specialBackS hx (y := (⟨"com/example/headroom/headroom/ResourceWeights", "<init>", "(DDDD)V"⟩ : MethodName)) rfl hown (mvT hZ (hw _ (List.mem_of_getElem? (i := 7) rfl))) (mvT hZ (hw _ (List.mem_of_getElem? (i := 8) rfl))) (mvT hZ (hw _ (List.mem_of_getElem? (i := 9) rfl))) (by decide) (backOfS (W := 1) (rm2 l Z a0 hw [] b1 (FP.i2d (own_wt i0)) (FP.i2d (own_wt i1)) (FP.i2d (own_wt i2)) (FP.i2d (own_wt i3)) h1 n0 Zs1 f2 f3 f4 f5 f6 g_b1 (own_fin (own_wt i0)) (own_nonneg (own_wt_rng i0).1) (own_fin (own_wt i1)) (own_nonneg (own_wt_rng i1).1) (own_fin (own_wt i2)) (own_nonneg (own_wt_rng i2).1) (own_fin (own_wt i3)) (own_nonneg (own_wt_rng i3).1)) hZ (hw _ (List.mem_of_getElem? (i := 9) rfl)) (hw _ (List.mem_of_getElem? (i := 2) rfl)) (by decide) (by decide)) (g := (mkF m 20 #[.val (.int i0), .val (.int i1), .val (.int i2), .val (.int i3), .unset, .unset, .unset, .unset, .unset, .unset, .unset, .unset, .unset, .unset, .unset, .unset, .unset, .unset] [(.double (FP.i2d (own_wt i3))), (.double (FP.i2d (own_wt i2))), (.double (FP.i2d (own_wt i1))), (.double (FP.i2d (own_wt i0))), (.ref b1), (.ref b1)])) rfl (by rw [hml]; rfl) (Steps.refl _) (a := b1) (argsL := [(.double (FP.i2d (own_wt i0))), (.double (FP.i2d (own_wt i1))), (.double (FP.i2d (own_wt i2))), (.double (FP.i2d (own_wt i3)))]) (rest := [(.ref b1)]) (lenOf pd_8 rfl) rfl (by show 2 * 0 + _ ≤ _; exact Nat.le_of_eq rfl) (hb hby at_20) (fun _ _ => ⟨rfl, c14_0, (by decide : 1 + 8 ≤ _), (by decide : 4 + 168 ≤ _)⟩)
  dsimp only [Pt.U, Pt.locs, Pt.cells, Pt.slots] at X15 l15 y15 z15 st15 hQ15
  subst l15 y15 z15
  dsimp only [Pt.U] at hs15 gr15
  obtain ⟨X15r, hS15, hZ15, hown15⟩ := rebS (s := s) (vm0 := s.vm) hS0 (by rw [c14_0]; exact (Nat.le_trans (Nat.le_refl h0.size) E1.1)) X15 hs15 gr15 hZ hown
  obtain ⟨rfl, N15q, c15_0, c15_1, c15_2, c15_3, c15_4, c15_5⟩ := hQ15
  have N15 := Fr.app N14 N15q
  have Zs15 : n0 ≤ T15.heap.size := Nat.le_trans Zs1 c15_0.1
  have f16 : Exa Z T15.heap b1 "com/example/headroom/headroom/ResourceWeights" := c15_1
  have f17 : Fld Z T15.heap b1 "com/example/headroom/headroom/ResourceWeights" "cpu" "D" (.double (FP.i2d (own_wt i0))) := c15_2
  have f18 : Fld Z T15.heap b1 "com/example/headroom/headroom/ResourceWeights" "directMemory" "D" (.double (FP.i2d (own_wt i1))) := c15_3
  have f19 : Fld Z T15.heap b1 "com/example/headroom/headroom/ResourceWeights" "bandwidthIn" "D" (.double (FP.i2d (own_wt i2))) := c15_4
  have f20 : Fld Z T15.heap b1 "com/example/headroom/headroom/ResourceWeights" "bandwidthOut" "D" (.double (FP.i2d (own_wt i3))) := c15_5
  have sg21 : ∀ target, Steps p.tables e below (T15.setTop (mkF m 25 #[.val (.int i0), .val (.int i1), .val (.int i2), .val (.int i3), .val (.ref b1), .unset, .unset, .unset, .unset, .unset, .unset, .unset, .unset, .unset, .unset, .unset, .unset, .unset] [])) target → Steps p.tables e below (T15.setTop (mkF m 23 #[.val (.int i0), .val (.int i1), .val (.int i2), .val (.int i3), .unset, .unset, .unset, .unset, .unset, .unset, .unset, .unset, .unset, .unset, .unset, .unset, .unset, .unset] [(.ref b1)])) target := by
    intro target kt
    show Steps p.tables e below (T15.setTop (mkF m 23 #[.val (.int i0), .val (.int i1), .val (.int i2), .val (.int i3), .unset, .unset, .unset, .unset, .unset, .unset, .unset, .unset, .unset, .unset, .unset, .unset, .unset, .unset] [(.ref b1)])) _
    refine XS.astore X15r.here hx rfl (hb hby at_23) rfl rfl (l' := #[.val (.int i0), .val (.int i1), .val (.int i2), .val (.int i3), .val (.ref b1), .unset, .unset, .unset, .unset, .unset, .unset, .unset, .unset, .unset, .unset, .unset, .unset, .unset]) rfl ?_
    exact kt
  obtain ⟨T22, h22, X22, e22, E22, A22, D22, -, st22⟩ := newO X15r hx hZ15 hown15 (hw _ (List.mem_of_getElem? (i := 50) rfl)) (hw _ (List.mem_of_getElem? (i := 51) rfl)) (hw _ (List.mem_of_getElem? (i := 52) rfl)) rfl (g := (mkF m 25 #[.val (.int i0), .val (.int i1), .val (.int i2), .val (.int i3), .val (.ref b1), .unset, .unset, .unset, .unset, .unset, .unset, .unset, .unset, .unset, .unset, .unset, .unset, .unset] [])) rfl (hb hby at_25) (by decide) (by decide)
  obtain ⟨b22, g22⟩ : ∃ z, z = T15.heap.size := ⟨_, rfl⟩
  rw [← g22] at A22 D22 st22
  have g_b22 : n0 ≤ b22 := Nat.le_trans Zs15 (Nat.le_of_eq g22.symm)
  have ne_b1_b22 : b1 ≠ b22 := Nat.ne_of_lt (Nat.lt_of_lt_of_le f16.lt (Nat.le_of_eq g22.symm))
  have Zs22 : n0 ≤ h22.size := Nat.le_trans Zs15 E22.1
  have f23 : Exa Z h22 b1 "com/example/headroom/headroom/ResourceWeights" := f16.ext E22
  have f24 : Fld Z h22 b1 "com/example/headroom/headroom/ResourceWeights" "cpu" "D" (.double (FP.i2d (own_wt i0))) := f17.ext E22
  have f25 : Fld Z h22 b1 "com/example/headroom/headroom/ResourceWeights" "directMemory" "D" (.double (FP.i2d (own_wt i1))) := f18.ext E22
  have f26 : Fld Z h22 b1 "com/example/headroom/headroom/ResourceWeights" "bandwidthIn" "D" (.double (FP.i2d (own_wt i2))) := f19.ext E22
  have f27 : Fld Z h22 b1 "com/example/headroom/headroom/ResourceWeights" "bandwidthOut" "D" (.double (FP.i2d (own_wt i3))) := f20.ext E22
  have f28 : Exa Z h22 b22 "com/example/headroom/headroom/BrokerUsage" := A22
  have f29 : Fld Z h22 b22 "com/example/headroom/headroom/BrokerUsage" "cpu" "Lcom/example/headroom/headroom/ResourceUsage;" .null := D22 (Or.inr (hw _ (List.mem_of_getElem? (i := 87) rfl))) (ty := (.object "com/example/headroom/headroom/ResourceUsage")) (by decide)
  have f30 : Fld Z h22 b22 "com/example/headroom/headroom/BrokerUsage" "directMemory" "Lcom/example/headroom/headroom/ResourceUsage;" .null := D22 (Or.inr (hw _ (List.mem_of_getElem? (i := 89) rfl))) (ty := (.object "com/example/headroom/headroom/ResourceUsage")) (by decide)
  have f31 : Fld Z h22 b22 "com/example/headroom/headroom/BrokerUsage" "bandwidthIn" "Lcom/example/headroom/headroom/ResourceUsage;" .null := D22 (Or.inr (hw _ (List.mem_of_getElem? (i := 91) rfl))) (ty := (.object "com/example/headroom/headroom/ResourceUsage")) (by decide)
  have f32 : Fld Z h22 b22 "com/example/headroom/headroom/BrokerUsage" "bandwidthOut" "Lcom/example/headroom/headroom/ResourceUsage;" .null := D22 (Or.inr (hw _ (List.mem_of_getElem? (i := 93) rfl))) (ty := (.object "com/example/headroom/headroom/ResourceUsage")) (by decide)
  have sg33 : ∀ target, Steps p.tables e below (T22.setTop (mkF m 30 #[.val (.int i0), .val (.int i1), .val (.int i2), .val (.int i3), .val (.ref b1), .unset, .unset, .unset, .unset, .unset, .unset, .unset, .unset, .unset, .unset, .unset, .unset, .unset] [(.int i0), (.ref b22), (.ref b22)])) target → Steps p.tables e below (T22.setTop (mkF m 28 #[.val (.int i0), .val (.int i1), .val (.int i2), .val (.int i3), .val (.ref b1), .unset, .unset, .unset, .unset, .unset, .unset, .unset, .unset, .unset, .unset, .unset, .unset, .unset] [(.ref b22)])) target := by
    intro target kt
    show Steps p.tables e below (T22.setTop (mkF m 28 #[.val (.int i0), .val (.int i1), .val (.int i2), .val (.int i3), .val (.ref b1), .unset, .unset, .unset, .unset, .unset, .unset, .unset, .unset, .unset, .unset, .unset, .unset, .unset] [(.ref b22)])) _
    refine XS.dup X22.here hx rfl (hb hby at_28) rfl rfl ?_
    show Steps p.tables e below (T22.setTop (mkF m 29 #[.val (.int i0), .val (.int i1), .val (.int i2), .val (.int i3), .val (.ref b1), .unset, .unset, .unset, .unset, .unset, .unset, .unset, .unset, .unset, .unset, .unset, .unset, .unset] [(.ref b22), (.ref b22)])) _
    refine XS.iloadN X22.here hx rfl (hb hby at_29) rfl ?_
    exact kt
  obtain ⟨_, _, ⟨T34, L34, k34, n34⟩, -, X34, hs34, gr34, ⟨Lc34, hQ34, l34, y34, z34⟩, st34⟩ := callSS X22 hx (y := (⟨"com/example/headroom/headroom/ResourceWeightsScorePinLaw", "usageOf", "(I)Lcom/example/headroom/headroom/ResourceUsage;"⟩ : MethodName)) hown15 (mvT hZ15 (hw _ (List.mem_of_getElem? (i := 53) rfl))) (mvT hZ15 (hw _ (List.mem_of_getElem? (i := 54) rfl))) (mvT hZ15 (hw _ (List.mem_of_getElem? (i := 5) rfl))) (mvT hZ15 (hw _ (List.mem_of_getElem? (i := 55) rfl))) (by decide) (backOfS (W := 2) (rm8 l Z a0 hw [] i0 h22 n0 Zs22 ) hZ15 (hw _ (List.mem_of_getElem? (i := 55) rfl)) (hw _ (List.mem_of_getElem? (i := 5) rfl)) (by decide) (by decide)) (g := (mkF m 30 #[.val (.int i0), .val (.int i1), .val (.int i2), .val (.int i3), .val (.ref b1), .unset, .unset, .unset, .unset, .unset, .unset, .unset, .unset, .unset, .unset, .unset, .unset, .unset] [(.int i0), (.ref b22), (.ref b22)])) rfl (by rw [hml]; rfl) (argsL := [(.int i0)]) (rest := [(.ref b22), (.ref b22)]) (lenOf pd_11 rfl) rfl (by show 2 * 0 + _ ≤ _; exact Nat.le_of_eq rfl) (hb hby at_30) (fun _ _ => ⟨rfl, e22, (by decide : 10 + 5 ≤ _), (by decide : 176 + 50 ≤ _)⟩)
  dsimp only [Pt.U, Pt.locs, Pt.cells, Pt.slots] at X34 l34 y34 z34 st34 hQ34
  subst l34 y34 z34
  dsimp only [Pt.U] at hs34 gr34
  obtain ⟨X34r, hS34, hZ34, hown34⟩ := rebS (s := s) (vm0 := T15.vm) hS15 (by rw [e22]; exact (Nat.le_trans (Nat.le_refl _) E22.1)) X34 hs34 gr34 hZ15 hown15
  obtain ⟨b_34, rfl, N34q, c34_0, c34_1, c34_2, c34_3, c34_4, c34_5⟩ := hQ34
  have N34 := Fr.app N15 N34q
  have Zs34 : n0 ≤ T34.heap.size := Nat.le_trans Zs22 c34_2.1
  have ne_b1_b_34 : b1 ≠ b_34 := Nat.ne_of_lt (Nat.lt_of_lt_of_le f23.lt c34_0)
  have ne_b22_b_34 : b22 ≠ b_34 := Nat.ne_of_lt (Nat.lt_of_lt_of_le f28.lt c34_0)
  have f35 : Exa Z T34.heap b1 "com/example/headroom/headroom/ResourceWeights" := f23.keep c34_2
  have f36 : Fld Z T34.heap b1 "com/example/headroom/headroom/ResourceWeights" "cpu" "D" (.double (FP.i2d (own_wt i0))) := f24.keep c34_2 nin0
  have f37 : Fld Z T34.heap b1 "com/example/headroom/headroom/ResourceWeights" "directMemory" "D" (.double (FP.i2d (own_wt i1))) := f25.keep c34_2 nin0
  have f38 : Fld Z T34.heap b1 "com/example/headroom/headroom/ResourceWeights" "bandwidthIn" "D" (.double (FP.i2d (own_wt i2))) := f26.keep c34_2 nin0
  have f39 : Fld Z T34.heap b1 "com/example/headroom/headroom/ResourceWeights" "bandwidthOut" "D" (.double (FP.i2d (own_wt i3))) := f27.keep c34_2 nin0
  have f40 : Exa Z T34.heap b22 "com/example/headroom/headroom/BrokerUsage" := f28.keep c34_2
  have f41 : Fld Z T34.heap b22 "com/example/headroom/headroom/BrokerUsage" "cpu" "Lcom/example/headroom/headroom/ResourceUsage;" .null := f29.keep c34_2 nin0
  have f42 : Fld Z T34.heap b22 "com/example/headroom/headroom/BrokerUsage" "directMemory" "Lcom/example/headroom/headroom/ResourceUsage;" .null := f30.keep c34_2 nin0
  have f43 : Fld Z T34.heap b22 "com/example/headroom/headroom/BrokerUsage" "bandwidthIn" "Lcom/example/headroom/headroom/ResourceUsage;" .null := f31.keep c34_2 nin0
  have f44 : Fld Z T34.heap b22 "com/example/headroom/headroom/BrokerUsage" "bandwidthOut" "Lcom/example/headroom/headroom/ResourceUsage;" .null := f32.keep c34_2 nin0
  have f45 : Exa Z T34.heap b_34 "com/example/headroom/headroom/ResourceUsage" := c34_3
  have f46 : Fld Z T34.heap b_34 "com/example/headroom/headroom/ResourceUsage" "usage" "D" (.double (FP.i2d (own_u i0))) := c34_4
  have f47 : Fld Z T34.heap b_34 "com/example/headroom/headroom/ResourceUsage" "limit" "D" (.double (own_limv (own_lc i0))) := c34_5
  have sg48 : ∀ target, Steps p.tables e below (T34.setTop (mkF m 34 #[.val (.int i0), .val (.int i1), .val (.int i2), .val (.int i3), .val (.ref b1), .unset, .unset, .unset, .unset, .unset, .unset, .unset, .unset, .unset, .unset, .unset, .unset, .unset] [(.int i1), (.ref b_34), (.ref b22), (.ref b22)])) target → Steps p.tables e below (T34.setTop (mkF m 33 #[.val (.int i0), .val (.int i1), .val (.int i2), .val (.int i3), .val (.ref b1), .unset, .unset, .unset, .unset, .unset, .unset, .unset, .unset, .unset, .unset, .unset, .unset, .unset] [(.ref b_34), (.ref b22), (.ref b22)])) target := by
    intro target kt
    show Steps p.tables e below (T34.setTop (mkF m 33 #[.val (.int i0), .val (.int i1), .val (.int i2), .val (.int i3), .val (.ref b1), .unset, .unset, .unset, .unset, .unset, .unset, .unset, .unset, .unset, .unset, .unset, .unset, .unset] [(.ref b_34), (.ref b22), (.ref b22)])) _
    refine XS.iloadN X34r.here hx rfl (hb hby at_33) rfl ?_
    exact kt
  obtain ⟨_, _, ⟨T49, L49, k49, n49⟩, -, X49, hs49, gr49, ⟨Lc49, hQ49, l49, y49, z49⟩, st49⟩ := callSS X34r hx (y := (⟨"com/example/headroom/headroom/ResourceWeightsScorePinLaw", "usageOf", "(I)Lcom/example/headroom/headroom/ResourceUsage;"⟩ : MethodName)) hown34 (mvT hZ34 (hw _ (List.mem_of_getElem? (i := 53) rfl))) (mvT hZ34 (hw _ (List.mem_of_getElem? (i := 54) rfl))) (mvT hZ34 (hw _ (List.mem_of_getElem? (i := 5) rfl))) (mvT hZ34 (hw _ (List.mem_of_getElem? (i := 55) rfl))) (by decide) (backOfS (W := 3) (rm8 l Z a0 hw [] i1 T34.heap n0 Zs34 ) hZ34 (hw _ (List.mem_of_getElem? (i := 55) rfl)) (hw _ (List.mem_of_getElem? (i := 5) rfl)) (by decide) (by decide)) (g := (mkF m 34 #[.val (.int i0), .val (.int i1), .val (.int i2), .val (.int i3), .val (.ref b1), .unset, .unset, .unset, .unset, .unset, .unset, .unset, .unset, .unset, .unset, .unset, .unset, .unset] [(.int i1), (.ref b_34), (.ref b22), (.ref b22)])) rfl (by rw [hml]; rfl) (argsL := [(.int i1)]) (rest := [(.ref b_34), (.ref b22), (.ref b22)]) (lenOf pd_11 rfl) rfl (by show 2 * 0 + _ ≤ _; exact Nat.le_of_eq rfl) (hb hby at_34) (fun _ _ => ⟨rfl, rfl, (by decide : 15 + 5 ≤ _), (by decide : 226 + 50 ≤ _)⟩)
  dsimp only [Pt.U, Pt.locs, Pt.cells, Pt.slots] at X49 l49 y49 z49 st49 hQ49
  subst l49 y49 z49
  dsimp only [Pt.U] at hs49 gr49
  obtain ⟨X49r, hS49, hZ49, hown49⟩ := rebS (s := s) (vm0 := T34.vm) hS34 (Nat.le_refl _) X49 hs49 gr49 hZ34 hown34
  obtain ⟨b_49, rfl, N49q, c49_0, c49_1, c49_2, c49_3, c49_4, c49_5⟩ := hQ49
  have N49 := Fr.app N34 N49q
  have Zs49 : n0 ≤ T49.heap.size := Nat.le_trans Zs34 c49_2.1
  have ne_b1_b_49 : b1 ≠ b_49 := Nat.ne_of_lt (Nat.lt_of_lt_of_le f35.lt c49_0)
  have ne_b22_b_49 : b22 ≠ b_49 := Nat.ne_of_lt (Nat.lt_of_lt_of_le f40.lt c49_0)
  have ne_b_34_b_49 : b_34 ≠ b_49 := Nat.ne_of_lt (Nat.lt_of_lt_of_le f45.lt c49_0)
  have f50 : Exa Z T49.heap b1 "com/example/headroom/headroom/ResourceWeights" := f35.keep c49_2
  have f51 : Fld Z T49.heap b1 "com/example/headroom/headroom/ResourceWeights" "cpu" "D" (.double (FP.i2d (own_wt i0))) := f36.keep c49_2 nin0
  have f52 : Fld Z T49.heap b1 "com/example/headroom/headroom/ResourceWeights" "directMemory" "D" (.double (FP.i2d (own_wt i1))) := f37.keep c49_2 nin0
  have f53 : Fld Z T49.heap b1 "com/example/headroom/headroom/ResourceWeights" "bandwidthIn" "D" (.double (FP.i2d (own_wt i2))) := f38.keep c49_2 nin0
  have f54 : Fld Z T49.heap b1 "com/example/headroom/headroom/ResourceWeights" "bandwidthOut" "D" (.double (FP.i2d (own_wt i3))) := f39.keep c49_2 nin0
  have f55 : Exa Z T49.heap b22 "com/example/headroom/headroom/BrokerUsage" := f40.keep c49_2
  have f56 : Fld Z T49.heap b22 "com/example/headroom/headroom/BrokerUsage" "cpu" "Lcom/example/headroom/headroom/ResourceUsage;" .null := f41.keep c49_2 nin0
  have f57 : Fld Z T49.heap b22 "com/example/headroom/headroom/BrokerUsage" "directMemory" "Lcom/example/headroom/headroom/ResourceUsage;" .null := f42.keep c49_2 nin0
  have f58 : Fld Z T49.heap b22 "com/example/headroom/headroom/BrokerUsage" "bandwidthIn" "Lcom/example/headroom/headroom/ResourceUsage;" .null := f43.keep c49_2 nin0
  have f59 : Fld Z T49.heap b22 "com/example/headroom/headroom/BrokerUsage" "bandwidthOut" "Lcom/example/headroom/headroom/ResourceUsage;" .null := f44.keep c49_2 nin0
  have f60 : Exa Z T49.heap b_34 "com/example/headroom/headroom/ResourceUsage" := f45.keep c49_2
  have f61 : Fld Z T49.heap b_34 "com/example/headroom/headroom/ResourceUsage" "usage" "D" (.double (FP.i2d (own_u i0))) := f46.keep c49_2 nin0
  have f62 : Fld Z T49.heap b_34 "com/example/headroom/headroom/ResourceUsage" "limit" "D" (.double (own_limv (own_lc i0))) := f47.keep c49_2 nin0
  have f63 : Exa Z T49.heap b_49 "com/example/headroom/headroom/ResourceUsage" := c49_3
  have f64 : Fld Z T49.heap b_49 "com/example/headroom/headroom/ResourceUsage" "usage" "D" (.double (FP.i2d (own_u i1))) := c49_4
  have f65 : Fld Z T49.heap b_49 "com/example/headroom/headroom/ResourceUsage" "limit" "D" (.double (own_limv (own_lc i1))) := c49_5
  have sg66 : ∀ target, Steps p.tables e below (T49.setTop (mkF m 38 #[.val (.int i0), .val (.int i1), .val (.int i2), .val (.int i3), .val (.ref b1), .unset, .unset, .unset, .unset, .unset, .unset, .unset, .unset, .unset, .unset, .unset, .unset, .unset] [(.int i2), (.ref b_49), (.ref b_34), (.ref b22), (.ref b22)])) target → Steps p.tables e below (T49.setTop (mkF m 37 #[.val (.int i0), .val (.int i1), .val (.int i2), .val (.int i3), .val (.ref b1), .unset, .unset, .unset, .unset, .unset, .unset, .unset, .unset, .unset, .unset, .unset, .unset, .unset] [(.ref b_49), (.ref b_34), (.ref b22), (.ref b22)])) target := by
    intro target kt
    show Steps p.tables e below (T49.setTop (mkF m 37 #[.val (.int i0), .val (.int i1), .val (.int i2), .val (.int i3), .val (.ref b1), .unset, .unset, .unset, .unset, .unset, .unset, .unset, .unset, .unset, .unset, .unset, .unset, .unset] [(.ref b_49), (.ref b_34), (.ref b22), (.ref b22)])) _
    refine XS.iloadN X49r.here hx rfl (hb hby at_37) rfl ?_
    exact kt
  obtain ⟨_, _, ⟨T67, L67, k67, n67⟩, -, X67, hs67, gr67, ⟨Lc67, hQ67, l67, y67, z67⟩, st67⟩ := callSS X49r hx (y := (⟨"com/example/headroom/headroom/ResourceWeightsScorePinLaw", "usageOf", "(I)Lcom/example/headroom/headroom/ResourceUsage;"⟩ : MethodName)) hown49 (mvT hZ49 (hw _ (List.mem_of_getElem? (i := 53) rfl))) (mvT hZ49 (hw _ (List.mem_of_getElem? (i := 54) rfl))) (mvT hZ49 (hw _ (List.mem_of_getElem? (i := 5) rfl))) (mvT hZ49 (hw _ (List.mem_of_getElem? (i := 55) rfl))) (by decide) (backOfS (W := 4) (rm8 l Z a0 hw [] i2 T49.heap n0 Zs49 ) hZ49 (hw _ (List.mem_of_getElem? (i := 55) rfl)) (hw _ (List.mem_of_getElem? (i := 5) rfl)) (by decide) (by decide)) (g := (mkF m 38 #[.val (.int i0), .val (.int i1), .val (.int i2), .val (.int i3), .val (.ref b1), .unset, .unset, .unset, .unset, .unset, .unset, .unset, .unset, .unset, .unset, .unset, .unset, .unset] [(.int i2), (.ref b_49), (.ref b_34), (.ref b22), (.ref b22)])) rfl (by rw [hml]; rfl) (argsL := [(.int i2)]) (rest := [(.ref b_49), (.ref b_34), (.ref b22), (.ref b22)]) (lenOf pd_11 rfl) rfl (by show 2 * 0 + _ ≤ _; exact Nat.le_of_eq rfl) (hb hby at_38) (fun _ _ => ⟨rfl, rfl, (by decide : 20 + 5 ≤ _), (by decide : 276 + 50 ≤ _)⟩)
  dsimp only [Pt.U, Pt.locs, Pt.cells, Pt.slots] at X67 l67 y67 z67 st67 hQ67
  subst l67 y67 z67
  dsimp only [Pt.U] at hs67 gr67
  obtain ⟨X67r, hS67, hZ67, hown67⟩ := rebS (s := s) (vm0 := T49.vm) hS49 (Nat.le_refl _) X67 hs67 gr67 hZ49 hown49
  obtain ⟨b_67, rfl, N67q, c67_0, c67_1, c67_2, c67_3, c67_4, c67_5⟩ := hQ67
  have N67 := Fr.app N49 N67q
  have Zs67 : n0 ≤ T67.heap.size := Nat.le_trans Zs49 c67_2.1
  have ne_b1_b_67 : b1 ≠ b_67 := Nat.ne_of_lt (Nat.lt_of_lt_of_le f50.lt c67_0)
  have ne_b22_b_67 : b22 ≠ b_67 := Nat.ne_of_lt (Nat.lt_of_lt_of_le f55.lt c67_0)
  have ne_b_34_b_67 : b_34 ≠ b_67 := Nat.ne_of_lt (Nat.lt_of_lt_of_le f60.lt c67_0)
  have ne_b_49_b_67 : b_49 ≠ b_67 := Nat.ne_of_lt (Nat.lt_of_lt_of_le f63.lt c67_0)
  have f68 : Exa Z T67.heap b1 "com/example/headroom/headroom/ResourceWeights" := f50.keep c67_2
  have f69 : Fld Z T67.heap b1 "com/example/headroom/headroom/ResourceWeights" "cpu" "D" (.double (FP.i2d (own_wt i0))) := f51.keep c67_2 nin0
  have f70 : Fld Z T67.heap b1 "com/example/headroom/headroom/ResourceWeights" "directMemory" "D" (.double (FP.i2d (own_wt i1))) := f52.keep c67_2 nin0
  have f71 : Fld Z T67.heap b1 "com/example/headroom/headroom/ResourceWeights" "bandwidthIn" "D" (.double (FP.i2d (own_wt i2))) := f53.keep c67_2 nin0
  have f72 : Fld Z T67.heap b1 "com/example/headroom/headroom/ResourceWeights" "bandwidthOut" "D" (.double (FP.i2d (own_wt i3))) := f54.keep c67_2 nin0
  have f73 : Exa Z T67.heap b22 "com/example/headroom/headroom/BrokerUsage" := f55.keep c67_2
  have f74 : Fld Z T67.heap b22 "com/example/headroom/headroom/BrokerUsage" "cpu" "Lcom/example/headroom/headroom/ResourceUsage;" .null := f56.keep c67_2 nin0
  have f75 : Fld Z T67.heap b22 "com/example/headroom/headroom/BrokerUsage" "directMemory" "Lcom/example/headroom/headroom/ResourceUsage;" .null := f57.keep c67_2 nin0
  have f76 : Fld Z T67.heap b22 "com/example/headroom/headroom/BrokerUsage" "bandwidthIn" "Lcom/example/headroom/headroom/ResourceUsage;" .null := f58.keep c67_2 nin0
  have f77 : Fld Z T67.heap b22 "com/example/headroom/headroom/BrokerUsage" "bandwidthOut" "Lcom/example/headroom/headroom/ResourceUsage;" .null := f59.keep c67_2 nin0
  have f78 : Exa Z T67.heap b_34 "com/example/headroom/headroom/ResourceUsage" := f60.keep c67_2
  have f79 : Fld Z T67.heap b_34 "com/example/headroom/headroom/ResourceUsage" "usage" "D" (.double (FP.i2d (own_u i0))) := f61.keep c67_2 nin0
  have f80 : Fld Z T67.heap b_34 "com/example/headroom/headroom/ResourceUsage" "limit" "D" (.double (own_limv (own_lc i0))) := f62.keep c67_2 nin0
  have f81 : Exa Z T67.heap b_49 "com/example/headroom/headroom/ResourceUsage" := f63.keep c67_2
  have f82 : Fld Z T67.heap b_49 "com/example/headroom/headroom/ResourceUsage" "usage" "D" (.double (FP.i2d (own_u i1))) := f64.keep c67_2 nin0
  have f83 : Fld Z T67.heap b_49 "com/example/headroom/headroom/ResourceUsage" "limit" "D" (.double (own_limv (own_lc i1))) := f65.keep c67_2 nin0
  have f84 : Exa Z T67.heap b_67 "com/example/headroom/headroom/ResourceUsage" := c67_3
  have f85 : Fld Z T67.heap b_67 "com/example/headroom/headroom/ResourceUsage" "usage" "D" (.double (FP.i2d (own_u i2))) := c67_4
  have f86 : Fld Z T67.heap b_67 "com/example/headroom/headroom/ResourceUsage" "limit" "D" (.double (own_limv (own_lc i2))) := c67_5
  have sg87 : ∀ target, Steps p.tables e below (T67.setTop (mkF m 42 #[.val (.int i0), .val (.int i1), .val (.int i2), .val (.int i3), .val (.ref b1), .unset, .unset, .unset, .unset, .unset, .unset, .unset, .unset, .unset, .unset, .unset, .unset, .unset] [(.int i3), (.ref b_67), (.ref b_49), (.ref b_34), (.ref b22), (.ref b22)])) target → Steps p.tables e below (T67.setTop (mkF m 41 #[.val (.int i0), .val (.int i1), .val (.int i2), .val (.int i3), .val (.ref b1), .unset, .unset, .unset, .unset, .unset, .unset, .unset, .unset, .unset, .unset, .unset, .unset, .unset] [(.ref b_67), (.ref b_49), (.ref b_34), (.ref b22), (.ref b22)])) target := by
    intro target kt
    show Steps p.tables e below (T67.setTop (mkF m 41 #[.val (.int i0), .val (.int i1), .val (.int i2), .val (.int i3), .val (.ref b1), .unset, .unset, .unset, .unset, .unset, .unset, .unset, .unset, .unset, .unset, .unset, .unset, .unset] [(.ref b_67), (.ref b_49), (.ref b_34), (.ref b22), (.ref b22)])) _
    refine XS.iloadN X67r.here hx rfl (hb hby at_41) rfl ?_
    exact kt
  obtain ⟨_, _, ⟨T88, L88, k88, n88⟩, -, X88, hs88, gr88, ⟨Lc88, hQ88, l88, y88, z88⟩, st88⟩ := callSS X67r hx (y := (⟨"com/example/headroom/headroom/ResourceWeightsScorePinLaw", "usageOf", "(I)Lcom/example/headroom/headroom/ResourceUsage;"⟩ : MethodName)) hown67 (mvT hZ67 (hw _ (List.mem_of_getElem? (i := 53) rfl))) (mvT hZ67 (hw _ (List.mem_of_getElem? (i := 54) rfl))) (mvT hZ67 (hw _ (List.mem_of_getElem? (i := 5) rfl))) (mvT hZ67 (hw _ (List.mem_of_getElem? (i := 55) rfl))) (by decide) (backOfS (W := 5) (rm8 l Z a0 hw [] i3 T67.heap n0 Zs67 ) hZ67 (hw _ (List.mem_of_getElem? (i := 55) rfl)) (hw _ (List.mem_of_getElem? (i := 5) rfl)) (by decide) (by decide)) (g := (mkF m 42 #[.val (.int i0), .val (.int i1), .val (.int i2), .val (.int i3), .val (.ref b1), .unset, .unset, .unset, .unset, .unset, .unset, .unset, .unset, .unset, .unset, .unset, .unset, .unset] [(.int i3), (.ref b_67), (.ref b_49), (.ref b_34), (.ref b22), (.ref b22)])) rfl (by rw [hml]; rfl) (argsL := [(.int i3)]) (rest := [(.ref b_67), (.ref b_49), (.ref b_34), (.ref b22), (.ref b22)]) (lenOf pd_11 rfl) rfl (by show 2 * 0 + _ ≤ _; exact Nat.le_of_eq rfl) (hb hby at_42) (fun _ _ => ⟨rfl, rfl, (by decide : 25 + 5 ≤ _), (by decide : 326 + 50 ≤ _)⟩)
  dsimp only [Pt.U, Pt.locs, Pt.cells, Pt.slots] at X88 l88 y88 z88 st88 hQ88
  subst l88 y88 z88
  dsimp only [Pt.U] at hs88 gr88
  obtain ⟨X88r, hS88, hZ88, hown88⟩ := rebS (s := s) (vm0 := T67.vm) hS67 (Nat.le_refl _) X88 hs88 gr88 hZ67 hown67
  obtain ⟨b_88, rfl, N88q, c88_0, c88_1, c88_2, c88_3, c88_4, c88_5⟩ := hQ88
  have N88 := Fr.app N67 N88q
  have Zs88 : n0 ≤ T88.heap.size := Nat.le_trans Zs67 c88_2.1
  have ne_b1_b_88 : b1 ≠ b_88 := Nat.ne_of_lt (Nat.lt_of_lt_of_le f68.lt c88_0)
  have ne_b22_b_88 : b22 ≠ b_88 := Nat.ne_of_lt (Nat.lt_of_lt_of_le f73.lt c88_0)
  have ne_b_34_b_88 : b_34 ≠ b_88 := Nat.ne_of_lt (Nat.lt_of_lt_of_le f78.lt c88_0)
  have ne_b_49_b_88 : b_49 ≠ b_88 := Nat.ne_of_lt (Nat.lt_of_lt_of_le f81.lt c88_0)
  have ne_b_67_b_88 : b_67 ≠ b_88 := Nat.ne_of_lt (Nat.lt_of_lt_of_le f84.lt c88_0)
  have f89 : Exa Z T88.heap b1 "com/example/headroom/headroom/ResourceWeights" := f68.keep c88_2
  have f90 : Fld Z T88.heap b1 "com/example/headroom/headroom/ResourceWeights" "cpu" "D" (.double (FP.i2d (own_wt i0))) := f69.keep c88_2 nin0
  have f91 : Fld Z T88.heap b1 "com/example/headroom/headroom/ResourceWeights" "directMemory" "D" (.double (FP.i2d (own_wt i1))) := f70.keep c88_2 nin0
  have f92 : Fld Z T88.heap b1 "com/example/headroom/headroom/ResourceWeights" "bandwidthIn" "D" (.double (FP.i2d (own_wt i2))) := f71.keep c88_2 nin0
  have f93 : Fld Z T88.heap b1 "com/example/headroom/headroom/ResourceWeights" "bandwidthOut" "D" (.double (FP.i2d (own_wt i3))) := f72.keep c88_2 nin0
  have f94 : Exa Z T88.heap b22 "com/example/headroom/headroom/BrokerUsage" := f73.keep c88_2
  have f95 : Fld Z T88.heap b22 "com/example/headroom/headroom/BrokerUsage" "cpu" "Lcom/example/headroom/headroom/ResourceUsage;" .null := f74.keep c88_2 nin0
  have f96 : Fld Z T88.heap b22 "com/example/headroom/headroom/BrokerUsage" "directMemory" "Lcom/example/headroom/headroom/ResourceUsage;" .null := f75.keep c88_2 nin0
  have f97 : Fld Z T88.heap b22 "com/example/headroom/headroom/BrokerUsage" "bandwidthIn" "Lcom/example/headroom/headroom/ResourceUsage;" .null := f76.keep c88_2 nin0
  have f98 : Fld Z T88.heap b22 "com/example/headroom/headroom/BrokerUsage" "bandwidthOut" "Lcom/example/headroom/headroom/ResourceUsage;" .null := f77.keep c88_2 nin0
  have f99 : Exa Z T88.heap b_34 "com/example/headroom/headroom/ResourceUsage" := f78.keep c88_2
  have f100 : Fld Z T88.heap b_34 "com/example/headroom/headroom/ResourceUsage" "usage" "D" (.double (FP.i2d (own_u i0))) := f79.keep c88_2 nin0
  have f101 : Fld Z T88.heap b_34 "com/example/headroom/headroom/ResourceUsage" "limit" "D" (.double (own_limv (own_lc i0))) := f80.keep c88_2 nin0
  have f102 : Exa Z T88.heap b_49 "com/example/headroom/headroom/ResourceUsage" := f81.keep c88_2
  have f103 : Fld Z T88.heap b_49 "com/example/headroom/headroom/ResourceUsage" "usage" "D" (.double (FP.i2d (own_u i1))) := f82.keep c88_2 nin0
  have f104 : Fld Z T88.heap b_49 "com/example/headroom/headroom/ResourceUsage" "limit" "D" (.double (own_limv (own_lc i1))) := f83.keep c88_2 nin0
  have f105 : Exa Z T88.heap b_67 "com/example/headroom/headroom/ResourceUsage" := f84.keep c88_2
  have f106 : Fld Z T88.heap b_67 "com/example/headroom/headroom/ResourceUsage" "usage" "D" (.double (FP.i2d (own_u i2))) := f85.keep c88_2 nin0
  have f107 : Fld Z T88.heap b_67 "com/example/headroom/headroom/ResourceUsage" "limit" "D" (.double (own_limv (own_lc i2))) := f86.keep c88_2 nin0
  have f108 : Exa Z T88.heap b_88 "com/example/headroom/headroom/ResourceUsage" := c88_3
  have f109 : Fld Z T88.heap b_88 "com/example/headroom/headroom/ResourceUsage" "usage" "D" (.double (FP.i2d (own_u i3))) := c88_4
  have f110 : Fld Z T88.heap b_88 "com/example/headroom/headroom/ResourceUsage" "limit" "D" (.double (own_limv (own_lc i3))) := c88_5
  obtain ⟨_, _, ⟨T111, L111, k111, n111⟩, -, X111, hs111, gr111, ⟨Lc111, hQ111, l111, y111, z111⟩, st111⟩ := X88r.specialBackS hx (y := (⟨"com/example/headroom/headroom/BrokerUsage", "<init>", "(Lcom/example/headroom/headroom/ResourceUsage;Lcom/example/headroom/headroom/ResourceUsage;Lcom/example/headroom/headroom/ResourceUsage;Lcom/example/headroom/headroom/ResourceUsage;)V"⟩ : MethodName)) rfl hown88 (mvT hZ88 (hw _ (List.mem_of_getElem? (i := 74) rfl))) (mvT hZ88 (hw _ (List.mem_of_getElem? (i := 75) rfl))) (mvT hZ88 (hw _ (List.mem_of_getElem? (i := 76) rfl))) (by decide) (backOfS (W := 1) (rm11 l Z a0 hw [] b22 b_34 b_49 b_67 b_88 T88.heap n0 Zs88 f94 f95 f96 f97 f98 g_b22) hZ88 (hw _ (List.mem_of_getElem? (i := 76) rfl)) (hw _ (List.mem_of_getElem? (i := 52) rfl)) (by decide) (by decide)) (g := (mkF m 45 #[.val (.int i0), .val (.int i1), .val (.int i2), .val (.int i3), .val (.ref b1), .unset, .unset, .unset, .unset, .unset, .unset, .unset, .unset, .unset, .unset, .unset, .unset, .unset] [(.ref b_88), (.ref b_67), (.ref b_49), (.ref b_34), (.ref b22), (.ref b22)])) rfl (by rw [hml]; rfl) (Steps.refl _) (a := b22) (argsL := [(.ref b_34), (.ref b_49), (.ref b_67), (.ref b_88)]) (rest := [(.ref b22)]) (lenOf pd_15 rfl) rfl (by show 2 * 0 + _ ≤ _; exact Nat.le_of_eq rfl) (hb hby at_45) (fun _ _ => ⟨rfl, rfl, (by decide : 30 + 8 ≤ _), (by decide : 376 + 168 ≤ _)⟩)
  dsimp only [Pt.U, Pt.locs, Pt.cells, Pt.slots] at X111 l111 y111 z111 st111 hQ111
  subst l111 y111 z111
  dsimp only [Pt.U] at hs111 gr111
  obtain ⟨X111r, hS111, hZ111, hown111⟩ := rebS (s := s) (vm0 := T88.vm) hS88 (Nat.le_refl _) X111 hs111 gr111 hZ88 hown88
  obtain ⟨rfl, N111q, c111_0, c111_1, c111_2, c111_3, c111_4, c111_5⟩ := hQ111
  have N111 := Fr.app N88 N111q
  have Zs111 : n0 ≤ T111.heap.size := Nat.le_trans Zs88 c111_0.1
  have f112 : Exa Z T111.heap b1 "com/example/headroom/headroom/ResourceWeights" := f89.keep c111_0
  have f113 : Fld Z T111.heap b1 "com/example/headroom/headroom/ResourceWeights" "cpu" "D" (.double (FP.i2d (own_wt i0))) := f90.keep c111_0 (ninS ne_b1_b22 nin0)
  have f114 : Fld Z T111.heap b1 "com/example/headroom/headroom/ResourceWeights" "directMemory" "D" (.double (FP.i2d (own_wt i1))) := f91.keep c111_0 (ninS ne_b1_b22 nin0)
  have f115 : Fld Z T111.heap b1 "com/example/headroom/headroom/ResourceWeights" "bandwidthIn" "D" (.double (FP.i2d (own_wt i2))) := f92.keep c111_0 (ninS ne_b1_b22 nin0)
  have f116 : Fld Z T111.heap b1 "com/example/headroom/headroom/ResourceWeights" "bandwidthOut" "D" (.double (FP.i2d (own_wt i3))) := f93.keep c111_0 (ninS ne_b1_b22 nin0)
  have f117 : Exa Z T111.heap b_34 "com/example/headroom/headroom/ResourceUsage" := f99.keep c111_0
  have f118 : Fld Z T111.heap b_34 "com/example/headroom/headroom/ResourceUsage" "usage" "D" (.double (FP.i2d (own_u i0))) := f100.keep c111_0 (ninS (Ne.symm ne_b22_b_34) nin0)
  have f119 : Fld Z T111.heap b_34 "com/example/headroom/headroom/ResourceUsage" "limit" "D" (.double (own_limv (own_lc i0))) := f101.keep c111_0 (ninS (Ne.symm ne_b22_b_34) nin0)
  have f120 : Exa Z T111.heap b_49 "com/example/headroom/headroom/ResourceUsage" := f102.keep c111_0
  have f121 : Fld Z T111.heap b_49 "com/example/headroom/headroom/ResourceUsage" "usage" "D" (.double (FP.i2d (own_u i1))) := f103.keep c111_0 (ninS (Ne.symm ne_b22_b_49) nin0)
  have f122 : Fld Z T111.heap b_49 "com/example/headroom/headroom/ResourceUsage" "limit" "D" (.double (own_limv (own_lc i1))) := f104.keep c111_0 (ninS (Ne.symm ne_b22_b_49) nin0)
  have f123 : Exa Z T111.heap b_67 "com/example/headroom/headroom/ResourceUsage" := f105.keep c111_0
  have f124 : Fld Z T111.heap b_67 "com/example/headroom/headroom/ResourceUsage" "usage" "D" (.double (FP.i2d (own_u i2))) := f106.keep c111_0 (ninS (Ne.symm ne_b22_b_67) nin0)
  have f125 : Fld Z T111.heap b_67 "com/example/headroom/headroom/ResourceUsage" "limit" "D" (.double (own_limv (own_lc i2))) := f107.keep c111_0 (ninS (Ne.symm ne_b22_b_67) nin0)
  have f126 : Exa Z T111.heap b_88 "com/example/headroom/headroom/ResourceUsage" := f108.keep c111_0
  have f127 : Fld Z T111.heap b_88 "com/example/headroom/headroom/ResourceUsage" "usage" "D" (.double (FP.i2d (own_u i3))) := f109.keep c111_0 (ninS (Ne.symm ne_b22_b_88) nin0)
  have f128 : Fld Z T111.heap b_88 "com/example/headroom/headroom/ResourceUsage" "limit" "D" (.double (own_limv (own_lc i3))) := f110.keep c111_0 (ninS (Ne.symm ne_b22_b_88) nin0)
  have f129 : Exa Z T111.heap b22 "com/example/headroom/headroom/BrokerUsage" := c111_1
  have f130 : Fld Z T111.heap b22 "com/example/headroom/headroom/BrokerUsage" "cpu" "Lcom/example/headroom/headroom/ResourceUsage;" (.ref b_34) := c111_2
  have f131 : Fld Z T111.heap b22 "com/example/headroom/headroom/BrokerUsage" "directMemory" "Lcom/example/headroom/headroom/ResourceUsage;" (.ref b_49) := c111_3
  have f132 : Fld Z T111.heap b22 "com/example/headroom/headroom/BrokerUsage" "bandwidthIn" "Lcom/example/headroom/headroom/ResourceUsage;" (.ref b_67) := c111_4
  have f133 : Fld Z T111.heap b22 "com/example/headroom/headroom/BrokerUsage" "bandwidthOut" "Lcom/example/headroom/headroom/ResourceUsage;" (.ref b_88) := c111_5
  have sg134 : ∀ target, Steps p.tables e below (T111.setTop (mkF m 54 #[.val (.int i0), .val (.int i1), .val (.int i2), .val (.int i3), .val (.ref b1), .val (.ref b22), .unset, .unset, .unset, .unset, .unset, .unset, .unset, .unset, .unset, .unset, .unset, .unset] [(.ref b22), (.ref b1)])) target → Steps p.tables e below (T111.setTop (mkF m 48 #[.val (.int i0), .val (.int i1), .val (.int i2), .val (.int i3), .val (.ref b1), .unset, .unset, .unset, .unset, .unset, .unset, .unset, .unset, .unset, .unset, .unset, .unset, .unset] [(.ref b22)])) target := by
    intro target kt
    show Steps p.tables e below (T111.setTop (mkF m 48 #[.val (.int i0), .val (.int i1), .val (.int i2), .val (.int i3), .val (.ref b1), .unset, .unset, .unset, .unset, .unset, .unset, .unset, .unset, .unset, .unset, .unset, .unset, .unset] [(.ref b22)])) _
    refine XS.astore X111r.here hx rfl (hb hby at_48) rfl rfl (l' := #[.val (.int i0), .val (.int i1), .val (.int i2), .val (.int i3), .val (.ref b1), .val (.ref b22), .unset, .unset, .unset, .unset, .unset, .unset, .unset, .unset, .unset, .unset, .unset, .unset]) rfl ?_
    show Steps p.tables e below (T111.setTop (mkF m 50 #[.val (.int i0), .val (.int i1), .val (.int i2), .val (.int i3), .val (.ref b1), .val (.ref b22), .unset, .unset, .unset, .unset, .unset, .unset, .unset, .unset, .unset, .unset, .unset, .unset] [])) _
    refine XS.aload X111r.here hx rfl (hb hby at_50) rfl rfl ?_
    show Steps p.tables e below (T111.setTop (mkF m 52 #[.val (.int i0), .val (.int i1), .val (.int i2), .val (.int i3), .val (.ref b1), .val (.ref b22), .unset, .unset, .unset, .unset, .unset, .unset, .unset, .unset, .unset, .unset, .unset, .unset] [(.ref b1)])) _
    refine XS.aload X111r.here hx rfl (hb hby at_52) rfl rfl ?_
    exact kt
  obtain ⟨cq135, kq135, q135a, q135b, q135c⟩ := isOf hZ111 rfl f112
  obtain ⟨_, _, ⟨T135, L135, k135, n135⟩, -, X135, hs135, gr135, ⟨Lc135, hQ135, l135, y135, z135⟩, st135⟩ := X111r.virtualBackS hx (y := (⟨"com/example/headroom/headroom/ResourceWeights", "score", "(Lcom/example/headroom/headroom/BrokerUsage;)D"⟩ : MethodName)) (z := (⟨"com/example/headroom/headroom/ResourceWeights", "score", "(Lcom/example/headroom/headroom/BrokerUsage;)D"⟩ : MethodName)) hown111 (mvT hZ111 (hw _ (List.mem_of_getElem? (i := 94) rfl))) (mvT hZ111 (hw _ (List.mem_of_getElem? (i := 95) rfl))) (notFace_of_selects (args := #[]) (mvT hZ111 (hw _ (List.mem_of_getElem? (i := 97) rfl)))) (mvT hZ111 (hw _ (List.mem_of_getElem? (i := 97) rfl))) (mvT hZ111 (hw _ (List.mem_of_getElem? (i := 96) rfl))) (by decide) (backOfS (W := 0) (rm13 l Z a0 hw [] b1 b22 (FP.i2d (own_u i0)) (own_limv (own_lc i0)) (FP.i2d (own_wt i0)) (FP.i2d (own_u i1)) (own_limv (own_lc i1)) (FP.i2d (own_wt i1)) (FP.i2d (own_u i2)) (own_limv (own_lc i2)) (FP.i2d (own_wt i2)) (FP.i2d (own_u i3)) (own_limv (own_lc i3)) (FP.i2d (own_wt i3)) b_34 b_49 b_67 b_88 T111.heap n0 Zs111 f129 f113 f114 f115 f116 f130 f131 f132 f133 f117 f118 f119 (own_nn1 (own_lc_rng i0)) (own_nn2 i0) (own_R_nn R1) f120 f121 f122 (own_nn1 (own_lc_rng i1)) (own_nn2 i1) (own_R_nn R2) f123 f124 f125 (own_nn1 (own_lc_rng i2)) (own_nn2 i2) (own_R_nn R3) f126 f127 f128 (own_nn1 (own_lc_rng i3)) (own_nn2 i3) (own_R_nn R4) (own_sc RM)) hZ111 (hw _ (List.mem_of_getElem? (i := 98) rfl)) (hw _ (List.mem_of_getElem? (i := 2) rfl)) (by decide) (by decide)) q135a q135c (g := (mkF m 54 #[.val (.int i0), .val (.int i1), .val (.int i2), .val (.int i3), .val (.ref b1), .val (.ref b22), .unset, .unset, .unset, .unset, .unset, .unset, .unset, .unset, .unset, .unset, .unset, .unset] [(.ref b22), (.ref b1)])) rfl (by rw [hml]; rfl) (Steps.refl _) (argsL := [(.ref b22)]) (rest := []) (lenOf pd_13 rfl) rfl (by show 2 * 0 + _ ≤ _; exact Nat.le_of_eq rfl) (hb hby at_54) (fun _ _ => ⟨rfl, rfl, (by decide : 38 + 2 ≤ _), (by decide : 544 + 28 ≤ _)⟩)
  dsimp only [Pt.U, Pt.locs, Pt.cells, Pt.slots] at X135 l135 y135 z135 st135 hQ135
  subst l135 y135 z135
  dsimp only [Pt.U] at hs135 gr135
  obtain ⟨X135r, hS135, hZ135, hown135⟩ := rebS (s := s) (vm0 := T111.vm) hS111 (Nat.le_refl _) X135 hs135 gr135 hZ111 hown111
  obtain ⟨rfl, N135q, c135_0⟩ := hQ135
  have N135 := Fr.app N111 N135q
  have Zs135 : n0 ≤ T135.heap.size := Nat.le_trans Zs111 c135_0.1
  have f136 : Exa Z T135.heap b1 "com/example/headroom/headroom/ResourceWeights" := f112.keep c135_0
  have f137 : Fld Z T135.heap b1 "com/example/headroom/headroom/ResourceWeights" "cpu" "D" (.double (FP.i2d (own_wt i0))) := f113.keep c135_0 nin0
  have f138 : Fld Z T135.heap b1 "com/example/headroom/headroom/ResourceWeights" "directMemory" "D" (.double (FP.i2d (own_wt i1))) := f114.keep c135_0 nin0
  have f139 : Fld Z T135.heap b1 "com/example/headroom/headroom/ResourceWeights" "bandwidthIn" "D" (.double (FP.i2d (own_wt i2))) := f115.keep c135_0 nin0
  have f140 : Fld Z T135.heap b1 "com/example/headroom/headroom/ResourceWeights" "bandwidthOut" "D" (.double (FP.i2d (own_wt i3))) := f116.keep c135_0 nin0
  have f141 : Exa Z T135.heap b_34 "com/example/headroom/headroom/ResourceUsage" := f117.keep c135_0
  have f142 : Fld Z T135.heap b_34 "com/example/headroom/headroom/ResourceUsage" "usage" "D" (.double (FP.i2d (own_u i0))) := f118.keep c135_0 nin0
  have f143 : Fld Z T135.heap b_34 "com/example/headroom/headroom/ResourceUsage" "limit" "D" (.double (own_limv (own_lc i0))) := f119.keep c135_0 nin0
  have f144 : Exa Z T135.heap b_49 "com/example/headroom/headroom/ResourceUsage" := f120.keep c135_0
  have f145 : Fld Z T135.heap b_49 "com/example/headroom/headroom/ResourceUsage" "usage" "D" (.double (FP.i2d (own_u i1))) := f121.keep c135_0 nin0
  have f146 : Fld Z T135.heap b_49 "com/example/headroom/headroom/ResourceUsage" "limit" "D" (.double (own_limv (own_lc i1))) := f122.keep c135_0 nin0
  have f147 : Exa Z T135.heap b_67 "com/example/headroom/headroom/ResourceUsage" := f123.keep c135_0
  have f148 : Fld Z T135.heap b_67 "com/example/headroom/headroom/ResourceUsage" "usage" "D" (.double (FP.i2d (own_u i2))) := f124.keep c135_0 nin0
  have f149 : Fld Z T135.heap b_67 "com/example/headroom/headroom/ResourceUsage" "limit" "D" (.double (own_limv (own_lc i2))) := f125.keep c135_0 nin0
  have f150 : Exa Z T135.heap b_88 "com/example/headroom/headroom/ResourceUsage" := f126.keep c135_0
  have f151 : Fld Z T135.heap b_88 "com/example/headroom/headroom/ResourceUsage" "usage" "D" (.double (FP.i2d (own_u i3))) := f127.keep c135_0 nin0
  have f152 : Fld Z T135.heap b_88 "com/example/headroom/headroom/ResourceUsage" "limit" "D" (.double (own_limv (own_lc i3))) := f128.keep c135_0 nin0
  have f153 : Exa Z T135.heap b22 "com/example/headroom/headroom/BrokerUsage" := f129.keep c135_0
  have f154 : Fld Z T135.heap b22 "com/example/headroom/headroom/BrokerUsage" "cpu" "Lcom/example/headroom/headroom/ResourceUsage;" (.ref b_34) := f130.keep c135_0 nin0
  have f155 : Fld Z T135.heap b22 "com/example/headroom/headroom/BrokerUsage" "directMemory" "Lcom/example/headroom/headroom/ResourceUsage;" (.ref b_49) := f131.keep c135_0 nin0
  have f156 : Fld Z T135.heap b22 "com/example/headroom/headroom/BrokerUsage" "bandwidthIn" "Lcom/example/headroom/headroom/ResourceUsage;" (.ref b_67) := f132.keep c135_0 nin0
  have f157 : Fld Z T135.heap b22 "com/example/headroom/headroom/BrokerUsage" "bandwidthOut" "Lcom/example/headroom/headroom/ResourceUsage;" (.ref b_88) := f133.keep c135_0 nin0
  have sg158 : ∀ target, Steps p.tables e below (T135.setTop (mkF m 60 #[.val (.int i0), .val (.int i1), .val (.int i2), .val (.int i3), .val (.ref b1), .val (.ref b22), .val (.double (FP.dmul (4636737291354636288 : UInt64) (own_pk (own_pk (own_sh (FP.i2d (own_u i0)) (own_limv (own_lc i0)) (FP.i2d (own_wt i0))) (own_sh (FP.i2d (own_u i1)) (own_limv (own_lc i1)) (FP.i2d (own_wt i1)))) (own_pk (own_sh (FP.i2d (own_u i2)) (own_limv (own_lc i2)) (FP.i2d (own_wt i2))) (own_sh (FP.i2d (own_u i3)) (own_limv (own_lc i3)) (FP.i2d (own_wt i3))))))), .second, .unset, .unset, .unset, .unset, .unset, .unset, .unset, .unset, .unset, .unset] [(.int i0)])) target → Steps p.tables e below (T135.setTop (mkF m 57 #[.val (.int i0), .val (.int i1), .val (.int i2), .val (.int i3), .val (.ref b1), .val (.ref b22), .unset, .unset, .unset, .unset, .unset, .unset, .unset, .unset, .unset, .unset, .unset, .unset] [(.double (FP.dmul (4636737291354636288 : UInt64) (own_pk (own_pk (own_sh (FP.i2d (own_u i0)) (own_limv (own_lc i0)) (FP.i2d (own_wt i0))) (own_sh (FP.i2d (own_u i1)) (own_limv (own_lc i1)) (FP.i2d (own_wt i1)))) (own_pk (own_sh (FP.i2d (own_u i2)) (own_limv (own_lc i2)) (FP.i2d (own_wt i2))) (own_sh (FP.i2d (own_u i3)) (own_limv (own_lc i3)) (FP.i2d (own_wt i3)))))))])) target := by
    intro target kt
    show Steps p.tables e below (T135.setTop (mkF m 57 #[.val (.int i0), .val (.int i1), .val (.int i2), .val (.int i3), .val (.ref b1), .val (.ref b22), .unset, .unset, .unset, .unset, .unset, .unset, .unset, .unset, .unset, .unset, .unset, .unset] [(.double (FP.dmul (4636737291354636288 : UInt64) (own_pk (own_pk (own_sh (FP.i2d (own_u i0)) (own_limv (own_lc i0)) (FP.i2d (own_wt i0))) (own_sh (FP.i2d (own_u i1)) (own_limv (own_lc i1)) (FP.i2d (own_wt i1)))) (own_pk (own_sh (FP.i2d (own_u i2)) (own_limv (own_lc i2)) (FP.i2d (own_wt i2))) (own_sh (FP.i2d (own_u i3)) (own_limv (own_lc i3)) (FP.i2d (own_wt i3)))))))])) _
    refine XS.dstore X135r.here hx rfl (hb hby at_57) rfl (l' := #[.val (.int i0), .val (.int i1), .val (.int i2), .val (.int i3), .val (.ref b1), .val (.ref b22), .val (.double (FP.dmul (4636737291354636288 : UInt64) (own_pk (own_pk (own_sh (FP.i2d (own_u i0)) (own_limv (own_lc i0)) (FP.i2d (own_wt i0))) (own_sh (FP.i2d (own_u i1)) (own_limv (own_lc i1)) (FP.i2d (own_wt i1)))) (own_pk (own_sh (FP.i2d (own_u i2)) (own_limv (own_lc i2)) (FP.i2d (own_wt i2))) (own_sh (FP.i2d (own_u i3)) (own_limv (own_lc i3)) (FP.i2d (own_wt i3))))))), .second, .unset, .unset, .unset, .unset, .unset, .unset, .unset, .unset, .unset, .unset]) rfl ?_
    show Steps p.tables e below (T135.setTop (mkF m 59 #[.val (.int i0), .val (.int i1), .val (.int i2), .val (.int i3), .val (.ref b1), .val (.ref b22), .val (.double (FP.dmul (4636737291354636288 : UInt64) (own_pk (own_pk (own_sh (FP.i2d (own_u i0)) (own_limv (own_lc i0)) (FP.i2d (own_wt i0))) (own_sh (FP.i2d (own_u i1)) (own_limv (own_lc i1)) (FP.i2d (own_wt i1)))) (own_pk (own_sh (FP.i2d (own_u i2)) (own_limv (own_lc i2)) (FP.i2d (own_wt i2))) (own_sh (FP.i2d (own_u i3)) (own_limv (own_lc i3)) (FP.i2d (own_wt i3))))))), .second, .unset, .unset, .unset, .unset, .unset, .unset, .unset, .unset, .unset, .unset] [])) _
    refine XS.iloadN X135r.here hx rfl (hb hby at_59) rfl ?_
    exact kt
  obtain ⟨_, _, ⟨T159, L159, k159, n159⟩, -, X159, ⟨Lc159, hQ159, l159, y159, z159⟩, st159⟩ := Jvm.LawKit.callS X135r hx (y := (⟨"com/example/headroom/headroom/ResourceWeightsScorePinLaw", "scaledShare", "(I)J"⟩ : MethodName)) hown135 (mvT hZ135 (hw _ (List.mem_of_getElem? (i := 128) rfl))) (mvT hZ135 (hw _ (List.mem_of_getElem? (i := 129) rfl))) (mvT hZ135 (hw _ (List.mem_of_getElem? (i := 5) rfl))) (mvT hZ135 (hw _ (List.mem_of_getElem? (i := 130) rfl))) (by decide) (backOf (W := 0) (rm20 l Z a0 hw [] i0 T135.heap n0 Zs135 ) hZ135 (hw _ (List.mem_of_getElem? (i := 130) rfl)) (hw _ (List.mem_of_getElem? (i := 5) rfl)) (by decide) (by decide)) (g := (mkF m 60 #[.val (.int i0), .val (.int i1), .val (.int i2), .val (.int i3), .val (.ref b1), .val (.ref b22), .val (.double (FP.dmul (4636737291354636288 : UInt64) (own_pk (own_pk (own_sh (FP.i2d (own_u i0)) (own_limv (own_lc i0)) (FP.i2d (own_wt i0))) (own_sh (FP.i2d (own_u i1)) (own_limv (own_lc i1)) (FP.i2d (own_wt i1)))) (own_pk (own_sh (FP.i2d (own_u i2)) (own_limv (own_lc i2)) (FP.i2d (own_wt i2))) (own_sh (FP.i2d (own_u i3)) (own_limv (own_lc i3)) (FP.i2d (own_wt i3))))))), .second, .unset, .unset, .unset, .unset, .unset, .unset, .unset, .unset, .unset, .unset] [(.int i0)])) rfl (by rw [hml]; rfl) (argsL := [(.int i0)]) (rest := []) (lenOf pd_10 rfl) rfl (by show 2 * 0 + _ ≤ _; exact Nat.le_of_eq rfl) (hb hby at_60) (fun _ _ => ⟨rfl, rfl, (by decide : 40 + 0 ≤ _), (by decide : 572 + 0 ≤ _)⟩)
  dsimp only [Pt.U, Pt.locs, Pt.cells, Pt.slots] at X159 l159 y159 z159 st159 hQ159
  subst l159 y159 z159
  obtain ⟨rfl, N159q, c159_0⟩ := hQ159
  have N159 := Fr.app N135 N159q
  have sg160 : ∀ target, Steps p.tables e below (T159.setTop (mkF m 66 #[.val (.int i0), .val (.int i1), .val (.int i2), .val (.int i3), .val (.ref b1), .val (.ref b22), .val (.double (FP.dmul (4636737291354636288 : UInt64) (own_pk (own_pk (own_sh (FP.i2d (own_u i0)) (own_limv (own_lc i0)) (FP.i2d (own_wt i0))) (own_sh (FP.i2d (own_u i1)) (own_limv (own_lc i1)) (FP.i2d (own_wt i1)))) (own_pk (own_sh (FP.i2d (own_u i2)) (own_limv (own_lc i2)) (FP.i2d (own_wt i2))) (own_sh (FP.i2d (own_u i3)) (own_limv (own_lc i3)) (FP.i2d (own_wt i3))))))), .second, .val (.long (own_ss i0)), .second, .unset, .unset, .unset, .unset, .unset, .unset, .unset, .unset] [(.int i1)])) target → Steps p.tables e below (T159.setTop (mkF m 63 #[.val (.int i0), .val (.int i1), .val (.int i2), .val (.int i3), .val (.ref b1), .val (.ref b22), .val (.double (FP.dmul (4636737291354636288 : UInt64) (own_pk (own_pk (own_sh (FP.i2d (own_u i0)) (own_limv (own_lc i0)) (FP.i2d (own_wt i0))) (own_sh (FP.i2d (own_u i1)) (own_limv (own_lc i1)) (FP.i2d (own_wt i1)))) (own_pk (own_sh (FP.i2d (own_u i2)) (own_limv (own_lc i2)) (FP.i2d (own_wt i2))) (own_sh (FP.i2d (own_u i3)) (own_limv (own_lc i3)) (FP.i2d (own_wt i3))))))), .second, .unset, .unset, .unset, .unset, .unset, .unset, .unset, .unset, .unset, .unset] [(.long (own_ss i0))])) target := by
    intro target kt
    show Steps p.tables e below (T159.setTop (mkF m 63 #[.val (.int i0), .val (.int i1), .val (.int i2), .val (.int i3), .val (.ref b1), .val (.ref b22), .val (.double (FP.dmul (4636737291354636288 : UInt64) (own_pk (own_pk (own_sh (FP.i2d (own_u i0)) (own_limv (own_lc i0)) (FP.i2d (own_wt i0))) (own_sh (FP.i2d (own_u i1)) (own_limv (own_lc i1)) (FP.i2d (own_wt i1)))) (own_pk (own_sh (FP.i2d (own_u i2)) (own_limv (own_lc i2)) (FP.i2d (own_wt i2))) (own_sh (FP.i2d (own_u i3)) (own_limv (own_lc i3)) (FP.i2d (own_wt i3))))))), .second, .unset, .unset, .unset, .unset, .unset, .unset, .unset, .unset, .unset, .unset] [(.long (own_ss i0))])) _
    refine XS.lstore X159.here hx rfl (hb hby at_63) rfl (l' := #[.val (.int i0), .val (.int i1), .val (.int i2), .val (.int i3), .val (.ref b1), .val (.ref b22), .val (.double (FP.dmul (4636737291354636288 : UInt64) (own_pk (own_pk (own_sh (FP.i2d (own_u i0)) (own_limv (own_lc i0)) (FP.i2d (own_wt i0))) (own_sh (FP.i2d (own_u i1)) (own_limv (own_lc i1)) (FP.i2d (own_wt i1)))) (own_pk (own_sh (FP.i2d (own_u i2)) (own_limv (own_lc i2)) (FP.i2d (own_wt i2))) (own_sh (FP.i2d (own_u i3)) (own_limv (own_lc i3)) (FP.i2d (own_wt i3))))))), .second, .val (.long (own_ss i0)), .second, .unset, .unset, .unset, .unset, .unset, .unset, .unset, .unset]) rfl ?_
    show Steps p.tables e below (T159.setTop (mkF m 65 #[.val (.int i0), .val (.int i1), .val (.int i2), .val (.int i3), .val (.ref b1), .val (.ref b22), .val (.double (FP.dmul (4636737291354636288 : UInt64) (own_pk (own_pk (own_sh (FP.i2d (own_u i0)) (own_limv (own_lc i0)) (FP.i2d (own_wt i0))) (own_sh (FP.i2d (own_u i1)) (own_limv (own_lc i1)) (FP.i2d (own_wt i1)))) (own_pk (own_sh (FP.i2d (own_u i2)) (own_limv (own_lc i2)) (FP.i2d (own_wt i2))) (own_sh (FP.i2d (own_u i3)) (own_limv (own_lc i3)) (FP.i2d (own_wt i3))))))), .second, .val (.long (own_ss i0)), .second, .unset, .unset, .unset, .unset, .unset, .unset, .unset, .unset] [])) _
    refine XS.iloadN X159.here hx rfl (hb hby at_65) rfl ?_
    exact kt
  obtain ⟨_, _, ⟨T161, L161, k161, n161⟩, -, X161, ⟨Lc161, hQ161, l161, y161, z161⟩, st161⟩ := Jvm.LawKit.callS X159 hx (y := (⟨"com/example/headroom/headroom/ResourceWeightsScorePinLaw", "scaledShare", "(I)J"⟩ : MethodName)) hown135 (mvT hZ135 (hw _ (List.mem_of_getElem? (i := 128) rfl))) (mvT hZ135 (hw _ (List.mem_of_getElem? (i := 129) rfl))) (mvT hZ135 (hw _ (List.mem_of_getElem? (i := 5) rfl))) (mvT hZ135 (hw _ (List.mem_of_getElem? (i := 130) rfl))) (by decide) (backOf (W := 0) (rm20 l Z a0 hw [] i1 T135.heap n0 Zs135 ) hZ135 (hw _ (List.mem_of_getElem? (i := 130) rfl)) (hw _ (List.mem_of_getElem? (i := 5) rfl)) (by decide) (by decide)) (g := (mkF m 66 #[.val (.int i0), .val (.int i1), .val (.int i2), .val (.int i3), .val (.ref b1), .val (.ref b22), .val (.double (FP.dmul (4636737291354636288 : UInt64) (own_pk (own_pk (own_sh (FP.i2d (own_u i0)) (own_limv (own_lc i0)) (FP.i2d (own_wt i0))) (own_sh (FP.i2d (own_u i1)) (own_limv (own_lc i1)) (FP.i2d (own_wt i1)))) (own_pk (own_sh (FP.i2d (own_u i2)) (own_limv (own_lc i2)) (FP.i2d (own_wt i2))) (own_sh (FP.i2d (own_u i3)) (own_limv (own_lc i3)) (FP.i2d (own_wt i3))))))), .second, .val (.long (own_ss i0)), .second, .unset, .unset, .unset, .unset, .unset, .unset, .unset, .unset] [(.int i1)])) rfl (by rw [hml]; rfl) (argsL := [(.int i1)]) (rest := []) (lenOf pd_10 rfl) rfl (by show 2 * 0 + _ ≤ _; exact Nat.le_of_eq rfl) (hb hby at_66) (fun _ _ => ⟨rfl, c159_0, (by decide : 40 + 0 ≤ _), (by decide : 572 + 0 ≤ _)⟩)
  dsimp only [Pt.U, Pt.locs, Pt.cells, Pt.slots] at X161 l161 y161 z161 st161 hQ161
  subst l161 y161 z161
  obtain ⟨rfl, N161q, c161_0⟩ := hQ161
  have N161 := Fr.app N159 N161q
  have sg162 : ∀ target, Steps p.tables e below (T161.setTop (mkF m 72 #[.val (.int i0), .val (.int i1), .val (.int i2), .val (.int i3), .val (.ref b1), .val (.ref b22), .val (.double (FP.dmul (4636737291354636288 : UInt64) (own_pk (own_pk (own_sh (FP.i2d (own_u i0)) (own_limv (own_lc i0)) (FP.i2d (own_wt i0))) (own_sh (FP.i2d (own_u i1)) (own_limv (own_lc i1)) (FP.i2d (own_wt i1)))) (own_pk (own_sh (FP.i2d (own_u i2)) (own_limv (own_lc i2)) (FP.i2d (own_wt i2))) (own_sh (FP.i2d (own_u i3)) (own_limv (own_lc i3)) (FP.i2d (own_wt i3))))))), .second, .val (.long (own_ss i0)), .second, .val (.long (own_ss i1)), .second, .unset, .unset, .unset, .unset, .unset, .unset] [(.int i2)])) target → Steps p.tables e below (T161.setTop (mkF m 69 #[.val (.int i0), .val (.int i1), .val (.int i2), .val (.int i3), .val (.ref b1), .val (.ref b22), .val (.double (FP.dmul (4636737291354636288 : UInt64) (own_pk (own_pk (own_sh (FP.i2d (own_u i0)) (own_limv (own_lc i0)) (FP.i2d (own_wt i0))) (own_sh (FP.i2d (own_u i1)) (own_limv (own_lc i1)) (FP.i2d (own_wt i1)))) (own_pk (own_sh (FP.i2d (own_u i2)) (own_limv (own_lc i2)) (FP.i2d (own_wt i2))) (own_sh (FP.i2d (own_u i3)) (own_limv (own_lc i3)) (FP.i2d (own_wt i3))))))), .second, .val (.long (own_ss i0)), .second, .unset, .unset, .unset, .unset, .unset, .unset, .unset, .unset] [(.long (own_ss i1))])) target := by
    intro target kt
    show Steps p.tables e below (T161.setTop (mkF m 69 #[.val (.int i0), .val (.int i1), .val (.int i2), .val (.int i3), .val (.ref b1), .val (.ref b22), .val (.double (FP.dmul (4636737291354636288 : UInt64) (own_pk (own_pk (own_sh (FP.i2d (own_u i0)) (own_limv (own_lc i0)) (FP.i2d (own_wt i0))) (own_sh (FP.i2d (own_u i1)) (own_limv (own_lc i1)) (FP.i2d (own_wt i1)))) (own_pk (own_sh (FP.i2d (own_u i2)) (own_limv (own_lc i2)) (FP.i2d (own_wt i2))) (own_sh (FP.i2d (own_u i3)) (own_limv (own_lc i3)) (FP.i2d (own_wt i3))))))), .second, .val (.long (own_ss i0)), .second, .unset, .unset, .unset, .unset, .unset, .unset, .unset, .unset] [(.long (own_ss i1))])) _
    refine XS.lstore X161.here hx rfl (hb hby at_69) rfl (l' := #[.val (.int i0), .val (.int i1), .val (.int i2), .val (.int i3), .val (.ref b1), .val (.ref b22), .val (.double (FP.dmul (4636737291354636288 : UInt64) (own_pk (own_pk (own_sh (FP.i2d (own_u i0)) (own_limv (own_lc i0)) (FP.i2d (own_wt i0))) (own_sh (FP.i2d (own_u i1)) (own_limv (own_lc i1)) (FP.i2d (own_wt i1)))) (own_pk (own_sh (FP.i2d (own_u i2)) (own_limv (own_lc i2)) (FP.i2d (own_wt i2))) (own_sh (FP.i2d (own_u i3)) (own_limv (own_lc i3)) (FP.i2d (own_wt i3))))))), .second, .val (.long (own_ss i0)), .second, .val (.long (own_ss i1)), .second, .unset, .unset, .unset, .unset, .unset, .unset]) rfl ?_
    show Steps p.tables e below (T161.setTop (mkF m 71 #[.val (.int i0), .val (.int i1), .val (.int i2), .val (.int i3), .val (.ref b1), .val (.ref b22), .val (.double (FP.dmul (4636737291354636288 : UInt64) (own_pk (own_pk (own_sh (FP.i2d (own_u i0)) (own_limv (own_lc i0)) (FP.i2d (own_wt i0))) (own_sh (FP.i2d (own_u i1)) (own_limv (own_lc i1)) (FP.i2d (own_wt i1)))) (own_pk (own_sh (FP.i2d (own_u i2)) (own_limv (own_lc i2)) (FP.i2d (own_wt i2))) (own_sh (FP.i2d (own_u i3)) (own_limv (own_lc i3)) (FP.i2d (own_wt i3))))))), .second, .val (.long (own_ss i0)), .second, .val (.long (own_ss i1)), .second, .unset, .unset, .unset, .unset, .unset, .unset] [])) _
    refine XS.iloadN X161.here hx rfl (hb hby at_71) rfl ?_
    exact kt
  obtain ⟨_, _, ⟨T163, L163, k163, n163⟩, -, X163, ⟨Lc163, hQ163, l163, y163, z163⟩, st163⟩ := Jvm.LawKit.callS X161 hx (y := (⟨"com/example/headroom/headroom/ResourceWeightsScorePinLaw", "scaledShare", "(I)J"⟩ : MethodName)) hown135 (mvT hZ135 (hw _ (List.mem_of_getElem? (i := 128) rfl))) (mvT hZ135 (hw _ (List.mem_of_getElem? (i := 129) rfl))) (mvT hZ135 (hw _ (List.mem_of_getElem? (i := 5) rfl))) (mvT hZ135 (hw _ (List.mem_of_getElem? (i := 130) rfl))) (by decide) (backOf (W := 0) (rm20 l Z a0 hw [] i2 T135.heap n0 Zs135 ) hZ135 (hw _ (List.mem_of_getElem? (i := 130) rfl)) (hw _ (List.mem_of_getElem? (i := 5) rfl)) (by decide) (by decide)) (g := (mkF m 72 #[.val (.int i0), .val (.int i1), .val (.int i2), .val (.int i3), .val (.ref b1), .val (.ref b22), .val (.double (FP.dmul (4636737291354636288 : UInt64) (own_pk (own_pk (own_sh (FP.i2d (own_u i0)) (own_limv (own_lc i0)) (FP.i2d (own_wt i0))) (own_sh (FP.i2d (own_u i1)) (own_limv (own_lc i1)) (FP.i2d (own_wt i1)))) (own_pk (own_sh (FP.i2d (own_u i2)) (own_limv (own_lc i2)) (FP.i2d (own_wt i2))) (own_sh (FP.i2d (own_u i3)) (own_limv (own_lc i3)) (FP.i2d (own_wt i3))))))), .second, .val (.long (own_ss i0)), .second, .val (.long (own_ss i1)), .second, .unset, .unset, .unset, .unset, .unset, .unset] [(.int i2)])) rfl (by rw [hml]; rfl) (argsL := [(.int i2)]) (rest := []) (lenOf pd_10 rfl) rfl (by show 2 * 0 + _ ≤ _; exact Nat.le_of_eq rfl) (hb hby at_72) (fun _ _ => ⟨rfl, c161_0, (by decide : 40 + 0 ≤ _), (by decide : 572 + 0 ≤ _)⟩)
  dsimp only [Pt.U, Pt.locs, Pt.cells, Pt.slots] at X163 l163 y163 z163 st163 hQ163
  subst l163 y163 z163
  obtain ⟨rfl, N163q, c163_0⟩ := hQ163
  have N163 := Fr.app N161 N163q
  have sg164 : ∀ target, Steps p.tables e below (T163.setTop (mkF m 78 #[.val (.int i0), .val (.int i1), .val (.int i2), .val (.int i3), .val (.ref b1), .val (.ref b22), .val (.double (FP.dmul (4636737291354636288 : UInt64) (own_pk (own_pk (own_sh (FP.i2d (own_u i0)) (own_limv (own_lc i0)) (FP.i2d (own_wt i0))) (own_sh (FP.i2d (own_u i1)) (own_limv (own_lc i1)) (FP.i2d (own_wt i1)))) (own_pk (own_sh (FP.i2d (own_u i2)) (own_limv (own_lc i2)) (FP.i2d (own_wt i2))) (own_sh (FP.i2d (own_u i3)) (own_limv (own_lc i3)) (FP.i2d (own_wt i3))))))), .second, .val (.long (own_ss i0)), .second, .val (.long (own_ss i1)), .second, .val (.long (own_ss i2)), .second, .unset, .unset, .unset, .unset] [(.int i3)])) target → Steps p.tables e below (T163.setTop (mkF m 75 #[.val (.int i0), .val (.int i1), .val (.int i2), .val (.int i3), .val (.ref b1), .val (.ref b22), .val (.double (FP.dmul (4636737291354636288 : UInt64) (own_pk (own_pk (own_sh (FP.i2d (own_u i0)) (own_limv (own_lc i0)) (FP.i2d (own_wt i0))) (own_sh (FP.i2d (own_u i1)) (own_limv (own_lc i1)) (FP.i2d (own_wt i1)))) (own_pk (own_sh (FP.i2d (own_u i2)) (own_limv (own_lc i2)) (FP.i2d (own_wt i2))) (own_sh (FP.i2d (own_u i3)) (own_limv (own_lc i3)) (FP.i2d (own_wt i3))))))), .second, .val (.long (own_ss i0)), .second, .val (.long (own_ss i1)), .second, .unset, .unset, .unset, .unset, .unset, .unset] [(.long (own_ss i2))])) target := by
    intro target kt
    show Steps p.tables e below (T163.setTop (mkF m 75 #[.val (.int i0), .val (.int i1), .val (.int i2), .val (.int i3), .val (.ref b1), .val (.ref b22), .val (.double (FP.dmul (4636737291354636288 : UInt64) (own_pk (own_pk (own_sh (FP.i2d (own_u i0)) (own_limv (own_lc i0)) (FP.i2d (own_wt i0))) (own_sh (FP.i2d (own_u i1)) (own_limv (own_lc i1)) (FP.i2d (own_wt i1)))) (own_pk (own_sh (FP.i2d (own_u i2)) (own_limv (own_lc i2)) (FP.i2d (own_wt i2))) (own_sh (FP.i2d (own_u i3)) (own_limv (own_lc i3)) (FP.i2d (own_wt i3))))))), .second, .val (.long (own_ss i0)), .second, .val (.long (own_ss i1)), .second, .unset, .unset, .unset, .unset, .unset, .unset] [(.long (own_ss i2))])) _
    refine XS.lstore X163.here hx rfl (hb hby at_75) rfl (l' := #[.val (.int i0), .val (.int i1), .val (.int i2), .val (.int i3), .val (.ref b1), .val (.ref b22), .val (.double (FP.dmul (4636737291354636288 : UInt64) (own_pk (own_pk (own_sh (FP.i2d (own_u i0)) (own_limv (own_lc i0)) (FP.i2d (own_wt i0))) (own_sh (FP.i2d (own_u i1)) (own_limv (own_lc i1)) (FP.i2d (own_wt i1)))) (own_pk (own_sh (FP.i2d (own_u i2)) (own_limv (own_lc i2)) (FP.i2d (own_wt i2))) (own_sh (FP.i2d (own_u i3)) (own_limv (own_lc i3)) (FP.i2d (own_wt i3))))))), .second, .val (.long (own_ss i0)), .second, .val (.long (own_ss i1)), .second, .val (.long (own_ss i2)), .second, .unset, .unset, .unset, .unset]) rfl ?_
    show Steps p.tables e below (T163.setTop (mkF m 77 #[.val (.int i0), .val (.int i1), .val (.int i2), .val (.int i3), .val (.ref b1), .val (.ref b22), .val (.double (FP.dmul (4636737291354636288 : UInt64) (own_pk (own_pk (own_sh (FP.i2d (own_u i0)) (own_limv (own_lc i0)) (FP.i2d (own_wt i0))) (own_sh (FP.i2d (own_u i1)) (own_limv (own_lc i1)) (FP.i2d (own_wt i1)))) (own_pk (own_sh (FP.i2d (own_u i2)) (own_limv (own_lc i2)) (FP.i2d (own_wt i2))) (own_sh (FP.i2d (own_u i3)) (own_limv (own_lc i3)) (FP.i2d (own_wt i3))))))), .second, .val (.long (own_ss i0)), .second, .val (.long (own_ss i1)), .second, .val (.long (own_ss i2)), .second, .unset, .unset, .unset, .unset] [])) _
    refine XS.iloadN X163.here hx rfl (hb hby at_77) rfl ?_
    exact kt
  obtain ⟨_, _, ⟨T165, L165, k165, n165⟩, -, X165, ⟨Lc165, hQ165, l165, y165, z165⟩, st165⟩ := Jvm.LawKit.callS X163 hx (y := (⟨"com/example/headroom/headroom/ResourceWeightsScorePinLaw", "scaledShare", "(I)J"⟩ : MethodName)) hown135 (mvT hZ135 (hw _ (List.mem_of_getElem? (i := 128) rfl))) (mvT hZ135 (hw _ (List.mem_of_getElem? (i := 129) rfl))) (mvT hZ135 (hw _ (List.mem_of_getElem? (i := 5) rfl))) (mvT hZ135 (hw _ (List.mem_of_getElem? (i := 130) rfl))) (by decide) (backOf (W := 0) (rm20 l Z a0 hw [] i3 T135.heap n0 Zs135 ) hZ135 (hw _ (List.mem_of_getElem? (i := 130) rfl)) (hw _ (List.mem_of_getElem? (i := 5) rfl)) (by decide) (by decide)) (g := (mkF m 78 #[.val (.int i0), .val (.int i1), .val (.int i2), .val (.int i3), .val (.ref b1), .val (.ref b22), .val (.double (FP.dmul (4636737291354636288 : UInt64) (own_pk (own_pk (own_sh (FP.i2d (own_u i0)) (own_limv (own_lc i0)) (FP.i2d (own_wt i0))) (own_sh (FP.i2d (own_u i1)) (own_limv (own_lc i1)) (FP.i2d (own_wt i1)))) (own_pk (own_sh (FP.i2d (own_u i2)) (own_limv (own_lc i2)) (FP.i2d (own_wt i2))) (own_sh (FP.i2d (own_u i3)) (own_limv (own_lc i3)) (FP.i2d (own_wt i3))))))), .second, .val (.long (own_ss i0)), .second, .val (.long (own_ss i1)), .second, .val (.long (own_ss i2)), .second, .unset, .unset, .unset, .unset] [(.int i3)])) rfl (by rw [hml]; rfl) (argsL := [(.int i3)]) (rest := []) (lenOf pd_10 rfl) rfl (by show 2 * 0 + _ ≤ _; exact Nat.le_of_eq rfl) (hb hby at_78) (fun _ _ => ⟨rfl, c163_0, (by decide : 40 + 0 ≤ _), (by decide : 572 + 0 ≤ _)⟩)
  dsimp only [Pt.U, Pt.locs, Pt.cells, Pt.slots] at X165 l165 y165 z165 st165 hQ165
  subst l165 y165 z165
  obtain ⟨rfl, N165q, c165_0⟩ := hQ165
  have N165 := Fr.app N163 N165q
  have sg166 : ∀ target, Steps p.tables e below (T165.setTop (mkF m 87 #[.val (.int i0), .val (.int i1), .val (.int i2), .val (.int i3), .val (.ref b1), .val (.ref b22), .val (.double (FP.dmul (4636737291354636288 : UInt64) (own_pk (own_pk (own_sh (FP.i2d (own_u i0)) (own_limv (own_lc i0)) (FP.i2d (own_wt i0))) (own_sh (FP.i2d (own_u i1)) (own_limv (own_lc i1)) (FP.i2d (own_wt i1)))) (own_pk (own_sh (FP.i2d (own_u i2)) (own_limv (own_lc i2)) (FP.i2d (own_wt i2))) (own_sh (FP.i2d (own_u i3)) (own_limv (own_lc i3)) (FP.i2d (own_wt i3))))))), .second, .val (.long (own_ss i0)), .second, .val (.long (own_ss i1)), .second, .val (.long (own_ss i2)), .second, .val (.long (own_ss i3)), .second, .unset, .unset] [(.int (lcmpW (own_ss i0) (0 : Int64)))])) target → Steps p.tables e below (T165.setTop (mkF m 81 #[.val (.int i0), .val (.int i1), .val (.int i2), .val (.int i3), .val (.ref b1), .val (.ref b22), .val (.double (FP.dmul (4636737291354636288 : UInt64) (own_pk (own_pk (own_sh (FP.i2d (own_u i0)) (own_limv (own_lc i0)) (FP.i2d (own_wt i0))) (own_sh (FP.i2d (own_u i1)) (own_limv (own_lc i1)) (FP.i2d (own_wt i1)))) (own_pk (own_sh (FP.i2d (own_u i2)) (own_limv (own_lc i2)) (FP.i2d (own_wt i2))) (own_sh (FP.i2d (own_u i3)) (own_limv (own_lc i3)) (FP.i2d (own_wt i3))))))), .second, .val (.long (own_ss i0)), .second, .val (.long (own_ss i1)), .second, .val (.long (own_ss i2)), .second, .unset, .unset, .unset, .unset] [(.long (own_ss i3))])) target := by
    intro target kt
    show Steps p.tables e below (T165.setTop (mkF m 81 #[.val (.int i0), .val (.int i1), .val (.int i2), .val (.int i3), .val (.ref b1), .val (.ref b22), .val (.double (FP.dmul (4636737291354636288 : UInt64) (own_pk (own_pk (own_sh (FP.i2d (own_u i0)) (own_limv (own_lc i0)) (FP.i2d (own_wt i0))) (own_sh (FP.i2d (own_u i1)) (own_limv (own_lc i1)) (FP.i2d (own_wt i1)))) (own_pk (own_sh (FP.i2d (own_u i2)) (own_limv (own_lc i2)) (FP.i2d (own_wt i2))) (own_sh (FP.i2d (own_u i3)) (own_limv (own_lc i3)) (FP.i2d (own_wt i3))))))), .second, .val (.long (own_ss i0)), .second, .val (.long (own_ss i1)), .second, .val (.long (own_ss i2)), .second, .unset, .unset, .unset, .unset] [(.long (own_ss i3))])) _
    refine XS.lstore X165.here hx rfl (hb hby at_81) rfl (l' := #[.val (.int i0), .val (.int i1), .val (.int i2), .val (.int i3), .val (.ref b1), .val (.ref b22), .val (.double (FP.dmul (4636737291354636288 : UInt64) (own_pk (own_pk (own_sh (FP.i2d (own_u i0)) (own_limv (own_lc i0)) (FP.i2d (own_wt i0))) (own_sh (FP.i2d (own_u i1)) (own_limv (own_lc i1)) (FP.i2d (own_wt i1)))) (own_pk (own_sh (FP.i2d (own_u i2)) (own_limv (own_lc i2)) (FP.i2d (own_wt i2))) (own_sh (FP.i2d (own_u i3)) (own_limv (own_lc i3)) (FP.i2d (own_wt i3))))))), .second, .val (.long (own_ss i0)), .second, .val (.long (own_ss i1)), .second, .val (.long (own_ss i2)), .second, .val (.long (own_ss i3)), .second, .unset, .unset]) rfl ?_
    show Steps p.tables e below (T165.setTop (mkF m 83 #[.val (.int i0), .val (.int i1), .val (.int i2), .val (.int i3), .val (.ref b1), .val (.ref b22), .val (.double (FP.dmul (4636737291354636288 : UInt64) (own_pk (own_pk (own_sh (FP.i2d (own_u i0)) (own_limv (own_lc i0)) (FP.i2d (own_wt i0))) (own_sh (FP.i2d (own_u i1)) (own_limv (own_lc i1)) (FP.i2d (own_wt i1)))) (own_pk (own_sh (FP.i2d (own_u i2)) (own_limv (own_lc i2)) (FP.i2d (own_wt i2))) (own_sh (FP.i2d (own_u i3)) (own_limv (own_lc i3)) (FP.i2d (own_wt i3))))))), .second, .val (.long (own_ss i0)), .second, .val (.long (own_ss i1)), .second, .val (.long (own_ss i2)), .second, .val (.long (own_ss i3)), .second, .unset, .unset] [])) _
    refine XS.lload X165.here hx rfl (hb hby at_83) rfl ?_
    show Steps p.tables e below (T165.setTop (mkF m 85 #[.val (.int i0), .val (.int i1), .val (.int i2), .val (.int i3), .val (.ref b1), .val (.ref b22), .val (.double (FP.dmul (4636737291354636288 : UInt64) (own_pk (own_pk (own_sh (FP.i2d (own_u i0)) (own_limv (own_lc i0)) (FP.i2d (own_wt i0))) (own_sh (FP.i2d (own_u i1)) (own_limv (own_lc i1)) (FP.i2d (own_wt i1)))) (own_pk (own_sh (FP.i2d (own_u i2)) (own_limv (own_lc i2)) (FP.i2d (own_wt i2))) (own_sh (FP.i2d (own_u i3)) (own_limv (own_lc i3)) (FP.i2d (own_wt i3))))))), .second, .val (.long (own_ss i0)), .second, .val (.long (own_ss i1)), .second, .val (.long (own_ss i2)), .second, .val (.long (own_ss i3)), .second, .unset, .unset] [(.long (own_ss i0))])) _
    refine XS.lconst X165.here hx rfl (hb hby at_85) ?_
    show Steps p.tables e below (T165.setTop (mkF m 86 #[.val (.int i0), .val (.int i1), .val (.int i2), .val (.int i3), .val (.ref b1), .val (.ref b22), .val (.double (FP.dmul (4636737291354636288 : UInt64) (own_pk (own_pk (own_sh (FP.i2d (own_u i0)) (own_limv (own_lc i0)) (FP.i2d (own_wt i0))) (own_sh (FP.i2d (own_u i1)) (own_limv (own_lc i1)) (FP.i2d (own_wt i1)))) (own_pk (own_sh (FP.i2d (own_u i2)) (own_limv (own_lc i2)) (FP.i2d (own_wt i2))) (own_sh (FP.i2d (own_u i3)) (own_limv (own_lc i3)) (FP.i2d (own_wt i3))))))), .second, .val (.long (own_ss i0)), .second, .val (.long (own_ss i1)), .second, .val (.long (own_ss i2)), .second, .val (.long (own_ss i3)), .second, .unset, .unset] [(.long (0 : Int64)), (.long (own_ss i0))])) _
    refine XS.lcmp X165.here hx rfl (hb hby at_86) rfl ?_
    exact kt
  by_cases h1 : (lcmpW (own_ss i0) (0 : Int64)) < (0 : Int32)
  · have sg170 : ∀ target, Steps p.tables e below (T165.setTop (mkF m 125 #[.val (.int i0), .val (.int i1), .val (.int i2), .val (.int i3), .val (.ref b1), .val (.ref b22), .val (.double (FP.dmul (4636737291354636288 : UInt64) (own_pk (own_pk (own_sh (FP.i2d (own_u i0)) (own_limv (own_lc i0)) (FP.i2d (own_wt i0))) (own_sh (FP.i2d (own_u i1)) (own_limv (own_lc i1)) (FP.i2d (own_wt i1)))) (own_pk (own_sh (FP.i2d (own_u i2)) (own_limv (own_lc i2)) (FP.i2d (own_wt i2))) (own_sh (FP.i2d (own_u i3)) (own_limv (own_lc i3)) (FP.i2d (own_wt i3))))))), .second, .val (.long (own_ss i0)), .second, .val (.long (own_ss i1)), .second, .val (.long (own_ss i2)), .second, .val (.long (own_ss i3)), .second, .unset, .unset] [(.int (1 : Int32))])) target → Steps p.tables e below (T165.setTop (mkF m 87 #[.val (.int i0), .val (.int i1), .val (.int i2), .val (.int i3), .val (.ref b1), .val (.ref b22), .val (.double (FP.dmul (4636737291354636288 : UInt64) (own_pk (own_pk (own_sh (FP.i2d (own_u i0)) (own_limv (own_lc i0)) (FP.i2d (own_wt i0))) (own_sh (FP.i2d (own_u i1)) (own_limv (own_lc i1)) (FP.i2d (own_wt i1)))) (own_pk (own_sh (FP.i2d (own_u i2)) (own_limv (own_lc i2)) (FP.i2d (own_wt i2))) (own_sh (FP.i2d (own_u i3)) (own_limv (own_lc i3)) (FP.i2d (own_wt i3))))))), .second, .val (.long (own_ss i0)), .second, .val (.long (own_ss i1)), .second, .val (.long (own_ss i2)), .second, .val (.long (own_ss i3)), .second, .unset, .unset] [(.int (lcmpW (own_ss i0) (0 : Int64)))])) target := by
      intro target kt
      show Steps p.tables e below (T165.setTop (mkF m 87 #[.val (.int i0), .val (.int i1), .val (.int i2), .val (.int i3), .val (.ref b1), .val (.ref b22), .val (.double (FP.dmul (4636737291354636288 : UInt64) (own_pk (own_pk (own_sh (FP.i2d (own_u i0)) (own_limv (own_lc i0)) (FP.i2d (own_wt i0))) (own_sh (FP.i2d (own_u i1)) (own_limv (own_lc i1)) (FP.i2d (own_wt i1)))) (own_pk (own_sh (FP.i2d (own_u i2)) (own_limv (own_lc i2)) (FP.i2d (own_wt i2))) (own_sh (FP.i2d (own_u i3)) (own_limv (own_lc i3)) (FP.i2d (own_wt i3))))))), .second, .val (.long (own_ss i0)), .second, .val (.long (own_ss i1)), .second, .val (.long (own_ss i2)), .second, .val (.long (own_ss i3)), .second, .unset, .unset] [(.int (lcmpW (own_ss i0) (0 : Int64)))])) _
      refine XS.ifYes X165.here hx rfl (pc0 := 87) (pc' := 111) rfl (hb hby at_87) rfl ((if0 _ _).trans (tlt (h1 : (lcmpW (own_ss i0) (0 : Int64)) < (0 : Int32))).1) (by decide) (by decide) ?_
      show Steps p.tables e below (T165.setTop (mkF m 111 #[.val (.int i0), .val (.int i1), .val (.int i2), .val (.int i3), .val (.ref b1), .val (.ref b22), .val (.double (FP.dmul (4636737291354636288 : UInt64) (own_pk (own_pk (own_sh (FP.i2d (own_u i0)) (own_limv (own_lc i0)) (FP.i2d (own_wt i0))) (own_sh (FP.i2d (own_u i1)) (own_limv (own_lc i1)) (FP.i2d (own_wt i1)))) (own_pk (own_sh (FP.i2d (own_u i2)) (own_limv (own_lc i2)) (FP.i2d (own_wt i2))) (own_sh (FP.i2d (own_u i3)) (own_limv (own_lc i3)) (FP.i2d (own_wt i3))))))), .second, .val (.long (own_ss i0)), .second, .val (.long (own_ss i1)), .second, .val (.long (own_ss i2)), .second, .val (.long (own_ss i3)), .second, .unset, .unset] [])) _
      refine XS.dload X165.here hx rfl (hb hby at_111) rfl ?_
      show Steps p.tables e below (T165.setTop (mkF m 113 #[.val (.int i0), .val (.int i1), .val (.int i2), .val (.int i3), .val (.ref b1), .val (.ref b22), .val (.double (FP.dmul (4636737291354636288 : UInt64) (own_pk (own_pk (own_sh (FP.i2d (own_u i0)) (own_limv (own_lc i0)) (FP.i2d (own_wt i0))) (own_sh (FP.i2d (own_u i1)) (own_limv (own_lc i1)) (FP.i2d (own_wt i1)))) (own_pk (own_sh (FP.i2d (own_u i2)) (own_limv (own_lc i2)) (FP.i2d (own_wt i2))) (own_sh (FP.i2d (own_u i3)) (own_limv (own_lc i3)) (FP.i2d (own_wt i3))))))), .second, .val (.long (own_ss i0)), .second, .val (.long (own_ss i1)), .second, .val (.long (own_ss i2)), .second, .val (.long (own_ss i3)), .second, .unset, .unset] [(.double (FP.dmul (4636737291354636288 : UInt64) (own_pk (own_pk (own_sh (FP.i2d (own_u i0)) (own_limv (own_lc i0)) (FP.i2d (own_wt i0))) (own_sh (FP.i2d (own_u i1)) (own_limv (own_lc i1)) (FP.i2d (own_wt i1)))) (own_pk (own_sh (FP.i2d (own_u i2)) (own_limv (own_lc i2)) (FP.i2d (own_wt i2))) (own_sh (FP.i2d (own_u i3)) (own_limv (own_lc i3)) (FP.i2d (own_wt i3)))))))])) _
      refine X165.ldc2DoubleC hx hown135 (mvT hZ135 (hw _ (List.mem_of_getElem? (i := 144) rfl))) (g := (mkF m 113 #[.val (.int i0), .val (.int i1), .val (.int i2), .val (.int i3), .val (.ref b1), .val (.ref b22), .val (.double (FP.dmul (4636737291354636288 : UInt64) (own_pk (own_pk (own_sh (FP.i2d (own_u i0)) (own_limv (own_lc i0)) (FP.i2d (own_wt i0))) (own_sh (FP.i2d (own_u i1)) (own_limv (own_lc i1)) (FP.i2d (own_wt i1)))) (own_pk (own_sh (FP.i2d (own_u i2)) (own_limv (own_lc i2)) (FP.i2d (own_wt i2))) (own_sh (FP.i2d (own_u i3)) (own_limv (own_lc i3)) (FP.i2d (own_wt i3))))))), .second, .val (.long (own_ss i0)), .second, .val (.long (own_ss i1)), .second, .val (.long (own_ss i2)), .second, .val (.long (own_ss i3)), .second, .unset, .unset] [(.double (FP.dmul (4636737291354636288 : UInt64) (own_pk (own_pk (own_sh (FP.i2d (own_u i0)) (own_limv (own_lc i0)) (FP.i2d (own_wt i0))) (own_sh (FP.i2d (own_u i1)) (own_limv (own_lc i1)) (FP.i2d (own_wt i1)))) (own_pk (own_sh (FP.i2d (own_u i2)) (own_limv (own_lc i2)) (FP.i2d (own_wt i2))) (own_sh (FP.i2d (own_u i3)) (own_limv (own_lc i3)) (FP.i2d (own_wt i3)))))))])) rfl (hb hby at_113) _ ?_
      show Steps p.tables e below (T165.setTop (mkF m 116 #[.val (.int i0), .val (.int i1), .val (.int i2), .val (.int i3), .val (.ref b1), .val (.ref b22), .val (.double (FP.dmul (4636737291354636288 : UInt64) (own_pk (own_pk (own_sh (FP.i2d (own_u i0)) (own_limv (own_lc i0)) (FP.i2d (own_wt i0))) (own_sh (FP.i2d (own_u i1)) (own_limv (own_lc i1)) (FP.i2d (own_wt i1)))) (own_pk (own_sh (FP.i2d (own_u i2)) (own_limv (own_lc i2)) (FP.i2d (own_wt i2))) (own_sh (FP.i2d (own_u i3)) (own_limv (own_lc i3)) (FP.i2d (own_wt i3))))))), .second, .val (.long (own_ss i0)), .second, .val (.long (own_ss i1)), .second, .val (.long (own_ss i2)), .second, .val (.long (own_ss i3)), .second, .unset, .unset] [(.double (9218868437227405312 : UInt64)), (.double (FP.dmul (4636737291354636288 : UInt64) (own_pk (own_pk (own_sh (FP.i2d (own_u i0)) (own_limv (own_lc i0)) (FP.i2d (own_wt i0))) (own_sh (FP.i2d (own_u i1)) (own_limv (own_lc i1)) (FP.i2d (own_wt i1)))) (own_pk (own_sh (FP.i2d (own_u i2)) (own_limv (own_lc i2)) (FP.i2d (own_wt i2))) (own_sh (FP.i2d (own_u i3)) (own_limv (own_lc i3)) (FP.i2d (own_wt i3)))))))])) _
      refine XS.dcmpS X165.here hx rfl (v := (0 : Int32)) (hb hby at_116) rfl (own_infc RM (own_mx_l (own_mx_l (own_neg h1)))) ?_
      show Steps p.tables e below (T165.setTop (mkF m 117 #[.val (.int i0), .val (.int i1), .val (.int i2), .val (.int i3), .val (.ref b1), .val (.ref b22), .val (.double (FP.dmul (4636737291354636288 : UInt64) (own_pk (own_pk (own_sh (FP.i2d (own_u i0)) (own_limv (own_lc i0)) (FP.i2d (own_wt i0))) (own_sh (FP.i2d (own_u i1)) (own_limv (own_lc i1)) (FP.i2d (own_wt i1)))) (own_pk (own_sh (FP.i2d (own_u i2)) (own_limv (own_lc i2)) (FP.i2d (own_wt i2))) (own_sh (FP.i2d (own_u i3)) (own_limv (own_lc i3)) (FP.i2d (own_wt i3))))))), .second, .val (.long (own_ss i0)), .second, .val (.long (own_ss i1)), .second, .val (.long (own_ss i2)), .second, .val (.long (own_ss i3)), .second, .unset, .unset] [(.int (0 : Int32))])) _
      refine XS.ifNo X165.here hx rfl (hb hby at_117) rfl ((if0 _ _).trans (teq (by decide : (0 : Int32) = (0 : Int32))).2) ?_
      show Steps p.tables e below (T165.setTop (mkF m 120 #[.val (.int i0), .val (.int i1), .val (.int i2), .val (.int i3), .val (.ref b1), .val (.ref b22), .val (.double (FP.dmul (4636737291354636288 : UInt64) (own_pk (own_pk (own_sh (FP.i2d (own_u i0)) (own_limv (own_lc i0)) (FP.i2d (own_wt i0))) (own_sh (FP.i2d (own_u i1)) (own_limv (own_lc i1)) (FP.i2d (own_wt i1)))) (own_pk (own_sh (FP.i2d (own_u i2)) (own_limv (own_lc i2)) (FP.i2d (own_wt i2))) (own_sh (FP.i2d (own_u i3)) (own_limv (own_lc i3)) (FP.i2d (own_wt i3))))))), .second, .val (.long (own_ss i0)), .second, .val (.long (own_ss i1)), .second, .val (.long (own_ss i2)), .second, .val (.long (own_ss i3)), .second, .unset, .unset] [])) _
      refine XS.iconst X165.here hx rfl (hb hby at_120) ?_
      show Steps p.tables e below (T165.setTop (mkF m 121 #[.val (.int i0), .val (.int i1), .val (.int i2), .val (.int i3), .val (.ref b1), .val (.ref b22), .val (.double (FP.dmul (4636737291354636288 : UInt64) (own_pk (own_pk (own_sh (FP.i2d (own_u i0)) (own_limv (own_lc i0)) (FP.i2d (own_wt i0))) (own_sh (FP.i2d (own_u i1)) (own_limv (own_lc i1)) (FP.i2d (own_wt i1)))) (own_pk (own_sh (FP.i2d (own_u i2)) (own_limv (own_lc i2)) (FP.i2d (own_wt i2))) (own_sh (FP.i2d (own_u i3)) (own_limv (own_lc i3)) (FP.i2d (own_wt i3))))))), .second, .val (.long (own_ss i0)), .second, .val (.long (own_ss i1)), .second, .val (.long (own_ss i2)), .second, .val (.long (own_ss i3)), .second, .unset, .unset] [(.int (1 : Int32))])) _
      refine XS.goto X165.here hx rfl (pc0 := 121) (pc' := 125) rfl (hb hby at_121) (by decide) (by decide) ?_
      exact kt
    obtain ⟨fs, hr, hrun, hended, hWE⟩ := Stand.leaveW (s := s) (vm₁ := T135.vm) X165 hS135 (by rw [c165_0]; exact (Nat.le_refl _)) (v := some (.int (1 : Int32))) (fun h => by rw [Bd.returns] at h; cases h)
    refine ⟨_, _, pre0 _ ?_, hrun, hended, _, _, rfl, ?_, hWE.1, hWE.2.1, hWE.2.2.1, hWE.2.2.2.mono (by decide) (by decide)⟩
    · show Steps p.tables e below (s₁.setTop (mkF m 0 #[.val (.int i0), .val (.int i1), .val (.int i2), .val (.int i3), .unset, .unset, .unset, .unset, .unset, .unset, .unset, .unset, .unset, .unset, .unset, .unset, .unset, .unset] [])) _
      refine st1 _ ?_
      refine sg7 _ ?_
      refine st8 _ ?_
      refine sg9 _ ?_
      refine st10 _ ?_
      refine sg11 _ ?_
      refine st12 _ ?_
      refine sg13 _ ?_
      refine st14 _ ?_
      refine st15.trans ?_
      refine sg21 _ ?_
      refine st22 _ ?_
      refine sg33 _ ?_
      refine st34.trans ?_
      refine sg48 _ ?_
      refine st49.trans ?_
      refine sg66 _ ?_
      refine st67.trans ?_
      refine sg87 _ ?_
      refine st88.trans ?_
      refine st111.trans ?_
      refine sg134 _ ?_
      refine st135.trans ?_
      refine sg158 _ ?_
      refine st159 _ ?_
      refine sg160 _ ?_
      refine st161 _ ?_
      refine sg162 _ ?_
      refine st163 _ ?_
      refine sg164 _ ?_
      refine st165 _ ?_
      refine sg166 _ ?_
      refine sg170 _ ?_
      show Steps p.tables e below (T165.setTop (mkF m 125 #[.val (.int i0), .val (.int i1), .val (.int i2), .val (.int i3), .val (.ref b1), .val (.ref b22), .val (.double (FP.dmul (4636737291354636288 : UInt64) (own_pk (own_pk (own_sh (FP.i2d (own_u i0)) (own_limv (own_lc i0)) (FP.i2d (own_wt i0))) (own_sh (FP.i2d (own_u i1)) (own_limv (own_lc i1)) (FP.i2d (own_wt i1)))) (own_pk (own_sh (FP.i2d (own_u i2)) (own_limv (own_lc i2)) (FP.i2d (own_wt i2))) (own_sh (FP.i2d (own_u i3)) (own_limv (own_lc i3)) (FP.i2d (own_wt i3))))))), .second, .val (.long (own_ss i0)), .second, .val (.long (own_ss i1)), .second, .val (.long (own_ss i2)), .second, .val (.long (own_ss i3)), .second, .unset, .unset] [(.int (1 : Int32))])) _
      exact retN X165 hx (t := .boolean) Bd.returns (by simp) (hb hby at_125) hr
    · show Q_rm0 Z i0 i1 i2 i3 h0 n0 _ T165.heap _
      rw [c165_0]
      exact ⟨rfl, N165⟩
  · have sg167 : ∀ target, Steps p.tables e below (T165.setTop (mkF m 94 #[.val (.int i0), .val (.int i1), .val (.int i2), .val (.int i3), .val (.ref b1), .val (.ref b22), .val (.double (FP.dmul (4636737291354636288 : UInt64) (own_pk (own_pk (own_sh (FP.i2d (own_u i0)) (own_limv (own_lc i0)) (FP.i2d (own_wt i0))) (own_sh (FP.i2d (own_u i1)) (own_limv (own_lc i1)) (FP.i2d (own_wt i1)))) (own_pk (own_sh (FP.i2d (own_u i2)) (own_limv (own_lc i2)) (FP.i2d (own_wt i2))) (own_sh (FP.i2d (own_u i3)) (own_limv (own_lc i3)) (FP.i2d (own_wt i3))))))), .second, .val (.long (own_ss i0)), .second, .val (.long (own_ss i1)), .second, .val (.long (own_ss i2)), .second, .val (.long (own_ss i3)), .second, .unset, .unset] [(.int (lcmpW (own_ss i1) (0 : Int64)))])) target → Steps p.tables e below (T165.setTop (mkF m 87 #[.val (.int i0), .val (.int i1), .val (.int i2), .val (.int i3), .val (.ref b1), .val (.ref b22), .val (.double (FP.dmul (4636737291354636288 : UInt64) (own_pk (own_pk (own_sh (FP.i2d (own_u i0)) (own_limv (own_lc i0)) (FP.i2d (own_wt i0))) (own_sh (FP.i2d (own_u i1)) (own_limv (own_lc i1)) (FP.i2d (own_wt i1)))) (own_pk (own_sh (FP.i2d (own_u i2)) (own_limv (own_lc i2)) (FP.i2d (own_wt i2))) (own_sh (FP.i2d (own_u i3)) (own_limv (own_lc i3)) (FP.i2d (own_wt i3))))))), .second, .val (.long (own_ss i0)), .second, .val (.long (own_ss i1)), .second, .val (.long (own_ss i2)), .second, .val (.long (own_ss i3)), .second, .unset, .unset] [(.int (lcmpW (own_ss i0) (0 : Int64)))])) target := by
      intro target kt
      show Steps p.tables e below (T165.setTop (mkF m 87 #[.val (.int i0), .val (.int i1), .val (.int i2), .val (.int i3), .val (.ref b1), .val (.ref b22), .val (.double (FP.dmul (4636737291354636288 : UInt64) (own_pk (own_pk (own_sh (FP.i2d (own_u i0)) (own_limv (own_lc i0)) (FP.i2d (own_wt i0))) (own_sh (FP.i2d (own_u i1)) (own_limv (own_lc i1)) (FP.i2d (own_wt i1)))) (own_pk (own_sh (FP.i2d (own_u i2)) (own_limv (own_lc i2)) (FP.i2d (own_wt i2))) (own_sh (FP.i2d (own_u i3)) (own_limv (own_lc i3)) (FP.i2d (own_wt i3))))))), .second, .val (.long (own_ss i0)), .second, .val (.long (own_ss i1)), .second, .val (.long (own_ss i2)), .second, .val (.long (own_ss i3)), .second, .unset, .unset] [(.int (lcmpW (own_ss i0) (0 : Int64)))])) _
      refine XS.ifNo X165.here hx rfl (hb hby at_87) rfl ((if0 _ _).trans (flt (h1 : ¬ ((lcmpW (own_ss i0) (0 : Int64)) < (0 : Int32)))).1) ?_
      show Steps p.tables e below (T165.setTop (mkF m 90 #[.val (.int i0), .val (.int i1), .val (.int i2), .val (.int i3), .val (.ref b1), .val (.ref b22), .val (.double (FP.dmul (4636737291354636288 : UInt64) (own_pk (own_pk (own_sh (FP.i2d (own_u i0)) (own_limv (own_lc i0)) (FP.i2d (own_wt i0))) (own_sh (FP.i2d (own_u i1)) (own_limv (own_lc i1)) (FP.i2d (own_wt i1)))) (own_pk (own_sh (FP.i2d (own_u i2)) (own_limv (own_lc i2)) (FP.i2d (own_wt i2))) (own_sh (FP.i2d (own_u i3)) (own_limv (own_lc i3)) (FP.i2d (own_wt i3))))))), .second, .val (.long (own_ss i0)), .second, .val (.long (own_ss i1)), .second, .val (.long (own_ss i2)), .second, .val (.long (own_ss i3)), .second, .unset, .unset] [])) _
      refine XS.lload X165.here hx rfl (hb hby at_90) rfl ?_
      show Steps p.tables e below (T165.setTop (mkF m 92 #[.val (.int i0), .val (.int i1), .val (.int i2), .val (.int i3), .val (.ref b1), .val (.ref b22), .val (.double (FP.dmul (4636737291354636288 : UInt64) (own_pk (own_pk (own_sh (FP.i2d (own_u i0)) (own_limv (own_lc i0)) (FP.i2d (own_wt i0))) (own_sh (FP.i2d (own_u i1)) (own_limv (own_lc i1)) (FP.i2d (own_wt i1)))) (own_pk (own_sh (FP.i2d (own_u i2)) (own_limv (own_lc i2)) (FP.i2d (own_wt i2))) (own_sh (FP.i2d (own_u i3)) (own_limv (own_lc i3)) (FP.i2d (own_wt i3))))))), .second, .val (.long (own_ss i0)), .second, .val (.long (own_ss i1)), .second, .val (.long (own_ss i2)), .second, .val (.long (own_ss i3)), .second, .unset, .unset] [(.long (own_ss i1))])) _
      refine XS.lconst X165.here hx rfl (hb hby at_92) ?_
      show Steps p.tables e below (T165.setTop (mkF m 93 #[.val (.int i0), .val (.int i1), .val (.int i2), .val (.int i3), .val (.ref b1), .val (.ref b22), .val (.double (FP.dmul (4636737291354636288 : UInt64) (own_pk (own_pk (own_sh (FP.i2d (own_u i0)) (own_limv (own_lc i0)) (FP.i2d (own_wt i0))) (own_sh (FP.i2d (own_u i1)) (own_limv (own_lc i1)) (FP.i2d (own_wt i1)))) (own_pk (own_sh (FP.i2d (own_u i2)) (own_limv (own_lc i2)) (FP.i2d (own_wt i2))) (own_sh (FP.i2d (own_u i3)) (own_limv (own_lc i3)) (FP.i2d (own_wt i3))))))), .second, .val (.long (own_ss i0)), .second, .val (.long (own_ss i1)), .second, .val (.long (own_ss i2)), .second, .val (.long (own_ss i3)), .second, .unset, .unset] [(.long (0 : Int64)), (.long (own_ss i1))])) _
      refine XS.lcmp X165.here hx rfl (hb hby at_93) rfl ?_
      exact kt
    by_cases h2 : (lcmpW (own_ss i1) (0 : Int64)) < (0 : Int32)
    · have sg171 : ∀ target, Steps p.tables e below (T165.setTop (mkF m 125 #[.val (.int i0), .val (.int i1), .val (.int i2), .val (.int i3), .val (.ref b1), .val (.ref b22), .val (.double (FP.dmul (4636737291354636288 : UInt64) (own_pk (own_pk (own_sh (FP.i2d (own_u i0)) (own_limv (own_lc i0)) (FP.i2d (own_wt i0))) (own_sh (FP.i2d (own_u i1)) (own_limv (own_lc i1)) (FP.i2d (own_wt i1)))) (own_pk (own_sh (FP.i2d (own_u i2)) (own_limv (own_lc i2)) (FP.i2d (own_wt i2))) (own_sh (FP.i2d (own_u i3)) (own_limv (own_lc i3)) (FP.i2d (own_wt i3))))))), .second, .val (.long (own_ss i0)), .second, .val (.long (own_ss i1)), .second, .val (.long (own_ss i2)), .second, .val (.long (own_ss i3)), .second, .unset, .unset] [(.int (1 : Int32))])) target → Steps p.tables e below (T165.setTop (mkF m 94 #[.val (.int i0), .val (.int i1), .val (.int i2), .val (.int i3), .val (.ref b1), .val (.ref b22), .val (.double (FP.dmul (4636737291354636288 : UInt64) (own_pk (own_pk (own_sh (FP.i2d (own_u i0)) (own_limv (own_lc i0)) (FP.i2d (own_wt i0))) (own_sh (FP.i2d (own_u i1)) (own_limv (own_lc i1)) (FP.i2d (own_wt i1)))) (own_pk (own_sh (FP.i2d (own_u i2)) (own_limv (own_lc i2)) (FP.i2d (own_wt i2))) (own_sh (FP.i2d (own_u i3)) (own_limv (own_lc i3)) (FP.i2d (own_wt i3))))))), .second, .val (.long (own_ss i0)), .second, .val (.long (own_ss i1)), .second, .val (.long (own_ss i2)), .second, .val (.long (own_ss i3)), .second, .unset, .unset] [(.int (lcmpW (own_ss i1) (0 : Int64)))])) target := by
        intro target kt
        show Steps p.tables e below (T165.setTop (mkF m 94 #[.val (.int i0), .val (.int i1), .val (.int i2), .val (.int i3), .val (.ref b1), .val (.ref b22), .val (.double (FP.dmul (4636737291354636288 : UInt64) (own_pk (own_pk (own_sh (FP.i2d (own_u i0)) (own_limv (own_lc i0)) (FP.i2d (own_wt i0))) (own_sh (FP.i2d (own_u i1)) (own_limv (own_lc i1)) (FP.i2d (own_wt i1)))) (own_pk (own_sh (FP.i2d (own_u i2)) (own_limv (own_lc i2)) (FP.i2d (own_wt i2))) (own_sh (FP.i2d (own_u i3)) (own_limv (own_lc i3)) (FP.i2d (own_wt i3))))))), .second, .val (.long (own_ss i0)), .second, .val (.long (own_ss i1)), .second, .val (.long (own_ss i2)), .second, .val (.long (own_ss i3)), .second, .unset, .unset] [(.int (lcmpW (own_ss i1) (0 : Int64)))])) _
        refine XS.ifYes X165.here hx rfl (pc0 := 94) (pc' := 111) rfl (hb hby at_94) rfl ((if0 _ _).trans (tlt (h2 : (lcmpW (own_ss i1) (0 : Int64)) < (0 : Int32))).1) (by decide) (by decide) ?_
        show Steps p.tables e below (T165.setTop (mkF m 111 #[.val (.int i0), .val (.int i1), .val (.int i2), .val (.int i3), .val (.ref b1), .val (.ref b22), .val (.double (FP.dmul (4636737291354636288 : UInt64) (own_pk (own_pk (own_sh (FP.i2d (own_u i0)) (own_limv (own_lc i0)) (FP.i2d (own_wt i0))) (own_sh (FP.i2d (own_u i1)) (own_limv (own_lc i1)) (FP.i2d (own_wt i1)))) (own_pk (own_sh (FP.i2d (own_u i2)) (own_limv (own_lc i2)) (FP.i2d (own_wt i2))) (own_sh (FP.i2d (own_u i3)) (own_limv (own_lc i3)) (FP.i2d (own_wt i3))))))), .second, .val (.long (own_ss i0)), .second, .val (.long (own_ss i1)), .second, .val (.long (own_ss i2)), .second, .val (.long (own_ss i3)), .second, .unset, .unset] [])) _
        refine XS.dload X165.here hx rfl (hb hby at_111) rfl ?_
        show Steps p.tables e below (T165.setTop (mkF m 113 #[.val (.int i0), .val (.int i1), .val (.int i2), .val (.int i3), .val (.ref b1), .val (.ref b22), .val (.double (FP.dmul (4636737291354636288 : UInt64) (own_pk (own_pk (own_sh (FP.i2d (own_u i0)) (own_limv (own_lc i0)) (FP.i2d (own_wt i0))) (own_sh (FP.i2d (own_u i1)) (own_limv (own_lc i1)) (FP.i2d (own_wt i1)))) (own_pk (own_sh (FP.i2d (own_u i2)) (own_limv (own_lc i2)) (FP.i2d (own_wt i2))) (own_sh (FP.i2d (own_u i3)) (own_limv (own_lc i3)) (FP.i2d (own_wt i3))))))), .second, .val (.long (own_ss i0)), .second, .val (.long (own_ss i1)), .second, .val (.long (own_ss i2)), .second, .val (.long (own_ss i3)), .second, .unset, .unset] [(.double (FP.dmul (4636737291354636288 : UInt64) (own_pk (own_pk (own_sh (FP.i2d (own_u i0)) (own_limv (own_lc i0)) (FP.i2d (own_wt i0))) (own_sh (FP.i2d (own_u i1)) (own_limv (own_lc i1)) (FP.i2d (own_wt i1)))) (own_pk (own_sh (FP.i2d (own_u i2)) (own_limv (own_lc i2)) (FP.i2d (own_wt i2))) (own_sh (FP.i2d (own_u i3)) (own_limv (own_lc i3)) (FP.i2d (own_wt i3)))))))])) _
        refine X165.ldc2DoubleC hx hown135 (mvT hZ135 (hw _ (List.mem_of_getElem? (i := 144) rfl))) (g := (mkF m 113 #[.val (.int i0), .val (.int i1), .val (.int i2), .val (.int i3), .val (.ref b1), .val (.ref b22), .val (.double (FP.dmul (4636737291354636288 : UInt64) (own_pk (own_pk (own_sh (FP.i2d (own_u i0)) (own_limv (own_lc i0)) (FP.i2d (own_wt i0))) (own_sh (FP.i2d (own_u i1)) (own_limv (own_lc i1)) (FP.i2d (own_wt i1)))) (own_pk (own_sh (FP.i2d (own_u i2)) (own_limv (own_lc i2)) (FP.i2d (own_wt i2))) (own_sh (FP.i2d (own_u i3)) (own_limv (own_lc i3)) (FP.i2d (own_wt i3))))))), .second, .val (.long (own_ss i0)), .second, .val (.long (own_ss i1)), .second, .val (.long (own_ss i2)), .second, .val (.long (own_ss i3)), .second, .unset, .unset] [(.double (FP.dmul (4636737291354636288 : UInt64) (own_pk (own_pk (own_sh (FP.i2d (own_u i0)) (own_limv (own_lc i0)) (FP.i2d (own_wt i0))) (own_sh (FP.i2d (own_u i1)) (own_limv (own_lc i1)) (FP.i2d (own_wt i1)))) (own_pk (own_sh (FP.i2d (own_u i2)) (own_limv (own_lc i2)) (FP.i2d (own_wt i2))) (own_sh (FP.i2d (own_u i3)) (own_limv (own_lc i3)) (FP.i2d (own_wt i3)))))))])) rfl (hb hby at_113) _ ?_
        show Steps p.tables e below (T165.setTop (mkF m 116 #[.val (.int i0), .val (.int i1), .val (.int i2), .val (.int i3), .val (.ref b1), .val (.ref b22), .val (.double (FP.dmul (4636737291354636288 : UInt64) (own_pk (own_pk (own_sh (FP.i2d (own_u i0)) (own_limv (own_lc i0)) (FP.i2d (own_wt i0))) (own_sh (FP.i2d (own_u i1)) (own_limv (own_lc i1)) (FP.i2d (own_wt i1)))) (own_pk (own_sh (FP.i2d (own_u i2)) (own_limv (own_lc i2)) (FP.i2d (own_wt i2))) (own_sh (FP.i2d (own_u i3)) (own_limv (own_lc i3)) (FP.i2d (own_wt i3))))))), .second, .val (.long (own_ss i0)), .second, .val (.long (own_ss i1)), .second, .val (.long (own_ss i2)), .second, .val (.long (own_ss i3)), .second, .unset, .unset] [(.double (9218868437227405312 : UInt64)), (.double (FP.dmul (4636737291354636288 : UInt64) (own_pk (own_pk (own_sh (FP.i2d (own_u i0)) (own_limv (own_lc i0)) (FP.i2d (own_wt i0))) (own_sh (FP.i2d (own_u i1)) (own_limv (own_lc i1)) (FP.i2d (own_wt i1)))) (own_pk (own_sh (FP.i2d (own_u i2)) (own_limv (own_lc i2)) (FP.i2d (own_wt i2))) (own_sh (FP.i2d (own_u i3)) (own_limv (own_lc i3)) (FP.i2d (own_wt i3)))))))])) _
        refine XS.dcmpS X165.here hx rfl (v := (0 : Int32)) (hb hby at_116) rfl (own_infc RM (own_mx_l (own_mx_r (own_neg h2)))) ?_
        show Steps p.tables e below (T165.setTop (mkF m 117 #[.val (.int i0), .val (.int i1), .val (.int i2), .val (.int i3), .val (.ref b1), .val (.ref b22), .val (.double (FP.dmul (4636737291354636288 : UInt64) (own_pk (own_pk (own_sh (FP.i2d (own_u i0)) (own_limv (own_lc i0)) (FP.i2d (own_wt i0))) (own_sh (FP.i2d (own_u i1)) (own_limv (own_lc i1)) (FP.i2d (own_wt i1)))) (own_pk (own_sh (FP.i2d (own_u i2)) (own_limv (own_lc i2)) (FP.i2d (own_wt i2))) (own_sh (FP.i2d (own_u i3)) (own_limv (own_lc i3)) (FP.i2d (own_wt i3))))))), .second, .val (.long (own_ss i0)), .second, .val (.long (own_ss i1)), .second, .val (.long (own_ss i2)), .second, .val (.long (own_ss i3)), .second, .unset, .unset] [(.int (0 : Int32))])) _
        refine XS.ifNo X165.here hx rfl (hb hby at_117) rfl ((if0 _ _).trans (teq (by decide : (0 : Int32) = (0 : Int32))).2) ?_
        show Steps p.tables e below (T165.setTop (mkF m 120 #[.val (.int i0), .val (.int i1), .val (.int i2), .val (.int i3), .val (.ref b1), .val (.ref b22), .val (.double (FP.dmul (4636737291354636288 : UInt64) (own_pk (own_pk (own_sh (FP.i2d (own_u i0)) (own_limv (own_lc i0)) (FP.i2d (own_wt i0))) (own_sh (FP.i2d (own_u i1)) (own_limv (own_lc i1)) (FP.i2d (own_wt i1)))) (own_pk (own_sh (FP.i2d (own_u i2)) (own_limv (own_lc i2)) (FP.i2d (own_wt i2))) (own_sh (FP.i2d (own_u i3)) (own_limv (own_lc i3)) (FP.i2d (own_wt i3))))))), .second, .val (.long (own_ss i0)), .second, .val (.long (own_ss i1)), .second, .val (.long (own_ss i2)), .second, .val (.long (own_ss i3)), .second, .unset, .unset] [])) _
        refine XS.iconst X165.here hx rfl (hb hby at_120) ?_
        show Steps p.tables e below (T165.setTop (mkF m 121 #[.val (.int i0), .val (.int i1), .val (.int i2), .val (.int i3), .val (.ref b1), .val (.ref b22), .val (.double (FP.dmul (4636737291354636288 : UInt64) (own_pk (own_pk (own_sh (FP.i2d (own_u i0)) (own_limv (own_lc i0)) (FP.i2d (own_wt i0))) (own_sh (FP.i2d (own_u i1)) (own_limv (own_lc i1)) (FP.i2d (own_wt i1)))) (own_pk (own_sh (FP.i2d (own_u i2)) (own_limv (own_lc i2)) (FP.i2d (own_wt i2))) (own_sh (FP.i2d (own_u i3)) (own_limv (own_lc i3)) (FP.i2d (own_wt i3))))))), .second, .val (.long (own_ss i0)), .second, .val (.long (own_ss i1)), .second, .val (.long (own_ss i2)), .second, .val (.long (own_ss i3)), .second, .unset, .unset] [(.int (1 : Int32))])) _
        refine XS.goto X165.here hx rfl (pc0 := 121) (pc' := 125) rfl (hb hby at_121) (by decide) (by decide) ?_
        exact kt
      obtain ⟨fs, hr, hrun, hended, hWE⟩ := Stand.leaveW (s := s) (vm₁ := T135.vm) X165 hS135 (by rw [c165_0]; exact (Nat.le_refl _)) (v := some (.int (1 : Int32))) (fun h => by rw [Bd.returns] at h; cases h)
      refine ⟨_, _, pre0 _ ?_, hrun, hended, _, _, rfl, ?_, hWE.1, hWE.2.1, hWE.2.2.1, hWE.2.2.2.mono (by decide) (by decide)⟩
      · show Steps p.tables e below (s₁.setTop (mkF m 0 #[.val (.int i0), .val (.int i1), .val (.int i2), .val (.int i3), .unset, .unset, .unset, .unset, .unset, .unset, .unset, .unset, .unset, .unset, .unset, .unset, .unset, .unset] [])) _
        refine st1 _ ?_
        refine sg7 _ ?_
        refine st8 _ ?_
        refine sg9 _ ?_
        refine st10 _ ?_
        refine sg11 _ ?_
        refine st12 _ ?_
        refine sg13 _ ?_
        refine st14 _ ?_
        refine st15.trans ?_
        refine sg21 _ ?_
        refine st22 _ ?_
        refine sg33 _ ?_
        refine st34.trans ?_
        refine sg48 _ ?_
        refine st49.trans ?_
        refine sg66 _ ?_
        refine st67.trans ?_
        refine sg87 _ ?_
        refine st88.trans ?_
        refine st111.trans ?_
        refine sg134 _ ?_
        refine st135.trans ?_
        refine sg158 _ ?_
        refine st159 _ ?_
        refine sg160 _ ?_
        refine st161 _ ?_
        refine sg162 _ ?_
        refine st163 _ ?_
        refine sg164 _ ?_
        refine st165 _ ?_
        refine sg166 _ ?_
        refine sg167 _ ?_
        refine sg171 _ ?_
        show Steps p.tables e below (T165.setTop (mkF m 125 #[.val (.int i0), .val (.int i1), .val (.int i2), .val (.int i3), .val (.ref b1), .val (.ref b22), .val (.double (FP.dmul (4636737291354636288 : UInt64) (own_pk (own_pk (own_sh (FP.i2d (own_u i0)) (own_limv (own_lc i0)) (FP.i2d (own_wt i0))) (own_sh (FP.i2d (own_u i1)) (own_limv (own_lc i1)) (FP.i2d (own_wt i1)))) (own_pk (own_sh (FP.i2d (own_u i2)) (own_limv (own_lc i2)) (FP.i2d (own_wt i2))) (own_sh (FP.i2d (own_u i3)) (own_limv (own_lc i3)) (FP.i2d (own_wt i3))))))), .second, .val (.long (own_ss i0)), .second, .val (.long (own_ss i1)), .second, .val (.long (own_ss i2)), .second, .val (.long (own_ss i3)), .second, .unset, .unset] [(.int (1 : Int32))])) _
        exact retN X165 hx (t := .boolean) Bd.returns (by simp) (hb hby at_125) hr
      · show Q_rm0 Z i0 i1 i2 i3 h0 n0 _ T165.heap _
        rw [c165_0]
        exact ⟨rfl, N165⟩
    · have sg168 : ∀ target, Steps p.tables e below (T165.setTop (mkF m 101 #[.val (.int i0), .val (.int i1), .val (.int i2), .val (.int i3), .val (.ref b1), .val (.ref b22), .val (.double (FP.dmul (4636737291354636288 : UInt64) (own_pk (own_pk (own_sh (FP.i2d (own_u i0)) (own_limv (own_lc i0)) (FP.i2d (own_wt i0))) (own_sh (FP.i2d (own_u i1)) (own_limv (own_lc i1)) (FP.i2d (own_wt i1)))) (own_pk (own_sh (FP.i2d (own_u i2)) (own_limv (own_lc i2)) (FP.i2d (own_wt i2))) (own_sh (FP.i2d (own_u i3)) (own_limv (own_lc i3)) (FP.i2d (own_wt i3))))))), .second, .val (.long (own_ss i0)), .second, .val (.long (own_ss i1)), .second, .val (.long (own_ss i2)), .second, .val (.long (own_ss i3)), .second, .unset, .unset] [(.int (lcmpW (own_ss i2) (0 : Int64)))])) target → Steps p.tables e below (T165.setTop (mkF m 94 #[.val (.int i0), .val (.int i1), .val (.int i2), .val (.int i3), .val (.ref b1), .val (.ref b22), .val (.double (FP.dmul (4636737291354636288 : UInt64) (own_pk (own_pk (own_sh (FP.i2d (own_u i0)) (own_limv (own_lc i0)) (FP.i2d (own_wt i0))) (own_sh (FP.i2d (own_u i1)) (own_limv (own_lc i1)) (FP.i2d (own_wt i1)))) (own_pk (own_sh (FP.i2d (own_u i2)) (own_limv (own_lc i2)) (FP.i2d (own_wt i2))) (own_sh (FP.i2d (own_u i3)) (own_limv (own_lc i3)) (FP.i2d (own_wt i3))))))), .second, .val (.long (own_ss i0)), .second, .val (.long (own_ss i1)), .second, .val (.long (own_ss i2)), .second, .val (.long (own_ss i3)), .second, .unset, .unset] [(.int (lcmpW (own_ss i1) (0 : Int64)))])) target := by
        intro target kt
        show Steps p.tables e below (T165.setTop (mkF m 94 #[.val (.int i0), .val (.int i1), .val (.int i2), .val (.int i3), .val (.ref b1), .val (.ref b22), .val (.double (FP.dmul (4636737291354636288 : UInt64) (own_pk (own_pk (own_sh (FP.i2d (own_u i0)) (own_limv (own_lc i0)) (FP.i2d (own_wt i0))) (own_sh (FP.i2d (own_u i1)) (own_limv (own_lc i1)) (FP.i2d (own_wt i1)))) (own_pk (own_sh (FP.i2d (own_u i2)) (own_limv (own_lc i2)) (FP.i2d (own_wt i2))) (own_sh (FP.i2d (own_u i3)) (own_limv (own_lc i3)) (FP.i2d (own_wt i3))))))), .second, .val (.long (own_ss i0)), .second, .val (.long (own_ss i1)), .second, .val (.long (own_ss i2)), .second, .val (.long (own_ss i3)), .second, .unset, .unset] [(.int (lcmpW (own_ss i1) (0 : Int64)))])) _
        refine XS.ifNo X165.here hx rfl (hb hby at_94) rfl ((if0 _ _).trans (flt (h2 : ¬ ((lcmpW (own_ss i1) (0 : Int64)) < (0 : Int32)))).1) ?_
        show Steps p.tables e below (T165.setTop (mkF m 97 #[.val (.int i0), .val (.int i1), .val (.int i2), .val (.int i3), .val (.ref b1), .val (.ref b22), .val (.double (FP.dmul (4636737291354636288 : UInt64) (own_pk (own_pk (own_sh (FP.i2d (own_u i0)) (own_limv (own_lc i0)) (FP.i2d (own_wt i0))) (own_sh (FP.i2d (own_u i1)) (own_limv (own_lc i1)) (FP.i2d (own_wt i1)))) (own_pk (own_sh (FP.i2d (own_u i2)) (own_limv (own_lc i2)) (FP.i2d (own_wt i2))) (own_sh (FP.i2d (own_u i3)) (own_limv (own_lc i3)) (FP.i2d (own_wt i3))))))), .second, .val (.long (own_ss i0)), .second, .val (.long (own_ss i1)), .second, .val (.long (own_ss i2)), .second, .val (.long (own_ss i3)), .second, .unset, .unset] [])) _
        refine XS.lload X165.here hx rfl (hb hby at_97) rfl ?_
        show Steps p.tables e below (T165.setTop (mkF m 99 #[.val (.int i0), .val (.int i1), .val (.int i2), .val (.int i3), .val (.ref b1), .val (.ref b22), .val (.double (FP.dmul (4636737291354636288 : UInt64) (own_pk (own_pk (own_sh (FP.i2d (own_u i0)) (own_limv (own_lc i0)) (FP.i2d (own_wt i0))) (own_sh (FP.i2d (own_u i1)) (own_limv (own_lc i1)) (FP.i2d (own_wt i1)))) (own_pk (own_sh (FP.i2d (own_u i2)) (own_limv (own_lc i2)) (FP.i2d (own_wt i2))) (own_sh (FP.i2d (own_u i3)) (own_limv (own_lc i3)) (FP.i2d (own_wt i3))))))), .second, .val (.long (own_ss i0)), .second, .val (.long (own_ss i1)), .second, .val (.long (own_ss i2)), .second, .val (.long (own_ss i3)), .second, .unset, .unset] [(.long (own_ss i2))])) _
        refine XS.lconst X165.here hx rfl (hb hby at_99) ?_
        show Steps p.tables e below (T165.setTop (mkF m 100 #[.val (.int i0), .val (.int i1), .val (.int i2), .val (.int i3), .val (.ref b1), .val (.ref b22), .val (.double (FP.dmul (4636737291354636288 : UInt64) (own_pk (own_pk (own_sh (FP.i2d (own_u i0)) (own_limv (own_lc i0)) (FP.i2d (own_wt i0))) (own_sh (FP.i2d (own_u i1)) (own_limv (own_lc i1)) (FP.i2d (own_wt i1)))) (own_pk (own_sh (FP.i2d (own_u i2)) (own_limv (own_lc i2)) (FP.i2d (own_wt i2))) (own_sh (FP.i2d (own_u i3)) (own_limv (own_lc i3)) (FP.i2d (own_wt i3))))))), .second, .val (.long (own_ss i0)), .second, .val (.long (own_ss i1)), .second, .val (.long (own_ss i2)), .second, .val (.long (own_ss i3)), .second, .unset, .unset] [(.long (0 : Int64)), (.long (own_ss i2))])) _
        refine XS.lcmp X165.here hx rfl (hb hby at_100) rfl ?_
        exact kt
      by_cases h3 : (lcmpW (own_ss i2) (0 : Int64)) < (0 : Int32)
      · have sg172 : ∀ target, Steps p.tables e below (T165.setTop (mkF m 125 #[.val (.int i0), .val (.int i1), .val (.int i2), .val (.int i3), .val (.ref b1), .val (.ref b22), .val (.double (FP.dmul (4636737291354636288 : UInt64) (own_pk (own_pk (own_sh (FP.i2d (own_u i0)) (own_limv (own_lc i0)) (FP.i2d (own_wt i0))) (own_sh (FP.i2d (own_u i1)) (own_limv (own_lc i1)) (FP.i2d (own_wt i1)))) (own_pk (own_sh (FP.i2d (own_u i2)) (own_limv (own_lc i2)) (FP.i2d (own_wt i2))) (own_sh (FP.i2d (own_u i3)) (own_limv (own_lc i3)) (FP.i2d (own_wt i3))))))), .second, .val (.long (own_ss i0)), .second, .val (.long (own_ss i1)), .second, .val (.long (own_ss i2)), .second, .val (.long (own_ss i3)), .second, .unset, .unset] [(.int (1 : Int32))])) target → Steps p.tables e below (T165.setTop (mkF m 101 #[.val (.int i0), .val (.int i1), .val (.int i2), .val (.int i3), .val (.ref b1), .val (.ref b22), .val (.double (FP.dmul (4636737291354636288 : UInt64) (own_pk (own_pk (own_sh (FP.i2d (own_u i0)) (own_limv (own_lc i0)) (FP.i2d (own_wt i0))) (own_sh (FP.i2d (own_u i1)) (own_limv (own_lc i1)) (FP.i2d (own_wt i1)))) (own_pk (own_sh (FP.i2d (own_u i2)) (own_limv (own_lc i2)) (FP.i2d (own_wt i2))) (own_sh (FP.i2d (own_u i3)) (own_limv (own_lc i3)) (FP.i2d (own_wt i3))))))), .second, .val (.long (own_ss i0)), .second, .val (.long (own_ss i1)), .second, .val (.long (own_ss i2)), .second, .val (.long (own_ss i3)), .second, .unset, .unset] [(.int (lcmpW (own_ss i2) (0 : Int64)))])) target := by
          intro target kt
          show Steps p.tables e below (T165.setTop (mkF m 101 #[.val (.int i0), .val (.int i1), .val (.int i2), .val (.int i3), .val (.ref b1), .val (.ref b22), .val (.double (FP.dmul (4636737291354636288 : UInt64) (own_pk (own_pk (own_sh (FP.i2d (own_u i0)) (own_limv (own_lc i0)) (FP.i2d (own_wt i0))) (own_sh (FP.i2d (own_u i1)) (own_limv (own_lc i1)) (FP.i2d (own_wt i1)))) (own_pk (own_sh (FP.i2d (own_u i2)) (own_limv (own_lc i2)) (FP.i2d (own_wt i2))) (own_sh (FP.i2d (own_u i3)) (own_limv (own_lc i3)) (FP.i2d (own_wt i3))))))), .second, .val (.long (own_ss i0)), .second, .val (.long (own_ss i1)), .second, .val (.long (own_ss i2)), .second, .val (.long (own_ss i3)), .second, .unset, .unset] [(.int (lcmpW (own_ss i2) (0 : Int64)))])) _
          refine XS.ifYes X165.here hx rfl (pc0 := 101) (pc' := 111) rfl (hb hby at_101) rfl ((if0 _ _).trans (tlt (h3 : (lcmpW (own_ss i2) (0 : Int64)) < (0 : Int32))).1) (by decide) (by decide) ?_
          show Steps p.tables e below (T165.setTop (mkF m 111 #[.val (.int i0), .val (.int i1), .val (.int i2), .val (.int i3), .val (.ref b1), .val (.ref b22), .val (.double (FP.dmul (4636737291354636288 : UInt64) (own_pk (own_pk (own_sh (FP.i2d (own_u i0)) (own_limv (own_lc i0)) (FP.i2d (own_wt i0))) (own_sh (FP.i2d (own_u i1)) (own_limv (own_lc i1)) (FP.i2d (own_wt i1)))) (own_pk (own_sh (FP.i2d (own_u i2)) (own_limv (own_lc i2)) (FP.i2d (own_wt i2))) (own_sh (FP.i2d (own_u i3)) (own_limv (own_lc i3)) (FP.i2d (own_wt i3))))))), .second, .val (.long (own_ss i0)), .second, .val (.long (own_ss i1)), .second, .val (.long (own_ss i2)), .second, .val (.long (own_ss i3)), .second, .unset, .unset] [])) _
          refine XS.dload X165.here hx rfl (hb hby at_111) rfl ?_
          show Steps p.tables e below (T165.setTop (mkF m 113 #[.val (.int i0), .val (.int i1), .val (.int i2), .val (.int i3), .val (.ref b1), .val (.ref b22), .val (.double (FP.dmul (4636737291354636288 : UInt64) (own_pk (own_pk (own_sh (FP.i2d (own_u i0)) (own_limv (own_lc i0)) (FP.i2d (own_wt i0))) (own_sh (FP.i2d (own_u i1)) (own_limv (own_lc i1)) (FP.i2d (own_wt i1)))) (own_pk (own_sh (FP.i2d (own_u i2)) (own_limv (own_lc i2)) (FP.i2d (own_wt i2))) (own_sh (FP.i2d (own_u i3)) (own_limv (own_lc i3)) (FP.i2d (own_wt i3))))))), .second, .val (.long (own_ss i0)), .second, .val (.long (own_ss i1)), .second, .val (.long (own_ss i2)), .second, .val (.long (own_ss i3)), .second, .unset, .unset] [(.double (FP.dmul (4636737291354636288 : UInt64) (own_pk (own_pk (own_sh (FP.i2d (own_u i0)) (own_limv (own_lc i0)) (FP.i2d (own_wt i0))) (own_sh (FP.i2d (own_u i1)) (own_limv (own_lc i1)) (FP.i2d (own_wt i1)))) (own_pk (own_sh (FP.i2d (own_u i2)) (own_limv (own_lc i2)) (FP.i2d (own_wt i2))) (own_sh (FP.i2d (own_u i3)) (own_limv (own_lc i3)) (FP.i2d (own_wt i3)))))))])) _
          refine X165.ldc2DoubleC hx hown135 (mvT hZ135 (hw _ (List.mem_of_getElem? (i := 144) rfl))) (g := (mkF m 113 #[.val (.int i0), .val (.int i1), .val (.int i2), .val (.int i3), .val (.ref b1), .val (.ref b22), .val (.double (FP.dmul (4636737291354636288 : UInt64) (own_pk (own_pk (own_sh (FP.i2d (own_u i0)) (own_limv (own_lc i0)) (FP.i2d (own_wt i0))) (own_sh (FP.i2d (own_u i1)) (own_limv (own_lc i1)) (FP.i2d (own_wt i1)))) (own_pk (own_sh (FP.i2d (own_u i2)) (own_limv (own_lc i2)) (FP.i2d (own_wt i2))) (own_sh (FP.i2d (own_u i3)) (own_limv (own_lc i3)) (FP.i2d (own_wt i3))))))), .second, .val (.long (own_ss i0)), .second, .val (.long (own_ss i1)), .second, .val (.long (own_ss i2)), .second, .val (.long (own_ss i3)), .second, .unset, .unset] [(.double (FP.dmul (4636737291354636288 : UInt64) (own_pk (own_pk (own_sh (FP.i2d (own_u i0)) (own_limv (own_lc i0)) (FP.i2d (own_wt i0))) (own_sh (FP.i2d (own_u i1)) (own_limv (own_lc i1)) (FP.i2d (own_wt i1)))) (own_pk (own_sh (FP.i2d (own_u i2)) (own_limv (own_lc i2)) (FP.i2d (own_wt i2))) (own_sh (FP.i2d (own_u i3)) (own_limv (own_lc i3)) (FP.i2d (own_wt i3)))))))])) rfl (hb hby at_113) _ ?_
          show Steps p.tables e below (T165.setTop (mkF m 116 #[.val (.int i0), .val (.int i1), .val (.int i2), .val (.int i3), .val (.ref b1), .val (.ref b22), .val (.double (FP.dmul (4636737291354636288 : UInt64) (own_pk (own_pk (own_sh (FP.i2d (own_u i0)) (own_limv (own_lc i0)) (FP.i2d (own_wt i0))) (own_sh (FP.i2d (own_u i1)) (own_limv (own_lc i1)) (FP.i2d (own_wt i1)))) (own_pk (own_sh (FP.i2d (own_u i2)) (own_limv (own_lc i2)) (FP.i2d (own_wt i2))) (own_sh (FP.i2d (own_u i3)) (own_limv (own_lc i3)) (FP.i2d (own_wt i3))))))), .second, .val (.long (own_ss i0)), .second, .val (.long (own_ss i1)), .second, .val (.long (own_ss i2)), .second, .val (.long (own_ss i3)), .second, .unset, .unset] [(.double (9218868437227405312 : UInt64)), (.double (FP.dmul (4636737291354636288 : UInt64) (own_pk (own_pk (own_sh (FP.i2d (own_u i0)) (own_limv (own_lc i0)) (FP.i2d (own_wt i0))) (own_sh (FP.i2d (own_u i1)) (own_limv (own_lc i1)) (FP.i2d (own_wt i1)))) (own_pk (own_sh (FP.i2d (own_u i2)) (own_limv (own_lc i2)) (FP.i2d (own_wt i2))) (own_sh (FP.i2d (own_u i3)) (own_limv (own_lc i3)) (FP.i2d (own_wt i3)))))))])) _
          refine XS.dcmpS X165.here hx rfl (v := (0 : Int32)) (hb hby at_116) rfl (own_infc RM (own_mx_r (own_mx_l (own_neg h3)))) ?_
          show Steps p.tables e below (T165.setTop (mkF m 117 #[.val (.int i0), .val (.int i1), .val (.int i2), .val (.int i3), .val (.ref b1), .val (.ref b22), .val (.double (FP.dmul (4636737291354636288 : UInt64) (own_pk (own_pk (own_sh (FP.i2d (own_u i0)) (own_limv (own_lc i0)) (FP.i2d (own_wt i0))) (own_sh (FP.i2d (own_u i1)) (own_limv (own_lc i1)) (FP.i2d (own_wt i1)))) (own_pk (own_sh (FP.i2d (own_u i2)) (own_limv (own_lc i2)) (FP.i2d (own_wt i2))) (own_sh (FP.i2d (own_u i3)) (own_limv (own_lc i3)) (FP.i2d (own_wt i3))))))), .second, .val (.long (own_ss i0)), .second, .val (.long (own_ss i1)), .second, .val (.long (own_ss i2)), .second, .val (.long (own_ss i3)), .second, .unset, .unset] [(.int (0 : Int32))])) _
          refine XS.ifNo X165.here hx rfl (hb hby at_117) rfl ((if0 _ _).trans (teq (by decide : (0 : Int32) = (0 : Int32))).2) ?_
          show Steps p.tables e below (T165.setTop (mkF m 120 #[.val (.int i0), .val (.int i1), .val (.int i2), .val (.int i3), .val (.ref b1), .val (.ref b22), .val (.double (FP.dmul (4636737291354636288 : UInt64) (own_pk (own_pk (own_sh (FP.i2d (own_u i0)) (own_limv (own_lc i0)) (FP.i2d (own_wt i0))) (own_sh (FP.i2d (own_u i1)) (own_limv (own_lc i1)) (FP.i2d (own_wt i1)))) (own_pk (own_sh (FP.i2d (own_u i2)) (own_limv (own_lc i2)) (FP.i2d (own_wt i2))) (own_sh (FP.i2d (own_u i3)) (own_limv (own_lc i3)) (FP.i2d (own_wt i3))))))), .second, .val (.long (own_ss i0)), .second, .val (.long (own_ss i1)), .second, .val (.long (own_ss i2)), .second, .val (.long (own_ss i3)), .second, .unset, .unset] [])) _
          refine XS.iconst X165.here hx rfl (hb hby at_120) ?_
          show Steps p.tables e below (T165.setTop (mkF m 121 #[.val (.int i0), .val (.int i1), .val (.int i2), .val (.int i3), .val (.ref b1), .val (.ref b22), .val (.double (FP.dmul (4636737291354636288 : UInt64) (own_pk (own_pk (own_sh (FP.i2d (own_u i0)) (own_limv (own_lc i0)) (FP.i2d (own_wt i0))) (own_sh (FP.i2d (own_u i1)) (own_limv (own_lc i1)) (FP.i2d (own_wt i1)))) (own_pk (own_sh (FP.i2d (own_u i2)) (own_limv (own_lc i2)) (FP.i2d (own_wt i2))) (own_sh (FP.i2d (own_u i3)) (own_limv (own_lc i3)) (FP.i2d (own_wt i3))))))), .second, .val (.long (own_ss i0)), .second, .val (.long (own_ss i1)), .second, .val (.long (own_ss i2)), .second, .val (.long (own_ss i3)), .second, .unset, .unset] [(.int (1 : Int32))])) _
          refine XS.goto X165.here hx rfl (pc0 := 121) (pc' := 125) rfl (hb hby at_121) (by decide) (by decide) ?_
          exact kt
        obtain ⟨fs, hr, hrun, hended, hWE⟩ := Stand.leaveW (s := s) (vm₁ := T135.vm) X165 hS135 (by rw [c165_0]; exact (Nat.le_refl _)) (v := some (.int (1 : Int32))) (fun h => by rw [Bd.returns] at h; cases h)
        refine ⟨_, _, pre0 _ ?_, hrun, hended, _, _, rfl, ?_, hWE.1, hWE.2.1, hWE.2.2.1, hWE.2.2.2.mono (by decide) (by decide)⟩
        · show Steps p.tables e below (s₁.setTop (mkF m 0 #[.val (.int i0), .val (.int i1), .val (.int i2), .val (.int i3), .unset, .unset, .unset, .unset, .unset, .unset, .unset, .unset, .unset, .unset, .unset, .unset, .unset, .unset] [])) _
          refine st1 _ ?_
          refine sg7 _ ?_
          refine st8 _ ?_
          refine sg9 _ ?_
          refine st10 _ ?_
          refine sg11 _ ?_
          refine st12 _ ?_
          refine sg13 _ ?_
          refine st14 _ ?_
          refine st15.trans ?_
          refine sg21 _ ?_
          refine st22 _ ?_
          refine sg33 _ ?_
          refine st34.trans ?_
          refine sg48 _ ?_
          refine st49.trans ?_
          refine sg66 _ ?_
          refine st67.trans ?_
          refine sg87 _ ?_
          refine st88.trans ?_
          refine st111.trans ?_
          refine sg134 _ ?_
          refine st135.trans ?_
          refine sg158 _ ?_
          refine st159 _ ?_
          refine sg160 _ ?_
          refine st161 _ ?_
          refine sg162 _ ?_
          refine st163 _ ?_
          refine sg164 _ ?_
          refine st165 _ ?_
          refine sg166 _ ?_
          refine sg167 _ ?_
          refine sg168 _ ?_
          refine sg172 _ ?_
          show Steps p.tables e below (T165.setTop (mkF m 125 #[.val (.int i0), .val (.int i1), .val (.int i2), .val (.int i3), .val (.ref b1), .val (.ref b22), .val (.double (FP.dmul (4636737291354636288 : UInt64) (own_pk (own_pk (own_sh (FP.i2d (own_u i0)) (own_limv (own_lc i0)) (FP.i2d (own_wt i0))) (own_sh (FP.i2d (own_u i1)) (own_limv (own_lc i1)) (FP.i2d (own_wt i1)))) (own_pk (own_sh (FP.i2d (own_u i2)) (own_limv (own_lc i2)) (FP.i2d (own_wt i2))) (own_sh (FP.i2d (own_u i3)) (own_limv (own_lc i3)) (FP.i2d (own_wt i3))))))), .second, .val (.long (own_ss i0)), .second, .val (.long (own_ss i1)), .second, .val (.long (own_ss i2)), .second, .val (.long (own_ss i3)), .second, .unset, .unset] [(.int (1 : Int32))])) _
          exact retN X165 hx (t := .boolean) Bd.returns (by simp) (hb hby at_125) hr
        · show Q_rm0 Z i0 i1 i2 i3 h0 n0 _ T165.heap _
          rw [c165_0]
          exact ⟨rfl, N165⟩
      · have sg169 : ∀ target, Steps p.tables e below (T165.setTop (mkF m 108 #[.val (.int i0), .val (.int i1), .val (.int i2), .val (.int i3), .val (.ref b1), .val (.ref b22), .val (.double (FP.dmul (4636737291354636288 : UInt64) (own_pk (own_pk (own_sh (FP.i2d (own_u i0)) (own_limv (own_lc i0)) (FP.i2d (own_wt i0))) (own_sh (FP.i2d (own_u i1)) (own_limv (own_lc i1)) (FP.i2d (own_wt i1)))) (own_pk (own_sh (FP.i2d (own_u i2)) (own_limv (own_lc i2)) (FP.i2d (own_wt i2))) (own_sh (FP.i2d (own_u i3)) (own_limv (own_lc i3)) (FP.i2d (own_wt i3))))))), .second, .val (.long (own_ss i0)), .second, .val (.long (own_ss i1)), .second, .val (.long (own_ss i2)), .second, .val (.long (own_ss i3)), .second, .unset, .unset] [(.int (lcmpW (own_ss i3) (0 : Int64)))])) target → Steps p.tables e below (T165.setTop (mkF m 101 #[.val (.int i0), .val (.int i1), .val (.int i2), .val (.int i3), .val (.ref b1), .val (.ref b22), .val (.double (FP.dmul (4636737291354636288 : UInt64) (own_pk (own_pk (own_sh (FP.i2d (own_u i0)) (own_limv (own_lc i0)) (FP.i2d (own_wt i0))) (own_sh (FP.i2d (own_u i1)) (own_limv (own_lc i1)) (FP.i2d (own_wt i1)))) (own_pk (own_sh (FP.i2d (own_u i2)) (own_limv (own_lc i2)) (FP.i2d (own_wt i2))) (own_sh (FP.i2d (own_u i3)) (own_limv (own_lc i3)) (FP.i2d (own_wt i3))))))), .second, .val (.long (own_ss i0)), .second, .val (.long (own_ss i1)), .second, .val (.long (own_ss i2)), .second, .val (.long (own_ss i3)), .second, .unset, .unset] [(.int (lcmpW (own_ss i2) (0 : Int64)))])) target := by
          intro target kt
          show Steps p.tables e below (T165.setTop (mkF m 101 #[.val (.int i0), .val (.int i1), .val (.int i2), .val (.int i3), .val (.ref b1), .val (.ref b22), .val (.double (FP.dmul (4636737291354636288 : UInt64) (own_pk (own_pk (own_sh (FP.i2d (own_u i0)) (own_limv (own_lc i0)) (FP.i2d (own_wt i0))) (own_sh (FP.i2d (own_u i1)) (own_limv (own_lc i1)) (FP.i2d (own_wt i1)))) (own_pk (own_sh (FP.i2d (own_u i2)) (own_limv (own_lc i2)) (FP.i2d (own_wt i2))) (own_sh (FP.i2d (own_u i3)) (own_limv (own_lc i3)) (FP.i2d (own_wt i3))))))), .second, .val (.long (own_ss i0)), .second, .val (.long (own_ss i1)), .second, .val (.long (own_ss i2)), .second, .val (.long (own_ss i3)), .second, .unset, .unset] [(.int (lcmpW (own_ss i2) (0 : Int64)))])) _
          refine XS.ifNo X165.here hx rfl (hb hby at_101) rfl ((if0 _ _).trans (flt (h3 : ¬ ((lcmpW (own_ss i2) (0 : Int64)) < (0 : Int32)))).1) ?_
          show Steps p.tables e below (T165.setTop (mkF m 104 #[.val (.int i0), .val (.int i1), .val (.int i2), .val (.int i3), .val (.ref b1), .val (.ref b22), .val (.double (FP.dmul (4636737291354636288 : UInt64) (own_pk (own_pk (own_sh (FP.i2d (own_u i0)) (own_limv (own_lc i0)) (FP.i2d (own_wt i0))) (own_sh (FP.i2d (own_u i1)) (own_limv (own_lc i1)) (FP.i2d (own_wt i1)))) (own_pk (own_sh (FP.i2d (own_u i2)) (own_limv (own_lc i2)) (FP.i2d (own_wt i2))) (own_sh (FP.i2d (own_u i3)) (own_limv (own_lc i3)) (FP.i2d (own_wt i3))))))), .second, .val (.long (own_ss i0)), .second, .val (.long (own_ss i1)), .second, .val (.long (own_ss i2)), .second, .val (.long (own_ss i3)), .second, .unset, .unset] [])) _
          refine XS.lload X165.here hx rfl (hb hby at_104) rfl ?_
          show Steps p.tables e below (T165.setTop (mkF m 106 #[.val (.int i0), .val (.int i1), .val (.int i2), .val (.int i3), .val (.ref b1), .val (.ref b22), .val (.double (FP.dmul (4636737291354636288 : UInt64) (own_pk (own_pk (own_sh (FP.i2d (own_u i0)) (own_limv (own_lc i0)) (FP.i2d (own_wt i0))) (own_sh (FP.i2d (own_u i1)) (own_limv (own_lc i1)) (FP.i2d (own_wt i1)))) (own_pk (own_sh (FP.i2d (own_u i2)) (own_limv (own_lc i2)) (FP.i2d (own_wt i2))) (own_sh (FP.i2d (own_u i3)) (own_limv (own_lc i3)) (FP.i2d (own_wt i3))))))), .second, .val (.long (own_ss i0)), .second, .val (.long (own_ss i1)), .second, .val (.long (own_ss i2)), .second, .val (.long (own_ss i3)), .second, .unset, .unset] [(.long (own_ss i3))])) _
          refine XS.lconst X165.here hx rfl (hb hby at_106) ?_
          show Steps p.tables e below (T165.setTop (mkF m 107 #[.val (.int i0), .val (.int i1), .val (.int i2), .val (.int i3), .val (.ref b1), .val (.ref b22), .val (.double (FP.dmul (4636737291354636288 : UInt64) (own_pk (own_pk (own_sh (FP.i2d (own_u i0)) (own_limv (own_lc i0)) (FP.i2d (own_wt i0))) (own_sh (FP.i2d (own_u i1)) (own_limv (own_lc i1)) (FP.i2d (own_wt i1)))) (own_pk (own_sh (FP.i2d (own_u i2)) (own_limv (own_lc i2)) (FP.i2d (own_wt i2))) (own_sh (FP.i2d (own_u i3)) (own_limv (own_lc i3)) (FP.i2d (own_wt i3))))))), .second, .val (.long (own_ss i0)), .second, .val (.long (own_ss i1)), .second, .val (.long (own_ss i2)), .second, .val (.long (own_ss i3)), .second, .unset, .unset] [(.long (0 : Int64)), (.long (own_ss i3))])) _
          refine XS.lcmp X165.here hx rfl (hb hby at_107) rfl ?_
          exact kt
        by_cases h4 : (lcmpW (own_ss i3) (0 : Int64)) < (0 : Int32)
        · have sg173 : ∀ target, Steps p.tables e below (T165.setTop (mkF m 125 #[.val (.int i0), .val (.int i1), .val (.int i2), .val (.int i3), .val (.ref b1), .val (.ref b22), .val (.double (FP.dmul (4636737291354636288 : UInt64) (own_pk (own_pk (own_sh (FP.i2d (own_u i0)) (own_limv (own_lc i0)) (FP.i2d (own_wt i0))) (own_sh (FP.i2d (own_u i1)) (own_limv (own_lc i1)) (FP.i2d (own_wt i1)))) (own_pk (own_sh (FP.i2d (own_u i2)) (own_limv (own_lc i2)) (FP.i2d (own_wt i2))) (own_sh (FP.i2d (own_u i3)) (own_limv (own_lc i3)) (FP.i2d (own_wt i3))))))), .second, .val (.long (own_ss i0)), .second, .val (.long (own_ss i1)), .second, .val (.long (own_ss i2)), .second, .val (.long (own_ss i3)), .second, .unset, .unset] [(.int (1 : Int32))])) target → Steps p.tables e below (T165.setTop (mkF m 108 #[.val (.int i0), .val (.int i1), .val (.int i2), .val (.int i3), .val (.ref b1), .val (.ref b22), .val (.double (FP.dmul (4636737291354636288 : UInt64) (own_pk (own_pk (own_sh (FP.i2d (own_u i0)) (own_limv (own_lc i0)) (FP.i2d (own_wt i0))) (own_sh (FP.i2d (own_u i1)) (own_limv (own_lc i1)) (FP.i2d (own_wt i1)))) (own_pk (own_sh (FP.i2d (own_u i2)) (own_limv (own_lc i2)) (FP.i2d (own_wt i2))) (own_sh (FP.i2d (own_u i3)) (own_limv (own_lc i3)) (FP.i2d (own_wt i3))))))), .second, .val (.long (own_ss i0)), .second, .val (.long (own_ss i1)), .second, .val (.long (own_ss i2)), .second, .val (.long (own_ss i3)), .second, .unset, .unset] [(.int (lcmpW (own_ss i3) (0 : Int64)))])) target := by
            intro target kt
            show Steps p.tables e below (T165.setTop (mkF m 108 #[.val (.int i0), .val (.int i1), .val (.int i2), .val (.int i3), .val (.ref b1), .val (.ref b22), .val (.double (FP.dmul (4636737291354636288 : UInt64) (own_pk (own_pk (own_sh (FP.i2d (own_u i0)) (own_limv (own_lc i0)) (FP.i2d (own_wt i0))) (own_sh (FP.i2d (own_u i1)) (own_limv (own_lc i1)) (FP.i2d (own_wt i1)))) (own_pk (own_sh (FP.i2d (own_u i2)) (own_limv (own_lc i2)) (FP.i2d (own_wt i2))) (own_sh (FP.i2d (own_u i3)) (own_limv (own_lc i3)) (FP.i2d (own_wt i3))))))), .second, .val (.long (own_ss i0)), .second, .val (.long (own_ss i1)), .second, .val (.long (own_ss i2)), .second, .val (.long (own_ss i3)), .second, .unset, .unset] [(.int (lcmpW (own_ss i3) (0 : Int64)))])) _
            refine XS.ifNo X165.here hx rfl (hb hby at_108) rfl ((if0 _ _).trans (tlt (h4 : (lcmpW (own_ss i3) (0 : Int64)) < (0 : Int32))).2.1) ?_
            show Steps p.tables e below (T165.setTop (mkF m 111 #[.val (.int i0), .val (.int i1), .val (.int i2), .val (.int i3), .val (.ref b1), .val (.ref b22), .val (.double (FP.dmul (4636737291354636288 : UInt64) (own_pk (own_pk (own_sh (FP.i2d (own_u i0)) (own_limv (own_lc i0)) (FP.i2d (own_wt i0))) (own_sh (FP.i2d (own_u i1)) (own_limv (own_lc i1)) (FP.i2d (own_wt i1)))) (own_pk (own_sh (FP.i2d (own_u i2)) (own_limv (own_lc i2)) (FP.i2d (own_wt i2))) (own_sh (FP.i2d (own_u i3)) (own_limv (own_lc i3)) (FP.i2d (own_wt i3))))))), .second, .val (.long (own_ss i0)), .second, .val (.long (own_ss i1)), .second, .val (.long (own_ss i2)), .second, .val (.long (own_ss i3)), .second, .unset, .unset] [])) _
            refine XS.dload X165.here hx rfl (hb hby at_111) rfl ?_
            show Steps p.tables e below (T165.setTop (mkF m 113 #[.val (.int i0), .val (.int i1), .val (.int i2), .val (.int i3), .val (.ref b1), .val (.ref b22), .val (.double (FP.dmul (4636737291354636288 : UInt64) (own_pk (own_pk (own_sh (FP.i2d (own_u i0)) (own_limv (own_lc i0)) (FP.i2d (own_wt i0))) (own_sh (FP.i2d (own_u i1)) (own_limv (own_lc i1)) (FP.i2d (own_wt i1)))) (own_pk (own_sh (FP.i2d (own_u i2)) (own_limv (own_lc i2)) (FP.i2d (own_wt i2))) (own_sh (FP.i2d (own_u i3)) (own_limv (own_lc i3)) (FP.i2d (own_wt i3))))))), .second, .val (.long (own_ss i0)), .second, .val (.long (own_ss i1)), .second, .val (.long (own_ss i2)), .second, .val (.long (own_ss i3)), .second, .unset, .unset] [(.double (FP.dmul (4636737291354636288 : UInt64) (own_pk (own_pk (own_sh (FP.i2d (own_u i0)) (own_limv (own_lc i0)) (FP.i2d (own_wt i0))) (own_sh (FP.i2d (own_u i1)) (own_limv (own_lc i1)) (FP.i2d (own_wt i1)))) (own_pk (own_sh (FP.i2d (own_u i2)) (own_limv (own_lc i2)) (FP.i2d (own_wt i2))) (own_sh (FP.i2d (own_u i3)) (own_limv (own_lc i3)) (FP.i2d (own_wt i3)))))))])) _
            refine X165.ldc2DoubleC hx hown135 (mvT hZ135 (hw _ (List.mem_of_getElem? (i := 144) rfl))) (g := (mkF m 113 #[.val (.int i0), .val (.int i1), .val (.int i2), .val (.int i3), .val (.ref b1), .val (.ref b22), .val (.double (FP.dmul (4636737291354636288 : UInt64) (own_pk (own_pk (own_sh (FP.i2d (own_u i0)) (own_limv (own_lc i0)) (FP.i2d (own_wt i0))) (own_sh (FP.i2d (own_u i1)) (own_limv (own_lc i1)) (FP.i2d (own_wt i1)))) (own_pk (own_sh (FP.i2d (own_u i2)) (own_limv (own_lc i2)) (FP.i2d (own_wt i2))) (own_sh (FP.i2d (own_u i3)) (own_limv (own_lc i3)) (FP.i2d (own_wt i3))))))), .second, .val (.long (own_ss i0)), .second, .val (.long (own_ss i1)), .second, .val (.long (own_ss i2)), .second, .val (.long (own_ss i3)), .second, .unset, .unset] [(.double (FP.dmul (4636737291354636288 : UInt64) (own_pk (own_pk (own_sh (FP.i2d (own_u i0)) (own_limv (own_lc i0)) (FP.i2d (own_wt i0))) (own_sh (FP.i2d (own_u i1)) (own_limv (own_lc i1)) (FP.i2d (own_wt i1)))) (own_pk (own_sh (FP.i2d (own_u i2)) (own_limv (own_lc i2)) (FP.i2d (own_wt i2))) (own_sh (FP.i2d (own_u i3)) (own_limv (own_lc i3)) (FP.i2d (own_wt i3)))))))])) rfl (hb hby at_113) _ ?_
            show Steps p.tables e below (T165.setTop (mkF m 116 #[.val (.int i0), .val (.int i1), .val (.int i2), .val (.int i3), .val (.ref b1), .val (.ref b22), .val (.double (FP.dmul (4636737291354636288 : UInt64) (own_pk (own_pk (own_sh (FP.i2d (own_u i0)) (own_limv (own_lc i0)) (FP.i2d (own_wt i0))) (own_sh (FP.i2d (own_u i1)) (own_limv (own_lc i1)) (FP.i2d (own_wt i1)))) (own_pk (own_sh (FP.i2d (own_u i2)) (own_limv (own_lc i2)) (FP.i2d (own_wt i2))) (own_sh (FP.i2d (own_u i3)) (own_limv (own_lc i3)) (FP.i2d (own_wt i3))))))), .second, .val (.long (own_ss i0)), .second, .val (.long (own_ss i1)), .second, .val (.long (own_ss i2)), .second, .val (.long (own_ss i3)), .second, .unset, .unset] [(.double (9218868437227405312 : UInt64)), (.double (FP.dmul (4636737291354636288 : UInt64) (own_pk (own_pk (own_sh (FP.i2d (own_u i0)) (own_limv (own_lc i0)) (FP.i2d (own_wt i0))) (own_sh (FP.i2d (own_u i1)) (own_limv (own_lc i1)) (FP.i2d (own_wt i1)))) (own_pk (own_sh (FP.i2d (own_u i2)) (own_limv (own_lc i2)) (FP.i2d (own_wt i2))) (own_sh (FP.i2d (own_u i3)) (own_limv (own_lc i3)) (FP.i2d (own_wt i3)))))))])) _
            refine XS.dcmpS X165.here hx rfl (v := (0 : Int32)) (hb hby at_116) rfl (own_infc RM (own_mx_r (own_mx_r (own_neg h4)))) ?_
            show Steps p.tables e below (T165.setTop (mkF m 117 #[.val (.int i0), .val (.int i1), .val (.int i2), .val (.int i3), .val (.ref b1), .val (.ref b22), .val (.double (FP.dmul (4636737291354636288 : UInt64) (own_pk (own_pk (own_sh (FP.i2d (own_u i0)) (own_limv (own_lc i0)) (FP.i2d (own_wt i0))) (own_sh (FP.i2d (own_u i1)) (own_limv (own_lc i1)) (FP.i2d (own_wt i1)))) (own_pk (own_sh (FP.i2d (own_u i2)) (own_limv (own_lc i2)) (FP.i2d (own_wt i2))) (own_sh (FP.i2d (own_u i3)) (own_limv (own_lc i3)) (FP.i2d (own_wt i3))))))), .second, .val (.long (own_ss i0)), .second, .val (.long (own_ss i1)), .second, .val (.long (own_ss i2)), .second, .val (.long (own_ss i3)), .second, .unset, .unset] [(.int (0 : Int32))])) _
            refine XS.ifNo X165.here hx rfl (hb hby at_117) rfl ((if0 _ _).trans (teq (by decide : (0 : Int32) = (0 : Int32))).2) ?_
            show Steps p.tables e below (T165.setTop (mkF m 120 #[.val (.int i0), .val (.int i1), .val (.int i2), .val (.int i3), .val (.ref b1), .val (.ref b22), .val (.double (FP.dmul (4636737291354636288 : UInt64) (own_pk (own_pk (own_sh (FP.i2d (own_u i0)) (own_limv (own_lc i0)) (FP.i2d (own_wt i0))) (own_sh (FP.i2d (own_u i1)) (own_limv (own_lc i1)) (FP.i2d (own_wt i1)))) (own_pk (own_sh (FP.i2d (own_u i2)) (own_limv (own_lc i2)) (FP.i2d (own_wt i2))) (own_sh (FP.i2d (own_u i3)) (own_limv (own_lc i3)) (FP.i2d (own_wt i3))))))), .second, .val (.long (own_ss i0)), .second, .val (.long (own_ss i1)), .second, .val (.long (own_ss i2)), .second, .val (.long (own_ss i3)), .second, .unset, .unset] [])) _
            refine XS.iconst X165.here hx rfl (hb hby at_120) ?_
            show Steps p.tables e below (T165.setTop (mkF m 121 #[.val (.int i0), .val (.int i1), .val (.int i2), .val (.int i3), .val (.ref b1), .val (.ref b22), .val (.double (FP.dmul (4636737291354636288 : UInt64) (own_pk (own_pk (own_sh (FP.i2d (own_u i0)) (own_limv (own_lc i0)) (FP.i2d (own_wt i0))) (own_sh (FP.i2d (own_u i1)) (own_limv (own_lc i1)) (FP.i2d (own_wt i1)))) (own_pk (own_sh (FP.i2d (own_u i2)) (own_limv (own_lc i2)) (FP.i2d (own_wt i2))) (own_sh (FP.i2d (own_u i3)) (own_limv (own_lc i3)) (FP.i2d (own_wt i3))))))), .second, .val (.long (own_ss i0)), .second, .val (.long (own_ss i1)), .second, .val (.long (own_ss i2)), .second, .val (.long (own_ss i3)), .second, .unset, .unset] [(.int (1 : Int32))])) _
            refine XS.goto X165.here hx rfl (pc0 := 121) (pc' := 125) rfl (hb hby at_121) (by decide) (by decide) ?_
            exact kt
          obtain ⟨fs, hr, hrun, hended, hWE⟩ := Stand.leaveW (s := s) (vm₁ := T135.vm) X165 hS135 (by rw [c165_0]; exact (Nat.le_refl _)) (v := some (.int (1 : Int32))) (fun h => by rw [Bd.returns] at h; cases h)
          refine ⟨_, _, pre0 _ ?_, hrun, hended, _, _, rfl, ?_, hWE.1, hWE.2.1, hWE.2.2.1, hWE.2.2.2.mono (by decide) (by decide)⟩
          · show Steps p.tables e below (s₁.setTop (mkF m 0 #[.val (.int i0), .val (.int i1), .val (.int i2), .val (.int i3), .unset, .unset, .unset, .unset, .unset, .unset, .unset, .unset, .unset, .unset, .unset, .unset, .unset, .unset] [])) _
            refine st1 _ ?_
            refine sg7 _ ?_
            refine st8 _ ?_
            refine sg9 _ ?_
            refine st10 _ ?_
            refine sg11 _ ?_
            refine st12 _ ?_
            refine sg13 _ ?_
            refine st14 _ ?_
            refine st15.trans ?_
            refine sg21 _ ?_
            refine st22 _ ?_
            refine sg33 _ ?_
            refine st34.trans ?_
            refine sg48 _ ?_
            refine st49.trans ?_
            refine sg66 _ ?_
            refine st67.trans ?_
            refine sg87 _ ?_
            refine st88.trans ?_
            refine st111.trans ?_
            refine sg134 _ ?_
            refine st135.trans ?_
            refine sg158 _ ?_
            refine st159 _ ?_
            refine sg160 _ ?_
            refine st161 _ ?_
            refine sg162 _ ?_
            refine st163 _ ?_
            refine sg164 _ ?_
            refine st165 _ ?_
            refine sg166 _ ?_
            refine sg167 _ ?_
            refine sg168 _ ?_
            refine sg169 _ ?_
            refine sg173 _ ?_
            show Steps p.tables e below (T165.setTop (mkF m 125 #[.val (.int i0), .val (.int i1), .val (.int i2), .val (.int i3), .val (.ref b1), .val (.ref b22), .val (.double (FP.dmul (4636737291354636288 : UInt64) (own_pk (own_pk (own_sh (FP.i2d (own_u i0)) (own_limv (own_lc i0)) (FP.i2d (own_wt i0))) (own_sh (FP.i2d (own_u i1)) (own_limv (own_lc i1)) (FP.i2d (own_wt i1)))) (own_pk (own_sh (FP.i2d (own_u i2)) (own_limv (own_lc i2)) (FP.i2d (own_wt i2))) (own_sh (FP.i2d (own_u i3)) (own_limv (own_lc i3)) (FP.i2d (own_wt i3))))))), .second, .val (.long (own_ss i0)), .second, .val (.long (own_ss i1)), .second, .val (.long (own_ss i2)), .second, .val (.long (own_ss i3)), .second, .unset, .unset] [(.int (1 : Int32))])) _
            exact retN X165 hx (t := .boolean) Bd.returns (by simp) (hb hby at_125) hr
          · show Q_rm0 Z i0 i1 i2 i3 h0 n0 _ T165.heap _
            rw [c165_0]
            exact ⟨rfl, N165⟩
        · have hM := own_max4 (own_pos h1) (own_pos h2) (own_pos h3) (own_pos h4)
          have hT := own_tail RM hM.1 hM.2
          have sg174 : ∀ target, Steps p.tables e below (T165.setTop (mkF m 130 #[.val (.int i0), .val (.int i1), .val (.int i2), .val (.int i3), .val (.ref b1), .val (.ref b22), .val (.double (FP.dmul (4636737291354636288 : UInt64) (own_pk (own_pk (own_sh (FP.i2d (own_u i0)) (own_limv (own_lc i0)) (FP.i2d (own_wt i0))) (own_sh (FP.i2d (own_u i1)) (own_limv (own_lc i1)) (FP.i2d (own_wt i1)))) (own_pk (own_sh (FP.i2d (own_u i2)) (own_limv (own_lc i2)) (FP.i2d (own_wt i2))) (own_sh (FP.i2d (own_u i3)) (own_limv (own_lc i3)) (FP.i2d (own_wt i3))))))), .second, .val (.long (own_ss i0)), .second, .val (.long (own_ss i1)), .second, .val (.long (own_ss i2)), .second, .val (.long (own_ss i3)), .second, .unset, .unset] [(.long (own_ss i1)), (.long (own_ss i0))])) target → Steps p.tables e below (T165.setTop (mkF m 108 #[.val (.int i0), .val (.int i1), .val (.int i2), .val (.int i3), .val (.ref b1), .val (.ref b22), .val (.double (FP.dmul (4636737291354636288 : UInt64) (own_pk (own_pk (own_sh (FP.i2d (own_u i0)) (own_limv (own_lc i0)) (FP.i2d (own_wt i0))) (own_sh (FP.i2d (own_u i1)) (own_limv (own_lc i1)) (FP.i2d (own_wt i1)))) (own_pk (own_sh (FP.i2d (own_u i2)) (own_limv (own_lc i2)) (FP.i2d (own_wt i2))) (own_sh (FP.i2d (own_u i3)) (own_limv (own_lc i3)) (FP.i2d (own_wt i3))))))), .second, .val (.long (own_ss i0)), .second, .val (.long (own_ss i1)), .second, .val (.long (own_ss i2)), .second, .val (.long (own_ss i3)), .second, .unset, .unset] [(.int (lcmpW (own_ss i3) (0 : Int64)))])) target := by
            intro target kt
            show Steps p.tables e below (T165.setTop (mkF m 108 #[.val (.int i0), .val (.int i1), .val (.int i2), .val (.int i3), .val (.ref b1), .val (.ref b22), .val (.double (FP.dmul (4636737291354636288 : UInt64) (own_pk (own_pk (own_sh (FP.i2d (own_u i0)) (own_limv (own_lc i0)) (FP.i2d (own_wt i0))) (own_sh (FP.i2d (own_u i1)) (own_limv (own_lc i1)) (FP.i2d (own_wt i1)))) (own_pk (own_sh (FP.i2d (own_u i2)) (own_limv (own_lc i2)) (FP.i2d (own_wt i2))) (own_sh (FP.i2d (own_u i3)) (own_limv (own_lc i3)) (FP.i2d (own_wt i3))))))), .second, .val (.long (own_ss i0)), .second, .val (.long (own_ss i1)), .second, .val (.long (own_ss i2)), .second, .val (.long (own_ss i3)), .second, .unset, .unset] [(.int (lcmpW (own_ss i3) (0 : Int64)))])) _
            refine XS.ifYes X165.here hx rfl (pc0 := 108) (pc' := 126) rfl (hb hby at_108) rfl ((if0 _ _).trans (flt (h4 : ¬ ((lcmpW (own_ss i3) (0 : Int64)) < (0 : Int32)))).2.1) (by decide) (by decide) ?_
            show Steps p.tables e below (T165.setTop (mkF m 126 #[.val (.int i0), .val (.int i1), .val (.int i2), .val (.int i3), .val (.ref b1), .val (.ref b22), .val (.double (FP.dmul (4636737291354636288 : UInt64) (own_pk (own_pk (own_sh (FP.i2d (own_u i0)) (own_limv (own_lc i0)) (FP.i2d (own_wt i0))) (own_sh (FP.i2d (own_u i1)) (own_limv (own_lc i1)) (FP.i2d (own_wt i1)))) (own_pk (own_sh (FP.i2d (own_u i2)) (own_limv (own_lc i2)) (FP.i2d (own_wt i2))) (own_sh (FP.i2d (own_u i3)) (own_limv (own_lc i3)) (FP.i2d (own_wt i3))))))), .second, .val (.long (own_ss i0)), .second, .val (.long (own_ss i1)), .second, .val (.long (own_ss i2)), .second, .val (.long (own_ss i3)), .second, .unset, .unset] [])) _
            refine XS.lload X165.here hx rfl (hb hby at_126) rfl ?_
            show Steps p.tables e below (T165.setTop (mkF m 128 #[.val (.int i0), .val (.int i1), .val (.int i2), .val (.int i3), .val (.ref b1), .val (.ref b22), .val (.double (FP.dmul (4636737291354636288 : UInt64) (own_pk (own_pk (own_sh (FP.i2d (own_u i0)) (own_limv (own_lc i0)) (FP.i2d (own_wt i0))) (own_sh (FP.i2d (own_u i1)) (own_limv (own_lc i1)) (FP.i2d (own_wt i1)))) (own_pk (own_sh (FP.i2d (own_u i2)) (own_limv (own_lc i2)) (FP.i2d (own_wt i2))) (own_sh (FP.i2d (own_u i3)) (own_limv (own_lc i3)) (FP.i2d (own_wt i3))))))), .second, .val (.long (own_ss i0)), .second, .val (.long (own_ss i1)), .second, .val (.long (own_ss i2)), .second, .val (.long (own_ss i3)), .second, .unset, .unset] [(.long (own_ss i0))])) _
            refine XS.lload X165.here hx rfl (hb hby at_128) rfl ?_
            exact kt
          obtain ⟨_, _, ⟨T175, L175, k175, n175⟩, -, X175, ⟨Lc175, hQ175, l175, y175, z175⟩, st175⟩ := Jvm.LawKit.callS X165 hx (y := (⟨"java/lang/Math", "max", "(JJ)J"⟩ : MethodName)) hown135 (mvT hZ135 (hw _ (List.mem_of_getElem? (i := 131) rfl))) (mvT hZ135 (hw _ (List.mem_of_getElem? (i := 132) rfl))) (mvT hZ135 (hw _ (List.mem_of_getElem? (i := 36) rfl))) (mvT hZ135 (hw _ (List.mem_of_getElem? (i := 133) rfl))) (by decide) (backOf (W := 0) (rm21 l Z a0 hw [] (own_ss i0) (own_ss i1) T135.heap n0 Zs135 ) hZ135 (hw _ (List.mem_of_getElem? (i := 133) rfl)) (hw _ (List.mem_of_getElem? (i := 36) rfl)) (by decide) (by decide)) (g := (mkF m 130 #[.val (.int i0), .val (.int i1), .val (.int i2), .val (.int i3), .val (.ref b1), .val (.ref b22), .val (.double (FP.dmul (4636737291354636288 : UInt64) (own_pk (own_pk (own_sh (FP.i2d (own_u i0)) (own_limv (own_lc i0)) (FP.i2d (own_wt i0))) (own_sh (FP.i2d (own_u i1)) (own_limv (own_lc i1)) (FP.i2d (own_wt i1)))) (own_pk (own_sh (FP.i2d (own_u i2)) (own_limv (own_lc i2)) (FP.i2d (own_wt i2))) (own_sh (FP.i2d (own_u i3)) (own_limv (own_lc i3)) (FP.i2d (own_wt i3))))))), .second, .val (.long (own_ss i0)), .second, .val (.long (own_ss i1)), .second, .val (.long (own_ss i2)), .second, .val (.long (own_ss i3)), .second, .unset, .unset] [(.long (own_ss i1)), (.long (own_ss i0))])) rfl (by rw [hml]; rfl) (argsL := [(.long (own_ss i0)), (.long (own_ss i1))]) (rest := []) (lenOf pd_12 rfl) rfl (by show 2 * 0 + _ ≤ _; exact Nat.le_of_eq rfl) (hb hby at_130) (fun _ _ => ⟨rfl, c165_0, (by decide : 40 + 0 ≤ _), (by decide : 572 + 0 ≤ _)⟩)
          dsimp only [Pt.U, Pt.locs, Pt.cells, Pt.slots] at X175 l175 y175 z175 st175 hQ175
          subst l175 y175 z175
          obtain ⟨rfl, N175q, c175_0⟩ := hQ175
          have N175 := Fr.app N165 N175q
          have sg176 : ∀ target, Steps p.tables e below (T175.setTop (mkF m 137 #[.val (.int i0), .val (.int i1), .val (.int i2), .val (.int i3), .val (.ref b1), .val (.ref b22), .val (.double (FP.dmul (4636737291354636288 : UInt64) (own_pk (own_pk (own_sh (FP.i2d (own_u i0)) (own_limv (own_lc i0)) (FP.i2d (own_wt i0))) (own_sh (FP.i2d (own_u i1)) (own_limv (own_lc i1)) (FP.i2d (own_wt i1)))) (own_pk (own_sh (FP.i2d (own_u i2)) (own_limv (own_lc i2)) (FP.i2d (own_wt i2))) (own_sh (FP.i2d (own_u i3)) (own_limv (own_lc i3)) (FP.i2d (own_wt i3))))))), .second, .val (.long (own_ss i0)), .second, .val (.long (own_ss i1)), .second, .val (.long (own_ss i2)), .second, .val (.long (own_ss i3)), .second, .unset, .unset] [(.long (own_ss i3)), (.long (own_ss i2)), (.long (own_max (own_ss i0) (own_ss i1)))])) target → Steps p.tables e below (T175.setTop (mkF m 133 #[.val (.int i0), .val (.int i1), .val (.int i2), .val (.int i3), .val (.ref b1), .val (.ref b22), .val (.double (FP.dmul (4636737291354636288 : UInt64) (own_pk (own_pk (own_sh (FP.i2d (own_u i0)) (own_limv (own_lc i0)) (FP.i2d (own_wt i0))) (own_sh (FP.i2d (own_u i1)) (own_limv (own_lc i1)) (FP.i2d (own_wt i1)))) (own_pk (own_sh (FP.i2d (own_u i2)) (own_limv (own_lc i2)) (FP.i2d (own_wt i2))) (own_sh (FP.i2d (own_u i3)) (own_limv (own_lc i3)) (FP.i2d (own_wt i3))))))), .second, .val (.long (own_ss i0)), .second, .val (.long (own_ss i1)), .second, .val (.long (own_ss i2)), .second, .val (.long (own_ss i3)), .second, .unset, .unset] [(.long (own_max (own_ss i0) (own_ss i1)))])) target := by
            intro target kt
            show Steps p.tables e below (T175.setTop (mkF m 133 #[.val (.int i0), .val (.int i1), .val (.int i2), .val (.int i3), .val (.ref b1), .val (.ref b22), .val (.double (FP.dmul (4636737291354636288 : UInt64) (own_pk (own_pk (own_sh (FP.i2d (own_u i0)) (own_limv (own_lc i0)) (FP.i2d (own_wt i0))) (own_sh (FP.i2d (own_u i1)) (own_limv (own_lc i1)) (FP.i2d (own_wt i1)))) (own_pk (own_sh (FP.i2d (own_u i2)) (own_limv (own_lc i2)) (FP.i2d (own_wt i2))) (own_sh (FP.i2d (own_u i3)) (own_limv (own_lc i3)) (FP.i2d (own_wt i3))))))), .second, .val (.long (own_ss i0)), .second, .val (.long (own_ss i1)), .second, .val (.long (own_ss i2)), .second, .val (.long (own_ss i3)), .second, .unset, .unset] [(.long (own_max (own_ss i0) (own_ss i1)))])) _
            refine XS.lload X175.here hx rfl (hb hby at_133) rfl ?_
            show Steps p.tables e below (T175.setTop (mkF m 135 #[.val (.int i0), .val (.int i1), .val (.int i2), .val (.int i3), .val (.ref b1), .val (.ref b22), .val (.double (FP.dmul (4636737291354636288 : UInt64) (own_pk (own_pk (own_sh (FP.i2d (own_u i0)) (own_limv (own_lc i0)) (FP.i2d (own_wt i0))) (own_sh (FP.i2d (own_u i1)) (own_limv (own_lc i1)) (FP.i2d (own_wt i1)))) (own_pk (own_sh (FP.i2d (own_u i2)) (own_limv (own_lc i2)) (FP.i2d (own_wt i2))) (own_sh (FP.i2d (own_u i3)) (own_limv (own_lc i3)) (FP.i2d (own_wt i3))))))), .second, .val (.long (own_ss i0)), .second, .val (.long (own_ss i1)), .second, .val (.long (own_ss i2)), .second, .val (.long (own_ss i3)), .second, .unset, .unset] [(.long (own_ss i2)), (.long (own_max (own_ss i0) (own_ss i1)))])) _
            refine XS.lload X175.here hx rfl (hb hby at_135) rfl ?_
            exact kt
          obtain ⟨_, _, ⟨T177, L177, k177, n177⟩, -, X177, ⟨Lc177, hQ177, l177, y177, z177⟩, st177⟩ := Jvm.LawKit.callS X175 hx (y := (⟨"java/lang/Math", "max", "(JJ)J"⟩ : MethodName)) hown135 (mvT hZ135 (hw _ (List.mem_of_getElem? (i := 131) rfl))) (mvT hZ135 (hw _ (List.mem_of_getElem? (i := 132) rfl))) (mvT hZ135 (hw _ (List.mem_of_getElem? (i := 36) rfl))) (mvT hZ135 (hw _ (List.mem_of_getElem? (i := 133) rfl))) (by decide) (backOf (W := 2) (rm21 l Z a0 hw [] (own_ss i2) (own_ss i3) T135.heap n0 Zs135 ) hZ135 (hw _ (List.mem_of_getElem? (i := 133) rfl)) (hw _ (List.mem_of_getElem? (i := 36) rfl)) (by decide) (by decide)) (g := (mkF m 137 #[.val (.int i0), .val (.int i1), .val (.int i2), .val (.int i3), .val (.ref b1), .val (.ref b22), .val (.double (FP.dmul (4636737291354636288 : UInt64) (own_pk (own_pk (own_sh (FP.i2d (own_u i0)) (own_limv (own_lc i0)) (FP.i2d (own_wt i0))) (own_sh (FP.i2d (own_u i1)) (own_limv (own_lc i1)) (FP.i2d (own_wt i1)))) (own_pk (own_sh (FP.i2d (own_u i2)) (own_limv (own_lc i2)) (FP.i2d (own_wt i2))) (own_sh (FP.i2d (own_u i3)) (own_limv (own_lc i3)) (FP.i2d (own_wt i3))))))), .second, .val (.long (own_ss i0)), .second, .val (.long (own_ss i1)), .second, .val (.long (own_ss i2)), .second, .val (.long (own_ss i3)), .second, .unset, .unset] [(.long (own_ss i3)), (.long (own_ss i2)), (.long (own_max (own_ss i0) (own_ss i1)))])) rfl (by rw [hml]; rfl) (argsL := [(.long (own_ss i2)), (.long (own_ss i3))]) (rest := [(.long (own_max (own_ss i0) (own_ss i1)))]) (lenOf pd_12 rfl) rfl (by show 2 * 0 + _ ≤ _; exact Nat.le_of_eq rfl) (hb hby at_137) (fun _ _ => ⟨rfl, c175_0, (by decide : 40 + 0 ≤ _), (by decide : 572 + 0 ≤ _)⟩)
          dsimp only [Pt.U, Pt.locs, Pt.cells, Pt.slots] at X177 l177 y177 z177 st177 hQ177
          subst l177 y177 z177
          obtain ⟨rfl, N177q, c177_0⟩ := hQ177
          have N177 := Fr.app N175 N177q
          obtain ⟨_, _, ⟨T178, L178, k178, n178⟩, -, X178, ⟨Lc178, hQ178, l178, y178, z178⟩, st178⟩ := Jvm.LawKit.callS X177 hx (y := (⟨"java/lang/Math", "max", "(JJ)J"⟩ : MethodName)) hown135 (mvT hZ135 (hw _ (List.mem_of_getElem? (i := 131) rfl))) (mvT hZ135 (hw _ (List.mem_of_getElem? (i := 132) rfl))) (mvT hZ135 (hw _ (List.mem_of_getElem? (i := 36) rfl))) (mvT hZ135 (hw _ (List.mem_of_getElem? (i := 133) rfl))) (by decide) (backOf (W := 0) (rm21 l Z a0 hw [] (own_max (own_ss i0) (own_ss i1)) (own_max (own_ss i2) (own_ss i3)) T135.heap n0 Zs135 ) hZ135 (hw _ (List.mem_of_getElem? (i := 133) rfl)) (hw _ (List.mem_of_getElem? (i := 36) rfl)) (by decide) (by decide)) (g := (mkF m 140 #[.val (.int i0), .val (.int i1), .val (.int i2), .val (.int i3), .val (.ref b1), .val (.ref b22), .val (.double (FP.dmul (4636737291354636288 : UInt64) (own_pk (own_pk (own_sh (FP.i2d (own_u i0)) (own_limv (own_lc i0)) (FP.i2d (own_wt i0))) (own_sh (FP.i2d (own_u i1)) (own_limv (own_lc i1)) (FP.i2d (own_wt i1)))) (own_pk (own_sh (FP.i2d (own_u i2)) (own_limv (own_lc i2)) (FP.i2d (own_wt i2))) (own_sh (FP.i2d (own_u i3)) (own_limv (own_lc i3)) (FP.i2d (own_wt i3))))))), .second, .val (.long (own_ss i0)), .second, .val (.long (own_ss i1)), .second, .val (.long (own_ss i2)), .second, .val (.long (own_ss i3)), .second, .unset, .unset] [(.long (own_max (own_ss i2) (own_ss i3))), (.long (own_max (own_ss i0) (own_ss i1)))])) rfl (by rw [hml]; rfl) (argsL := [(.long (own_max (own_ss i0) (own_ss i1))), (.long (own_max (own_ss i2) (own_ss i3)))]) (rest := []) (lenOf pd_12 rfl) rfl (by show 2 * 0 + _ ≤ _; exact Nat.le_of_eq rfl) (hb hby at_140) (fun _ _ => ⟨rfl, c177_0, (by decide : 40 + 0 ≤ _), (by decide : 572 + 0 ≤ _)⟩)
          dsimp only [Pt.U, Pt.locs, Pt.cells, Pt.slots] at X178 l178 y178 z178 st178 hQ178
          subst l178 y178 z178
          obtain ⟨rfl, N178q, c178_0⟩ := hQ178
          have N178 := Fr.app N177 N178q
          have sg179 : ∀ target, Steps p.tables e below (T178.setTop (mkF m 167 #[.val (.int i0), .val (.int i1), .val (.int i2), .val (.int i3), .val (.ref b1), .val (.ref b22), .val (.double (FP.dmul (4636737291354636288 : UInt64) (own_pk (own_pk (own_sh (FP.i2d (own_u i0)) (own_limv (own_lc i0)) (FP.i2d (own_wt i0))) (own_sh (FP.i2d (own_u i1)) (own_limv (own_lc i1)) (FP.i2d (own_wt i1)))) (own_pk (own_sh (FP.i2d (own_u i2)) (own_limv (own_lc i2)) (FP.i2d (own_wt i2))) (own_sh (FP.i2d (own_u i3)) (own_limv (own_lc i3)) (FP.i2d (own_wt i3))))))), .second, .val (.long (own_ss i0)), .second, .val (.long (own_ss i1)), .second, .val (.long (own_ss i2)), .second, .val (.long (own_ss i3)), .second, .val (.long (own_max (own_max (own_ss i0) (own_ss i1)) (own_max (own_ss i2) (own_ss i3)))), .second] [(.int (1 : Int32))])) target → Steps p.tables e below (T178.setTop (mkF m 143 #[.val (.int i0), .val (.int i1), .val (.int i2), .val (.int i3), .val (.ref b1), .val (.ref b22), .val (.double (FP.dmul (4636737291354636288 : UInt64) (own_pk (own_pk (own_sh (FP.i2d (own_u i0)) (own_limv (own_lc i0)) (FP.i2d (own_wt i0))) (own_sh (FP.i2d (own_u i1)) (own_limv (own_lc i1)) (FP.i2d (own_wt i1)))) (own_pk (own_sh (FP.i2d (own_u i2)) (own_limv (own_lc i2)) (FP.i2d (own_wt i2))) (own_sh (FP.i2d (own_u i3)) (own_limv (own_lc i3)) (FP.i2d (own_wt i3))))))), .second, .val (.long (own_ss i0)), .second, .val (.long (own_ss i1)), .second, .val (.long (own_ss i2)), .second, .val (.long (own_ss i3)), .second, .unset, .unset] [(.long (own_max (own_max (own_ss i0) (own_ss i1)) (own_max (own_ss i2) (own_ss i3))))])) target := by
            intro target kt
            show Steps p.tables e below (T178.setTop (mkF m 143 #[.val (.int i0), .val (.int i1), .val (.int i2), .val (.int i3), .val (.ref b1), .val (.ref b22), .val (.double (FP.dmul (4636737291354636288 : UInt64) (own_pk (own_pk (own_sh (FP.i2d (own_u i0)) (own_limv (own_lc i0)) (FP.i2d (own_wt i0))) (own_sh (FP.i2d (own_u i1)) (own_limv (own_lc i1)) (FP.i2d (own_wt i1)))) (own_pk (own_sh (FP.i2d (own_u i2)) (own_limv (own_lc i2)) (FP.i2d (own_wt i2))) (own_sh (FP.i2d (own_u i3)) (own_limv (own_lc i3)) (FP.i2d (own_wt i3))))))), .second, .val (.long (own_ss i0)), .second, .val (.long (own_ss i1)), .second, .val (.long (own_ss i2)), .second, .val (.long (own_ss i3)), .second, .unset, .unset] [(.long (own_max (own_max (own_ss i0) (own_ss i1)) (own_max (own_ss i2) (own_ss i3))))])) _
            refine XS.lstore X178.here hx rfl (hb hby at_143) rfl (l' := #[.val (.int i0), .val (.int i1), .val (.int i2), .val (.int i3), .val (.ref b1), .val (.ref b22), .val (.double (FP.dmul (4636737291354636288 : UInt64) (own_pk (own_pk (own_sh (FP.i2d (own_u i0)) (own_limv (own_lc i0)) (FP.i2d (own_wt i0))) (own_sh (FP.i2d (own_u i1)) (own_limv (own_lc i1)) (FP.i2d (own_wt i1)))) (own_pk (own_sh (FP.i2d (own_u i2)) (own_limv (own_lc i2)) (FP.i2d (own_wt i2))) (own_sh (FP.i2d (own_u i3)) (own_limv (own_lc i3)) (FP.i2d (own_wt i3))))))), .second, .val (.long (own_ss i0)), .second, .val (.long (own_ss i1)), .second, .val (.long (own_ss i2)), .second, .val (.long (own_ss i3)), .second, .val (.long (own_max (own_max (own_ss i0) (own_ss i1)) (own_max (own_ss i2) (own_ss i3)))), .second]) rfl ?_
            show Steps p.tables e below (T178.setTop (mkF m 145 #[.val (.int i0), .val (.int i1), .val (.int i2), .val (.int i3), .val (.ref b1), .val (.ref b22), .val (.double (FP.dmul (4636737291354636288 : UInt64) (own_pk (own_pk (own_sh (FP.i2d (own_u i0)) (own_limv (own_lc i0)) (FP.i2d (own_wt i0))) (own_sh (FP.i2d (own_u i1)) (own_limv (own_lc i1)) (FP.i2d (own_wt i1)))) (own_pk (own_sh (FP.i2d (own_u i2)) (own_limv (own_lc i2)) (FP.i2d (own_wt i2))) (own_sh (FP.i2d (own_u i3)) (own_limv (own_lc i3)) (FP.i2d (own_wt i3))))))), .second, .val (.long (own_ss i0)), .second, .val (.long (own_ss i1)), .second, .val (.long (own_ss i2)), .second, .val (.long (own_ss i3)), .second, .val (.long (own_max (own_max (own_ss i0) (own_ss i1)) (own_max (own_ss i2) (own_ss i3)))), .second] [])) _
            refine XS.dload X178.here hx rfl (hb hby at_145) rfl ?_
            show Steps p.tables e below (T178.setTop (mkF m 147 #[.val (.int i0), .val (.int i1), .val (.int i2), .val (.int i3), .val (.ref b1), .val (.ref b22), .val (.double (FP.dmul (4636737291354636288 : UInt64) (own_pk (own_pk (own_sh (FP.i2d (own_u i0)) (own_limv (own_lc i0)) (FP.i2d (own_wt i0))) (own_sh (FP.i2d (own_u i1)) (own_limv (own_lc i1)) (FP.i2d (own_wt i1)))) (own_pk (own_sh (FP.i2d (own_u i2)) (own_limv (own_lc i2)) (FP.i2d (own_wt i2))) (own_sh (FP.i2d (own_u i3)) (own_limv (own_lc i3)) (FP.i2d (own_wt i3))))))), .second, .val (.long (own_ss i0)), .second, .val (.long (own_ss i1)), .second, .val (.long (own_ss i2)), .second, .val (.long (own_ss i3)), .second, .val (.long (own_max (own_max (own_ss i0) (own_ss i1)) (own_max (own_ss i2) (own_ss i3)))), .second] [(.double (FP.dmul (4636737291354636288 : UInt64) (own_pk (own_pk (own_sh (FP.i2d (own_u i0)) (own_limv (own_lc i0)) (FP.i2d (own_wt i0))) (own_sh (FP.i2d (own_u i1)) (own_limv (own_lc i1)) (FP.i2d (own_wt i1)))) (own_pk (own_sh (FP.i2d (own_u i2)) (own_limv (own_lc i2)) (FP.i2d (own_wt i2))) (own_sh (FP.i2d (own_u i3)) (own_limv (own_lc i3)) (FP.i2d (own_wt i3)))))))])) _
            refine X178.ldc2DoubleC hx hown135 (mvT hZ135 (hw _ (List.mem_of_getElem? (i := 134) rfl))) (g := (mkF m 147 #[.val (.int i0), .val (.int i1), .val (.int i2), .val (.int i3), .val (.ref b1), .val (.ref b22), .val (.double (FP.dmul (4636737291354636288 : UInt64) (own_pk (own_pk (own_sh (FP.i2d (own_u i0)) (own_limv (own_lc i0)) (FP.i2d (own_wt i0))) (own_sh (FP.i2d (own_u i1)) (own_limv (own_lc i1)) (FP.i2d (own_wt i1)))) (own_pk (own_sh (FP.i2d (own_u i2)) (own_limv (own_lc i2)) (FP.i2d (own_wt i2))) (own_sh (FP.i2d (own_u i3)) (own_limv (own_lc i3)) (FP.i2d (own_wt i3))))))), .second, .val (.long (own_ss i0)), .second, .val (.long (own_ss i1)), .second, .val (.long (own_ss i2)), .second, .val (.long (own_ss i3)), .second, .val (.long (own_max (own_max (own_ss i0) (own_ss i1)) (own_max (own_ss i2) (own_ss i3)))), .second] [(.double (FP.dmul (4636737291354636288 : UInt64) (own_pk (own_pk (own_sh (FP.i2d (own_u i0)) (own_limv (own_lc i0)) (FP.i2d (own_wt i0))) (own_sh (FP.i2d (own_u i1)) (own_limv (own_lc i1)) (FP.i2d (own_wt i1)))) (own_pk (own_sh (FP.i2d (own_u i2)) (own_limv (own_lc i2)) (FP.i2d (own_wt i2))) (own_sh (FP.i2d (own_u i3)) (own_limv (own_lc i3)) (FP.i2d (own_wt i3)))))))])) rfl (hb hby at_147) _ ?_
            show Steps p.tables e below (T178.setTop (mkF m 150 #[.val (.int i0), .val (.int i1), .val (.int i2), .val (.int i3), .val (.ref b1), .val (.ref b22), .val (.double (FP.dmul (4636737291354636288 : UInt64) (own_pk (own_pk (own_sh (FP.i2d (own_u i0)) (own_limv (own_lc i0)) (FP.i2d (own_wt i0))) (own_sh (FP.i2d (own_u i1)) (own_limv (own_lc i1)) (FP.i2d (own_wt i1)))) (own_pk (own_sh (FP.i2d (own_u i2)) (own_limv (own_lc i2)) (FP.i2d (own_wt i2))) (own_sh (FP.i2d (own_u i3)) (own_limv (own_lc i3)) (FP.i2d (own_wt i3))))))), .second, .val (.long (own_ss i0)), .second, .val (.long (own_ss i1)), .second, .val (.long (own_ss i2)), .second, .val (.long (own_ss i3)), .second, .val (.long (own_max (own_max (own_ss i0) (own_ss i1)) (own_max (own_ss i2) (own_ss i3)))), .second] [(.double (4636737291354636288 : UInt64)), (.double (FP.dmul (4636737291354636288 : UInt64) (own_pk (own_pk (own_sh (FP.i2d (own_u i0)) (own_limv (own_lc i0)) (FP.i2d (own_wt i0))) (own_sh (FP.i2d (own_u i1)) (own_limv (own_lc i1)) (FP.i2d (own_wt i1)))) (own_pk (own_sh (FP.i2d (own_u i2)) (own_limv (own_lc i2)) (FP.i2d (own_wt i2))) (own_sh (FP.i2d (own_u i3)) (own_limv (own_lc i3)) (FP.i2d (own_wt i3)))))))])) _
            refine XS.lload X178.here hx rfl (hb hby at_150) rfl ?_
            show Steps p.tables e below (T178.setTop (mkF m 152 #[.val (.int i0), .val (.int i1), .val (.int i2), .val (.int i3), .val (.ref b1), .val (.ref b22), .val (.double (FP.dmul (4636737291354636288 : UInt64) (own_pk (own_pk (own_sh (FP.i2d (own_u i0)) (own_limv (own_lc i0)) (FP.i2d (own_wt i0))) (own_sh (FP.i2d (own_u i1)) (own_limv (own_lc i1)) (FP.i2d (own_wt i1)))) (own_pk (own_sh (FP.i2d (own_u i2)) (own_limv (own_lc i2)) (FP.i2d (own_wt i2))) (own_sh (FP.i2d (own_u i3)) (own_limv (own_lc i3)) (FP.i2d (own_wt i3))))))), .second, .val (.long (own_ss i0)), .second, .val (.long (own_ss i1)), .second, .val (.long (own_ss i2)), .second, .val (.long (own_ss i3)), .second, .val (.long (own_max (own_max (own_ss i0) (own_ss i1)) (own_max (own_ss i2) (own_ss i3)))), .second] [(.long (own_max (own_max (own_ss i0) (own_ss i1)) (own_max (own_ss i2) (own_ss i3)))), (.double (4636737291354636288 : UInt64)), (.double (FP.dmul (4636737291354636288 : UInt64) (own_pk (own_pk (own_sh (FP.i2d (own_u i0)) (own_limv (own_lc i0)) (FP.i2d (own_wt i0))) (own_sh (FP.i2d (own_u i1)) (own_limv (own_lc i1)) (FP.i2d (own_wt i1)))) (own_pk (own_sh (FP.i2d (own_u i2)) (own_limv (own_lc i2)) (FP.i2d (own_wt i2))) (own_sh (FP.i2d (own_u i3)) (own_limv (own_lc i3)) (FP.i2d (own_wt i3)))))))])) _
            refine XS.l2dS X178.here hx rfl (v := (FP.l2d (own_max (own_max (own_ss i0) (own_ss i1)) (own_max (own_ss i2) (own_ss i3))))) (hb hby at_152) rfl rfl ?_
            show Steps p.tables e below (T178.setTop (mkF m 153 #[.val (.int i0), .val (.int i1), .val (.int i2), .val (.int i3), .val (.ref b1), .val (.ref b22), .val (.double (FP.dmul (4636737291354636288 : UInt64) (own_pk (own_pk (own_sh (FP.i2d (own_u i0)) (own_limv (own_lc i0)) (FP.i2d (own_wt i0))) (own_sh (FP.i2d (own_u i1)) (own_limv (own_lc i1)) (FP.i2d (own_wt i1)))) (own_pk (own_sh (FP.i2d (own_u i2)) (own_limv (own_lc i2)) (FP.i2d (own_wt i2))) (own_sh (FP.i2d (own_u i3)) (own_limv (own_lc i3)) (FP.i2d (own_wt i3))))))), .second, .val (.long (own_ss i0)), .second, .val (.long (own_ss i1)), .second, .val (.long (own_ss i2)), .second, .val (.long (own_ss i3)), .second, .val (.long (own_max (own_max (own_ss i0) (own_ss i1)) (own_max (own_ss i2) (own_ss i3)))), .second] [(.double (FP.l2d (own_max (own_max (own_ss i0) (own_ss i1)) (own_max (own_ss i2) (own_ss i3))))), (.double (4636737291354636288 : UInt64)), (.double (FP.dmul (4636737291354636288 : UInt64) (own_pk (own_pk (own_sh (FP.i2d (own_u i0)) (own_limv (own_lc i0)) (FP.i2d (own_wt i0))) (own_sh (FP.i2d (own_u i1)) (own_limv (own_lc i1)) (FP.i2d (own_wt i1)))) (own_pk (own_sh (FP.i2d (own_u i2)) (own_limv (own_lc i2)) (FP.i2d (own_wt i2))) (own_sh (FP.i2d (own_u i3)) (own_limv (own_lc i3)) (FP.i2d (own_wt i3)))))))])) _
            refine XS.dmulS X178.here hx rfl (v := (FP.dmul (4636737291354636288 : UInt64) (FP.l2d (own_max (own_max (own_ss i0) (own_ss i1)) (own_max (own_ss i2) (own_ss i3)))))) (hb hby at_153) rfl hT.1 rfl ?_
            show Steps p.tables e below (T178.setTop (mkF m 154 #[.val (.int i0), .val (.int i1), .val (.int i2), .val (.int i3), .val (.ref b1), .val (.ref b22), .val (.double (FP.dmul (4636737291354636288 : UInt64) (own_pk (own_pk (own_sh (FP.i2d (own_u i0)) (own_limv (own_lc i0)) (FP.i2d (own_wt i0))) (own_sh (FP.i2d (own_u i1)) (own_limv (own_lc i1)) (FP.i2d (own_wt i1)))) (own_pk (own_sh (FP.i2d (own_u i2)) (own_limv (own_lc i2)) (FP.i2d (own_wt i2))) (own_sh (FP.i2d (own_u i3)) (own_limv (own_lc i3)) (FP.i2d (own_wt i3))))))), .second, .val (.long (own_ss i0)), .second, .val (.long (own_ss i1)), .second, .val (.long (own_ss i2)), .second, .val (.long (own_ss i3)), .second, .val (.long (own_max (own_max (own_ss i0) (own_ss i1)) (own_max (own_ss i2) (own_ss i3)))), .second] [(.double (FP.dmul (4636737291354636288 : UInt64) (FP.l2d (own_max (own_max (own_ss i0) (own_ss i1)) (own_max (own_ss i2) (own_ss i3)))))), (.double (FP.dmul (4636737291354636288 : UInt64) (own_pk (own_pk (own_sh (FP.i2d (own_u i0)) (own_limv (own_lc i0)) (FP.i2d (own_wt i0))) (own_sh (FP.i2d (own_u i1)) (own_limv (own_lc i1)) (FP.i2d (own_wt i1)))) (own_pk (own_sh (FP.i2d (own_u i2)) (own_limv (own_lc i2)) (FP.i2d (own_wt i2))) (own_sh (FP.i2d (own_u i3)) (own_limv (own_lc i3)) (FP.i2d (own_wt i3)))))))])) _
            refine X178.ldc2DoubleC hx hown135 (mvT hZ135 (hw _ (List.mem_of_getElem? (i := 135) rfl))) (g := (mkF m 154 #[.val (.int i0), .val (.int i1), .val (.int i2), .val (.int i3), .val (.ref b1), .val (.ref b22), .val (.double (FP.dmul (4636737291354636288 : UInt64) (own_pk (own_pk (own_sh (FP.i2d (own_u i0)) (own_limv (own_lc i0)) (FP.i2d (own_wt i0))) (own_sh (FP.i2d (own_u i1)) (own_limv (own_lc i1)) (FP.i2d (own_wt i1)))) (own_pk (own_sh (FP.i2d (own_u i2)) (own_limv (own_lc i2)) (FP.i2d (own_wt i2))) (own_sh (FP.i2d (own_u i3)) (own_limv (own_lc i3)) (FP.i2d (own_wt i3))))))), .second, .val (.long (own_ss i0)), .second, .val (.long (own_ss i1)), .second, .val (.long (own_ss i2)), .second, .val (.long (own_ss i3)), .second, .val (.long (own_max (own_max (own_ss i0) (own_ss i1)) (own_max (own_ss i2) (own_ss i3)))), .second] [(.double (FP.dmul (4636737291354636288 : UInt64) (FP.l2d (own_max (own_max (own_ss i0) (own_ss i1)) (own_max (own_ss i2) (own_ss i3)))))), (.double (FP.dmul (4636737291354636288 : UInt64) (own_pk (own_pk (own_sh (FP.i2d (own_u i0)) (own_limv (own_lc i0)) (FP.i2d (own_wt i0))) (own_sh (FP.i2d (own_u i1)) (own_limv (own_lc i1)) (FP.i2d (own_wt i1)))) (own_pk (own_sh (FP.i2d (own_u i2)) (own_limv (own_lc i2)) (FP.i2d (own_wt i2))) (own_sh (FP.i2d (own_u i3)) (own_limv (own_lc i3)) (FP.i2d (own_wt i3)))))))])) rfl (hb hby at_154) _ ?_
            show Steps p.tables e below (T178.setTop (mkF m 157 #[.val (.int i0), .val (.int i1), .val (.int i2), .val (.int i3), .val (.ref b1), .val (.ref b22), .val (.double (FP.dmul (4636737291354636288 : UInt64) (own_pk (own_pk (own_sh (FP.i2d (own_u i0)) (own_limv (own_lc i0)) (FP.i2d (own_wt i0))) (own_sh (FP.i2d (own_u i1)) (own_limv (own_lc i1)) (FP.i2d (own_wt i1)))) (own_pk (own_sh (FP.i2d (own_u i2)) (own_limv (own_lc i2)) (FP.i2d (own_wt i2))) (own_sh (FP.i2d (own_u i3)) (own_limv (own_lc i3)) (FP.i2d (own_wt i3))))))), .second, .val (.long (own_ss i0)), .second, .val (.long (own_ss i1)), .second, .val (.long (own_ss i2)), .second, .val (.long (own_ss i3)), .second, .val (.long (own_max (own_max (own_ss i0) (own_ss i1)) (own_max (own_ss i2) (own_ss i3)))), .second] [(.double (4629700416936869888 : UInt64)), (.double (FP.dmul (4636737291354636288 : UInt64) (FP.l2d (own_max (own_max (own_ss i0) (own_ss i1)) (own_max (own_ss i2) (own_ss i3)))))), (.double (FP.dmul (4636737291354636288 : UInt64) (own_pk (own_pk (own_sh (FP.i2d (own_u i0)) (own_limv (own_lc i0)) (FP.i2d (own_wt i0))) (own_sh (FP.i2d (own_u i1)) (own_limv (own_lc i1)) (FP.i2d (own_wt i1)))) (own_pk (own_sh (FP.i2d (own_u i2)) (own_limv (own_lc i2)) (FP.i2d (own_wt i2))) (own_sh (FP.i2d (own_u i3)) (own_limv (own_lc i3)) (FP.i2d (own_wt i3)))))))])) _
            refine XS.ddivS X178.here hx rfl (v := (FP.ddiv (FP.dmul (4636737291354636288 : UInt64) (FP.l2d (own_max (own_max (own_ss i0) (own_ss i1)) (own_max (own_ss i2) (own_ss i3))))) (4629700416936869888 : UInt64))) (hb hby at_157) rfl hT.2.1 rfl ?_
            show Steps p.tables e below (T178.setTop (mkF m 158 #[.val (.int i0), .val (.int i1), .val (.int i2), .val (.int i3), .val (.ref b1), .val (.ref b22), .val (.double (FP.dmul (4636737291354636288 : UInt64) (own_pk (own_pk (own_sh (FP.i2d (own_u i0)) (own_limv (own_lc i0)) (FP.i2d (own_wt i0))) (own_sh (FP.i2d (own_u i1)) (own_limv (own_lc i1)) (FP.i2d (own_wt i1)))) (own_pk (own_sh (FP.i2d (own_u i2)) (own_limv (own_lc i2)) (FP.i2d (own_wt i2))) (own_sh (FP.i2d (own_u i3)) (own_limv (own_lc i3)) (FP.i2d (own_wt i3))))))), .second, .val (.long (own_ss i0)), .second, .val (.long (own_ss i1)), .second, .val (.long (own_ss i2)), .second, .val (.long (own_ss i3)), .second, .val (.long (own_max (own_max (own_ss i0) (own_ss i1)) (own_max (own_ss i2) (own_ss i3)))), .second] [(.double (FP.ddiv (FP.dmul (4636737291354636288 : UInt64) (FP.l2d (own_max (own_max (own_ss i0) (own_ss i1)) (own_max (own_ss i2) (own_ss i3))))) (4629700416936869888 : UInt64))), (.double (FP.dmul (4636737291354636288 : UInt64) (own_pk (own_pk (own_sh (FP.i2d (own_u i0)) (own_limv (own_lc i0)) (FP.i2d (own_wt i0))) (own_sh (FP.i2d (own_u i1)) (own_limv (own_lc i1)) (FP.i2d (own_wt i1)))) (own_pk (own_sh (FP.i2d (own_u i2)) (own_limv (own_lc i2)) (FP.i2d (own_wt i2))) (own_sh (FP.i2d (own_u i3)) (own_limv (own_lc i3)) (FP.i2d (own_wt i3)))))))])) _
            refine XS.dcmpS X178.here hx rfl (v := (0 : Int32)) (hb hby at_158) rfl hT.2.2 ?_
            show Steps p.tables e below (T178.setTop (mkF m 159 #[.val (.int i0), .val (.int i1), .val (.int i2), .val (.int i3), .val (.ref b1), .val (.ref b22), .val (.double (FP.dmul (4636737291354636288 : UInt64) (own_pk (own_pk (own_sh (FP.i2d (own_u i0)) (own_limv (own_lc i0)) (FP.i2d (own_wt i0))) (own_sh (FP.i2d (own_u i1)) (own_limv (own_lc i1)) (FP.i2d (own_wt i1)))) (own_pk (own_sh (FP.i2d (own_u i2)) (own_limv (own_lc i2)) (FP.i2d (own_wt i2))) (own_sh (FP.i2d (own_u i3)) (own_limv (own_lc i3)) (FP.i2d (own_wt i3))))))), .second, .val (.long (own_ss i0)), .second, .val (.long (own_ss i1)), .second, .val (.long (own_ss i2)), .second, .val (.long (own_ss i3)), .second, .val (.long (own_max (own_max (own_ss i0) (own_ss i1)) (own_max (own_ss i2) (own_ss i3)))), .second] [(.int (0 : Int32))])) _
            refine XS.ifNo X178.here hx rfl (hb hby at_159) rfl ((if0 _ _).trans (teq (by decide : (0 : Int32) = (0 : Int32))).2) ?_
            show Steps p.tables e below (T178.setTop (mkF m 162 #[.val (.int i0), .val (.int i1), .val (.int i2), .val (.int i3), .val (.ref b1), .val (.ref b22), .val (.double (FP.dmul (4636737291354636288 : UInt64) (own_pk (own_pk (own_sh (FP.i2d (own_u i0)) (own_limv (own_lc i0)) (FP.i2d (own_wt i0))) (own_sh (FP.i2d (own_u i1)) (own_limv (own_lc i1)) (FP.i2d (own_wt i1)))) (own_pk (own_sh (FP.i2d (own_u i2)) (own_limv (own_lc i2)) (FP.i2d (own_wt i2))) (own_sh (FP.i2d (own_u i3)) (own_limv (own_lc i3)) (FP.i2d (own_wt i3))))))), .second, .val (.long (own_ss i0)), .second, .val (.long (own_ss i1)), .second, .val (.long (own_ss i2)), .second, .val (.long (own_ss i3)), .second, .val (.long (own_max (own_max (own_ss i0) (own_ss i1)) (own_max (own_ss i2) (own_ss i3)))), .second] [])) _
            refine XS.iconst X178.here hx rfl (hb hby at_162) ?_
            show Steps p.tables e below (T178.setTop (mkF m 163 #[.val (.int i0), .val (.int i1), .val (.int i2), .val (.int i3), .val (.ref b1), .val (.ref b22), .val (.double (FP.dmul (4636737291354636288 : UInt64) (own_pk (own_pk (own_sh (FP.i2d (own_u i0)) (own_limv (own_lc i0)) (FP.i2d (own_wt i0))) (own_sh (FP.i2d (own_u i1)) (own_limv (own_lc i1)) (FP.i2d (own_wt i1)))) (own_pk (own_sh (FP.i2d (own_u i2)) (own_limv (own_lc i2)) (FP.i2d (own_wt i2))) (own_sh (FP.i2d (own_u i3)) (own_limv (own_lc i3)) (FP.i2d (own_wt i3))))))), .second, .val (.long (own_ss i0)), .second, .val (.long (own_ss i1)), .second, .val (.long (own_ss i2)), .second, .val (.long (own_ss i3)), .second, .val (.long (own_max (own_max (own_ss i0) (own_ss i1)) (own_max (own_ss i2) (own_ss i3)))), .second] [(.int (1 : Int32))])) _
            refine XS.goto X178.here hx rfl (pc0 := 163) (pc' := 167) rfl (hb hby at_163) (by decide) (by decide) ?_
            exact kt
          obtain ⟨fs, hr, hrun, hended, hWE⟩ := Stand.leaveW (s := s) (vm₁ := T135.vm) X178 hS135 (by rw [c178_0]; exact (Nat.le_refl _)) (v := some (.int (1 : Int32))) (fun h => by rw [Bd.returns] at h; cases h)
          refine ⟨_, _, pre0 _ ?_, hrun, hended, _, _, rfl, ?_, hWE.1, hWE.2.1, hWE.2.2.1, hWE.2.2.2.mono (by decide) (by decide)⟩
          · show Steps p.tables e below (s₁.setTop (mkF m 0 #[.val (.int i0), .val (.int i1), .val (.int i2), .val (.int i3), .unset, .unset, .unset, .unset, .unset, .unset, .unset, .unset, .unset, .unset, .unset, .unset, .unset, .unset] [])) _
            refine st1 _ ?_
            refine sg7 _ ?_
            refine st8 _ ?_
            refine sg9 _ ?_
            refine st10 _ ?_
            refine sg11 _ ?_
            refine st12 _ ?_
            refine sg13 _ ?_
            refine st14 _ ?_
            refine st15.trans ?_
            refine sg21 _ ?_
            refine st22 _ ?_
            refine sg33 _ ?_
            refine st34.trans ?_
            refine sg48 _ ?_
            refine st49.trans ?_
            refine sg66 _ ?_
            refine st67.trans ?_
            refine sg87 _ ?_
            refine st88.trans ?_
            refine st111.trans ?_
            refine sg134 _ ?_
            refine st135.trans ?_
            refine sg158 _ ?_
            refine st159 _ ?_
            refine sg160 _ ?_
            refine st161 _ ?_
            refine sg162 _ ?_
            refine st163 _ ?_
            refine sg164 _ ?_
            refine st165 _ ?_
            refine sg166 _ ?_
            refine sg167 _ ?_
            refine sg168 _ ?_
            refine sg169 _ ?_
            refine sg174 _ ?_
            refine st175 _ ?_
            refine sg176 _ ?_
            refine st177 _ ?_
            refine st178 _ ?_
            refine sg179 _ ?_
            show Steps p.tables e below (T178.setTop (mkF m 167 #[.val (.int i0), .val (.int i1), .val (.int i2), .val (.int i3), .val (.ref b1), .val (.ref b22), .val (.double (FP.dmul (4636737291354636288 : UInt64) (own_pk (own_pk (own_sh (FP.i2d (own_u i0)) (own_limv (own_lc i0)) (FP.i2d (own_wt i0))) (own_sh (FP.i2d (own_u i1)) (own_limv (own_lc i1)) (FP.i2d (own_wt i1)))) (own_pk (own_sh (FP.i2d (own_u i2)) (own_limv (own_lc i2)) (FP.i2d (own_wt i2))) (own_sh (FP.i2d (own_u i3)) (own_limv (own_lc i3)) (FP.i2d (own_wt i3))))))), .second, .val (.long (own_ss i0)), .second, .val (.long (own_ss i1)), .second, .val (.long (own_ss i2)), .second, .val (.long (own_ss i3)), .second, .val (.long (own_max (own_max (own_ss i0) (own_ss i1)) (own_max (own_ss i2) (own_ss i3)))), .second] [(.int (1 : Int32))])) _
            exact retN X178 hx (t := .boolean) Bd.returns (by simp) (hb hby at_167) hr
          · show Q_rm0 Z i0 i1 i2 i3 h0 n0 _ T178.heap _
            rw [c178_0]
            exact ⟨rfl, N178⟩
set_option maxRecDepth 65536 in
set_option maxHeartbeats 40000000 in
theorem comes_1 {Post : Tables → Env → Array Value → State → Outcome → State → Prop} (hpost : ∀ tb e args s v u, (limb_1_1.after args s (.returned v) u = true ∧ limb_1_2.after args s (.returned v) u = true ∧ True) → ReturnedEndW s (.returned v) u (Jvm.fieldLocs frame_1_writes args s ++ Jvm.arrayLocs frame_1_arrays args s ++ Jvm.staticLocs frame_1_statics s) 48 11456 → Post tb e args s (.returned v) u) :
    ArmFor flags0 classFile x code maxLocals ret World_1 tables_1 room_1 Calls_1 rest_1 Pre_1 Post := by
  intro l hfl _ _ p e ha hc hk s m args below hf hA hF happ hP
  obtain ⟨hcalls, hrest, hpre⟩ := hP
  obtain ⟨-, -, -, hnamed, -, -, -, hat⟩ := (Spec.applies_iff hf).mp happ
  obtain ⟨hg, hn⟩ := and_e (Cond.before_iff.mp (show (Jvm.Cond.and given_1 narrow_1).before args s = true from hpre))
  obtain ⟨g1, g2⟩ := and_e hg
  obtain ⟨g3, g4⟩ := and_e g2
  obtain ⟨g5, g6⟩ := and_e g4
  obtain ⟨g7, g8⟩ := and_e g6
  obtain ⟨w0, w1, w2, w3, rfl⟩ : ∃ w0 w1 w2 w3 : Value, args = #[w0, w1, w2, w3] := by
    have hs : args.size = 4 := by simpa [Cond.value, given_1] using g1
    obtain ⟨L⟩ := args
    match L, hs with
    | [w0, w1, w2, w3], _ => exact ⟨w0, w1, w2, w3, rfl⟩
  have hw := fun d (hd : d ∈ tables_1) => atoms_spec (ws := Jvm.Cond.code x code maxLocals ret :: tables_1) hat d (List.mem_cons_of_mem _ hd)
  have hfit : Fit s := fun {y c} hc i hi => by
    obtain ⟨ha, rfl⟩ := Array.getElem?_eq_some_iff.mp hc
    have q := List.all_eq_true.mp ((Array.all_eq_true_iff_forall_mem.mp hF) _ (Array.getElem_mem ha)) i (List.mem_range.mpr hi)
    simpa [Array.getElem?_eq_getElem hi] using q
  obtain ⟨i0, ei0⟩ := is_v g3
  obtain rfl : w0 = (.int i0) := Option.some.inj ei0
  obtain ⟨i1, ei1⟩ := is_v g5
  obtain rfl : w1 = (.int i1) := Option.some.inj ei1
  obtain ⟨i2, ei2⟩ := is_v g7
  obtain rfl : w2 = (.int i2) := Option.some.inj ei2
  obtain ⟨i3, ei3⟩ := is_v g8
  obtain rfl : w3 = (.int i3) := Option.some.inj ei3
  obtain ⟨n, o, h1, h2, h3, _, L, rfl, ⟨rfl, N⟩, hq⟩ := rm0 l s _ hw tables_1 i0 i1 i2 i3 s.heap s.heap.size (Nat.le_refl _)  p e ha hc hk s m _ below hf ((Spec.applies_iff_loose hf).mp happ).1 ⟨rfl, State.Warmed39.refl s, rfl⟩ trivial
  refine ⟨n, _, h1, h2, h3, hpost _ _ _ _ _ _ ⟨Cond.after_iff.mpr rfl, Cond.after_iff.mpr (eq_i res_at (Term.int_eval (1)) rfl), trivial⟩ ⟨hq.1, hq.2.1, hq.2.2.1, (hq.2.2.2.sift fun y hy => Or.inr (N y hy)).mono (by decide) (by decide)⟩⟩
theorem main_1_1 : Claimed_1_1 := comes_1 fun _ _ _ _ _ _ h hF => ⟨h.1, hF⟩
theorem main_1_2 : Claimed_1_2 := comes_1 fun _ _ _ _ _ _ h hF => ⟨h.2.1, hF⟩
end Jvm.Pilot.@@N@@
namespace Jvm.Pilot.@@N@@
open Jvm Jvm.ClassFile Sem Op Lib Jvm.Free Jvm.Stand Jvm.Pilot.@@N@@.Jvm.D
/-! MADE BY PROGRAM (witnessworld.py) out of the Statement's table words and the real class files: 22 classes; the members and pool entries that the words name. The judged class is class 1, her method 5. -/
namespace start1
open Jvm.ClassFile
def u (s : String) : CpInfo := .utf8 (stringToUtf16 s)
/-- a pool by its gaps: so many unusable entries, then the entry; so many at the end -/
def gap : Nat → List CpInfo → List CpInfo
  | 0, r => r
  | n + 1, r => .unusable :: gap n r
def poolList (es : List (Nat × CpInfo)) (last : Nat) : List CpInfo := es.foldr (fun e r => gap e.1 (e.2 :: r)) (gap last [])
def pool (es : List (Nat × CpInfo)) (last : Nat) : Array CpInfo := ⟨poolList es last⟩
def fileOf (pool : Array CpInfo) (this : Nat) (attrs : Array Attribute := #[]) (ms : Array MethodInfo := #[]) (fl : Nat := 33) (sup : Nat := 0) (ifs : Array Nat := #[]) (fds : Array FieldInfo := #[]) : ClassFile where
  minorVersion := 0
  majorVersion := 65
  constantPool := pool
  accessFlags := fl
  thisClass := this
  superClass := sup
  interfaces := ifs
  fields := fds
  methods := ms
  attributes := attrs
def plain (name : String) (sup : Option ClassId) : Class where
  name := name
  kind := .ordinary
  loader := none
  accessFlags := 33
  super := sup
  interfaces := #[]
  cf := none
  fields := #[]
  methods := #[]
  instanceTypes := #[]
  staticTypes := #[]
  resolved := #[]
  callSites := []
  init := .initialized
  statics := none
  mirror := none

def pool0 : Array CpInfo := pool [(5, u "<init>"), (0, u "()V"), (1, .class_ 10), (1, u "java/lang/Object")] 113

def k0c0 : Code := { maxStack := 0, maxLocals := 1, code := object_method_1_code, exceptionTable := #[], attributes := #[] }
def k0m0 : Method := { name := "<init>", desc := "()V", sig := { parameters := [], returnType := none }, accessFlags := 1, code := some k0c0 }
/-- java/lang/Object -/
def k0 : Class := { plain "java/lang/Object" none with
  accessFlags := 33
  interfaces := #[]
  cf := some (fileOf pool0 8 #[] #[{ accessFlags := 1, nameIndex := 5, descriptorIndex := 6, attributes := #[] }] 33 0 #[] #[])
  fields := #[]
  methods := #[k0m0]
  instanceTypes := #[]
  staticTypes := #[]
  resolved := Array.replicate 124 none
  statics := none }

def pool1 : Array CpInfo := pool [(2, .class_ 4), (1, u "java/lang/Object"), (0, u "<init>"), (0, u "()V"), (2, .double 1), (1, .class_ 12), (0, u "com/example/headroom/headroom/ResourceUsage"), (0, .integer 65535), (0, .methodref 15 16), (0, .class_ 17), (0, .nameAndType 18 19), (0, u "com/example/headroom/headroom/ResourceWeightsScorePinLaw"), (0, u "limitOf"), (0, u "(I)D"), (0, .methodref 11 21), (0, .nameAndType 5 22), (0, u "(DD)V"), (0, .long 18446744073709551615), (1, .long 32), (1, .class_ 28), (0, u "com/example/headroom/headroom/ResourceWeights"), (0, .methodref 15 30), (0, .nameAndType 31 19), (0, u "weightOf"), (0, .methodref 27 33), (0, .nameAndType 5 34), (0, u "(DDDD)V"), (0, .class_ 36), (0, u "com/example/headroom/headroom/BrokerUsage"), (0, .methodref 15 38), (0, .nameAndType 39 40), (0, u "usageOf"), (0, u "(I)Lcom/example/headroom/headroom/ResourceUsage;"), (0, .methodref 35 42), (0, .nameAndType 5 43), (0, u "(Lcom/example/headroom/headroom/ResourceUsage;Lcom/example/headroom/headroom/ResourceUsage;Lcom/example/headroom/headroom/ResourceUsage;Lcom/example/headroom/headroom/ResourceUsage;)V"), (0, .methodref 27 45), (0, .nameAndType 46 47), (0, u "score"), (0, u "(Lcom/example/headroom/headroom/BrokerUsage;)D"), (0, .methodref 15 49), (0, .nameAndType 50 51), (0, u "scaledShare"), (0, u "(I)J"), (0, .double 9218868437227405312), (1, .methodref 55 56), (0, .class_ 57), (0, .nameAndType 58 59), (0, u "java/lang/Math"), (0, u "max"), (0, u "(JJ)J"), (0, .double 4636737291354636288), (1, .double 4629700416936869888), (4, u "law"), (0, u "(IIII)Z")] 2

def k1m0 : Method := { name := "<init>", desc := "()V", sig := { parameters := [], returnType := none }, accessFlags := 1, code := none }
def k1c1 : Code := { maxStack := 3, maxLocals := 2, code := method_2_code, exceptionTable := #[], attributes := #[] }
def k1m1 : Method := { name := "limitOf", desc := "(I)D", sig := { parameters := [.int], returnType := some .double }, accessFlags := 10, code := some k1c1 }
def k1c2 : Code := { maxStack := 2, maxLocals := 1, code := method_3_code, exceptionTable := #[], attributes := #[] }
def k1m2 : Method := { name := "weightOf", desc := "(I)D", sig := { parameters := [.int], returnType := some .double }, accessFlags := 10, code := some k1c2 }
def k1c3 : Code := { maxStack := 6, maxLocals := 1, code := method_4_code, exceptionTable := #[], attributes := #[] }
def k1m3 : Method := { name := "usageOf", desc := "(I)Lcom/example/headroom/headroom/ResourceUsage;", sig := { parameters := [.int], returnType := some (.object "com/example/headroom/headroom/ResourceUsage") }, accessFlags := 10, code := some k1c3 }
def k1c4 : Code := { maxStack := 6, maxLocals := 6, code := method_5_code, exceptionTable := #[], attributes := #[] }
def k1m4 : Method := { name := "scaledShare", desc := "(I)J", sig := { parameters := [.int], returnType := some .long }, accessFlags := 10, code := some k1c4 }
def k1c5 : Code := { maxStack := 10, maxLocals := 18, code := code, exceptionTable := #[], attributes := #[] }
def k1m5 : Method := { name := "law", desc := "(IIII)Z", sig := { parameters := [.int, .int, .int, .int], returnType := some .boolean }, accessFlags := 9, code := some k1c5 }
/-- com/example/headroom/headroom/ResourceWeightsScorePinLaw -/
def k1 : Class := { plain "com/example/headroom/headroom/ResourceWeightsScorePinLaw" (some 0) with
  accessFlags := 49
  interfaces := #[]
  cf := some (fileOf pool1 15 #[] #[{ accessFlags := 1, nameIndex := 5, descriptorIndex := 6, attributes := #[] }, { accessFlags := 10, nameIndex := 18, descriptorIndex := 19, attributes := #[] }, { accessFlags := 10, nameIndex := 31, descriptorIndex := 19, attributes := #[] }, { accessFlags := 10, nameIndex := 39, descriptorIndex := 40, attributes := #[] }, { accessFlags := 10, nameIndex := 50, descriptorIndex := 51, attributes := #[] }, { accessFlags := 9, nameIndex := 67, descriptorIndex := 68, attributes := #[] }] 49 2 #[] #[])
  fields := #[]
  methods := #[k1m0, k1m1, k1m2, k1m3, k1m4, k1m5]
  instanceTypes := #[]
  staticTypes := #[]
  resolved := Array.replicate 71 none
  statics := none }

def pool2 : Array CpInfo := pool [(1, .methodref 2 3), (0, .class_ 4), (0, .nameAndType 5 6), (0, u "java/lang/Object"), (0, u "<init>"), (0, u "()V"), (0, .class_ 8), (0, u "java/lang/Record")] 13

def k2c0 : Code := { maxStack := 1, maxLocals := 1, code := jdk_30_method_1_code, exceptionTable := #[], attributes := #[] }
def k2m0 : Method := { name := "<init>", desc := "()V", sig := { parameters := [], returnType := none }, accessFlags := 4, code := some k2c0 }
/-- java/lang/Record -/
def k2 : Class := { plain "java/lang/Record" (some 0) with
  accessFlags := 1057
  interfaces := #[]
  cf := some (fileOf pool2 7 #[] #[{ accessFlags := 4, nameIndex := 5, descriptorIndex := 6, attributes := #[] }] 1057 2 #[] #[])
  fields := #[]
  methods := #[k2m0]
  instanceTypes := #[]
  staticTypes := #[]
  resolved := Array.replicate 22 none
  statics := none }

def pool3 : Array CpInfo := pool [(1, .methodref 2 3), (0, .class_ 4), (0, .nameAndType 5 6), (0, u "java/lang/Record"), (0, u "<init>"), (0, u "()V"), (0, .string 8), (0, u "cpu"), (0, .methodref 10 11), (0, .class_ 12), (0, .nameAndType 13 14), (0, u "com/example/headroom/headroom/Figures"), (0, u "requireNonNegative"), (0, u "(Ljava/lang/String;D)V"), (0, .string 16), (0, u "directMemory"), (0, .string 18), (0, u "bandwidthIn"), (0, .string 20), (0, u "bandwidthOut"), (0, .fieldref 22 23), (0, .class_ 24), (0, .nameAndType 8 25), (0, u "com/example/headroom/headroom/ResourceWeights"), (0, u "D"), (0, .fieldref 22 27), (0, .nameAndType 16 25), (0, .fieldref 22 29), (0, .nameAndType 18 25), (0, .fieldref 22 31), (0, .nameAndType 20 25), (23, u "(DDDD)V"), (0, .string 57), (0, u "broker"), (0, .methodref 59 60), (0, .class_ 61), (0, .nameAndType 62 63), (0, u "java/util/Objects"), (0, u "requireNonNull"), (0, u "(Ljava/lang/Object;Ljava/lang/String;)Ljava/lang/Object;"), (0, .methodref 65 66), (0, .class_ 67), (0, .nameAndType 8 68), (0, u "com/example/headroom/headroom/BrokerUsage"), (0, u "()Lcom/example/headroom/headroom/ResourceUsage;"), (0, .methodref 22 70), (0, .nameAndType 71 72), (0, u "share"), (0, u "(Lcom/example/headroom/headroom/ResourceUsage;D)D"), (0, .methodref 65 74), (0, .nameAndType 16 68), (0, .methodref 65 76), (0, .nameAndType 18 68), (0, .methodref 65 78), (0, .nameAndType 20 68), (0, .methodref 80 81), (0, .class_ 82), (0, .nameAndType 83 84), (0, u "java/lang/Math"), (0, u "max"), (0, u "(DD)D"), (0, .double 4636737291354636288), (1, .methodref 88 89), (0, .class_ 90), (0, .nameAndType 91 92), (0, u "com/example/headroom/headroom/ResourceUsage"), (0, u "fraction"), (0, u "()D"), (14, u "DEFAULTS"), (7, u "Lcom/example/headroom/headroom/ResourceWeights;"), (3, u "score"), (0, u "(Lcom/example/headroom/headroom/BrokerUsage;)D")] 28

def k3c0 : Code := { maxStack := 3, maxLocals := 9, code := prog_21_method_1_code, exceptionTable := #[], attributes := #[] }
def k3m0 : Method := { name := "<init>", desc := "(DDDD)V", sig := { parameters := [.double, .double, .double, .double], returnType := none }, accessFlags := 1, code := some k3c0 }
def k3c1 : Code := { maxStack := 6, maxLocals := 12, code := prog_21_method_3_code, exceptionTable := #[], attributes := #[] }
def k3m1 : Method := { name := "score", desc := "(Lcom/example/headroom/headroom/BrokerUsage;)D", sig := { parameters := [(.object "com/example/headroom/headroom/BrokerUsage")], returnType := some .double }, accessFlags := 1, code := some k3c1 }
def k3c2 : Code := { maxStack := 4, maxLocals := 3, code := prog_21_method_4_code, exceptionTable := #[], attributes := #[] }
def k3m2 : Method := { name := "share", desc := "(Lcom/example/headroom/headroom/ResourceUsage;D)D", sig := { parameters := [(.object "com/example/headroom/headroom/ResourceUsage"), .double], returnType := some .double }, accessFlags := 10, code := some k3c2 }
/-- com/example/headroom/headroom/ResourceWeights -/
def k3 : Class := { plain "com/example/headroom/headroom/ResourceWeights" (some 2) with
  accessFlags := 49
  interfaces := #[]
  cf := some (fileOf pool3 22 #[] #[{ accessFlags := 1, nameIndex := 5, descriptorIndex := 55, attributes := #[] }, { accessFlags := 1, nameIndex := 119, descriptorIndex := 120, attributes := #[] }, { accessFlags := 10, nameIndex := 71, descriptorIndex := 72, attributes := #[] }] 49 2 #[] #[{ accessFlags := 18, nameIndex := 8, descriptorIndex := 25, attributes := #[] }, { accessFlags := 18, nameIndex := 16, descriptorIndex := 25, attributes := #[] }, { accessFlags := 18, nameIndex := 18, descriptorIndex := 25, attributes := #[] }, { accessFlags := 18, nameIndex := 20, descriptorIndex := 25, attributes := #[] }, { accessFlags := 25, nameIndex := 107, descriptorIndex := 115, attributes := #[] }])
  fields := #[{ name := "cpu", type := .double, accessFlags := 18, slot := 0, constantValue := 0 }, { name := "directMemory", type := .double, accessFlags := 18, slot := 1, constantValue := 0 }, { name := "bandwidthIn", type := .double, accessFlags := 18, slot := 2, constantValue := 0 }, { name := "bandwidthOut", type := .double, accessFlags := 18, slot := 3, constantValue := 0 }, { name := "DEFAULTS", type := (.object "com/example/headroom/headroom/ResourceWeights"), accessFlags := 25, slot := 0, constantValue := 0 }]
  methods := #[k3m0, k3m1, k3m2]
  instanceTypes := #[.double, .double, .double, .double]
  staticTypes := #[(.object "com/example/headroom/headroom/ResourceWeights")]
  resolved := Array.replicate 149 none
  statics := none }

def pool4 : Array CpInfo := pool [(1, .class_ 2), (0, u "java/io/Serializable"), (0, .class_ 4), (0, u "java/lang/Object")] 2

/-- java/io/Serializable -/
def k4 : Class := { plain "java/io/Serializable" (some 0) with
  accessFlags := 1537
  interfaces := #[]
  cf := some (fileOf pool4 1 #[] #[] 1537 3 #[] #[])
  fields := #[]
  methods := #[]
  instanceTypes := #[]
  staticTypes := #[]
  resolved := Array.replicate 7 none
  statics := none }

def pool5 : Array CpInfo := pool [(1, .class_ 2), (0, u "java/lang/Comparable"), (0, .class_ 4), (0, u "java/lang/Object")] 7

/-- java/lang/Comparable -/
def k5 : Class := { plain "java/lang/Comparable" (some 0) with
  accessFlags := 1537
  interfaces := #[]
  cf := some (fileOf pool5 1 #[] #[] 1537 3 #[] #[])
  fields := #[]
  methods := #[]
  instanceTypes := #[]
  staticTypes := #[]
  resolved := Array.replicate 12 none
  statics := none }

def pool6 : Array CpInfo := pool [(2, .class_ 4), (1, u "java/lang/CharSequence"), (42, .class_ 48), (0, u "java/lang/CharSequence$1CodePointIterator"), (10, .class_ 60), (0, u "java/lang/CharSequence$1CharIterator"), (5, .class_ 67), (0, u "java/lang/Object")] 63

/-- java/lang/CharSequence -/
def k6 : Class := { plain "java/lang/CharSequence" (some 0) with
  accessFlags := 1537
  interfaces := #[]
  cf := some (fileOf pool6 2 #[.nestMembers #[47, 59]] #[] 1537 66 #[] #[])
  fields := #[]
  methods := #[]
  instanceTypes := #[]
  staticTypes := #[]
  resolved := Array.replicate 131 none
  statics := none }

def pool7 : Array CpInfo := pool [(1, .class_ 2), (0, u "java/lang/constant/Constable"), (0, .class_ 4), (0, u "java/lang/Object")] 6

/-- java/lang/constant/Constable -/
def k7 : Class := { plain "java/lang/constant/Constable" (some 0) with
  accessFlags := 1537
  interfaces := #[]
  cf := some (fileOf pool7 1 #[] #[] 1537 3 #[] #[])
  fields := #[]
  methods := #[]
  instanceTypes := #[]
  staticTypes := #[]
  resolved := Array.replicate 11 none
  statics := none }

def pool8 : Array CpInfo := pool [(1, .class_ 2), (0, u "java/lang/constant/ConstantDesc"), (0, .class_ 4), (0, u "java/lang/Object")] 32

/-- java/lang/constant/ConstantDesc -/
def k8 : Class := { plain "java/lang/constant/ConstantDesc" (some 0) with
  accessFlags := 1537
  interfaces := #[]
  cf := some (fileOf pool8 1 #[] #[] 1537 3 #[] #[])
  fields := #[]
  methods := #[]
  instanceTypes := #[]
  staticTypes := #[]
  resolved := Array.replicate 37 none
  statics := none }

def pool9 : Array CpInfo := pool [(2, .class_ 4), (1, u "java/lang/Object"), (0, u "<init>"), (0, u "()V"), (3, .class_ 12), (1, u "java/lang/String"), (0, u "value"), (0, u "[B"), (2, u "coder"), (0, u "B"), (2, u "hash"), (0, u "I"), (2, u "hashIsZero"), (0, u "Z"), (13, u "COMPACT_STRINGS"), (534, .class_ 576), (0, u "java/lang/CharSequence"), (22, u "CASE_INSENSITIVE_ORDER"), (0, u "Ljava/util/Comparator;"), (500, u "serialPersistentFields"), (0, u "[Ljava/io/ObjectStreamField;"), (0, .class_ 1104), (0, u "java/lang/String$CaseInsensitiveComparator"), (1, .class_ 1107), (0, u "java/io/Serializable"), (0, .class_ 1109), (0, u "java/lang/Comparable"), (0, .class_ 1111), (0, u "java/lang/constant/Constable"), (0, .class_ 1113), (0, u "java/lang/constant/ConstantDesc"), (2, u "serialVersionUID"), (0, u "J"), (3, u "REPL"), (0, u "C"), (2, u "LATIN1"), (1, u "UTF16")] 323

def k9m0 : Method := { name := "<init>", desc := "()V", sig := { parameters := [], returnType := none }, accessFlags := 1, code := none }
/-- java/lang/String -/
def k9 : Class := { plain "java/lang/String" (some 0) with
  accessFlags := 49
  interfaces := #[4, 5, 6, 7, 8]
  cf := some (fileOf pool9 10 #[.nestMembers #[1103]] #[{ accessFlags := 1, nameIndex := 5, descriptorIndex := 6, attributes := #[] }] 49 2 #[1106, 1108, 575, 1110, 1112] #[{ accessFlags := 18, nameIndex := 13, descriptorIndex := 14, attributes := #[] }, { accessFlags := 18, nameIndex := 17, descriptorIndex := 18, attributes := #[] }, { accessFlags := 2, nameIndex := 21, descriptorIndex := 22, attributes := #[] }, { accessFlags := 2, nameIndex := 25, descriptorIndex := 26, attributes := #[] }, { accessFlags := 26, nameIndex := 1116, descriptorIndex := 1117, attributes := #[] }, { accessFlags := 24, nameIndex := 40, descriptorIndex := 26, attributes := #[] }, { accessFlags := 26, nameIndex := 1101, descriptorIndex := 1102, attributes := #[] }, { accessFlags := 26, nameIndex := 1121, descriptorIndex := 1122, attributes := #[] }, { accessFlags := 25, nameIndex := 599, descriptorIndex := 600, attributes := #[] }, { accessFlags := 24, nameIndex := 1125, descriptorIndex := 18, attributes := #[] }, { accessFlags := 24, nameIndex := 1127, descriptorIndex := 18, attributes := #[] }])
  fields := #[{ name := "value", type := (.array .byte), accessFlags := 18, slot := 0, constantValue := 0 }, { name := "coder", type := .byte, accessFlags := 18, slot := 1, constantValue := 0 }, { name := "hash", type := .int, accessFlags := 2, slot := 2, constantValue := 0 }, { name := "hashIsZero", type := .boolean, accessFlags := 2, slot := 3, constantValue := 0 }, { name := "serialVersionUID", type := .long, accessFlags := 26, slot := 0, constantValue := 0 }, { name := "COMPACT_STRINGS", type := .boolean, accessFlags := 24, slot := 1, constantValue := 0 }, { name := "serialPersistentFields", type := (.array (.object "java/io/ObjectStreamField")), accessFlags := 26, slot := 2, constantValue := 0 }, { name := "REPL", type := .char, accessFlags := 26, slot := 3, constantValue := 0 }, { name := "CASE_INSENSITIVE_ORDER", type := (.object "java/util/Comparator"), accessFlags := 25, slot := 4, constantValue := 0 }, { name := "LATIN1", type := .byte, accessFlags := 24, slot := 5, constantValue := 0 }, { name := "UTF16", type := .byte, accessFlags := 24, slot := 6, constantValue := 0 }]
  methods := #[k9m0]
  instanceTypes := #[(.array .byte), .byte, .int, .boolean]
  staticTypes := #[.long, .boolean, (.array (.object "java/io/ObjectStreamField")), .char, (.object "java/util/Comparator"), .byte, .byte]
  resolved := Array.replicate 1451 none
  statics := none }

def pool10 : Array CpInfo := pool [(2, .class_ 4), (1, u "java/lang/Object"), (0, u "<init>"), (0, u "()V"), (0, .methodref 8 9), (0, .class_ 10), (0, .nameAndType 11 12), (0, u "java/lang/Double"), (0, u "isFinite"), (0, u "(D)Z"), (10, .class_ 24), (0, u "com/example/headroom/headroom/Figures"), (2, u "requireNonNegative"), (0, u "(Ljava/lang/String;D)V")] 21

def k10m0 : Method := { name := "<init>", desc := "()V", sig := { parameters := [], returnType := none }, accessFlags := 2, code := none }
def k10c1 : Code := { maxStack := 5, maxLocals := 3, code := prog_15_method_2_code, exceptionTable := #[], attributes := #[] }
def k10m1 : Method := { name := "requireNonNegative", desc := "(Ljava/lang/String;D)V", sig := { parameters := [(.object "java/lang/String"), .double], returnType := none }, accessFlags := 8, code := some k10c1 }
/-- com/example/headroom/headroom/Figures -/
def k10 : Class := { plain "com/example/headroom/headroom/Figures" (some 0) with
  accessFlags := 32
  interfaces := #[]
  cf := some (fileOf pool10 23 #[] #[{ accessFlags := 2, nameIndex := 5, descriptorIndex := 6, attributes := #[] }, { accessFlags := 8, nameIndex := 27, descriptorIndex := 28, attributes := #[] }] 32 2 #[] #[])
  fields := #[]
  methods := #[k10m0, k10m1]
  instanceTypes := #[]
  staticTypes := #[]
  resolved := Array.replicate 50 none
  statics := none }

def pool11 : Array CpInfo := pool [(2, .class_ 4), (1, u "java/lang/Object"), (0, u "<init>"), (0, u "()V"), (1, .class_ 10), (1, u "java/lang/Number"), (2, .class_ 14), (0, u "java/io/Serializable"), (0, u "serialVersionUID"), (0, u "J")] 20

def k11m0 : Method := { name := "<init>", desc := "()V", sig := { parameters := [], returnType := none }, accessFlags := 1, code := none }
/-- java/lang/Number -/
def k11 : Class := { plain "java/lang/Number" (some 0) with
  accessFlags := 1057
  interfaces := #[4]
  cf := some (fileOf pool11 8 #[] #[{ accessFlags := 1, nameIndex := 5, descriptorIndex := 6, attributes := #[] }] 1057 2 #[13] #[{ accessFlags := 26, nameIndex := 15, descriptorIndex := 16, attributes := #[] }])
  fields := #[{ name := "serialVersionUID", type := .long, accessFlags := 26, slot := 0, constantValue := 0 }]
  methods := #[k11m0]
  instanceTypes := #[]
  staticTypes := #[.long]
  resolved := Array.replicate 37 none
  statics := none }

def pool12 : Array CpInfo := pool [(1, .class_ 2), (0, u "java/lang/Double"), (10, u "isFinite"), (0, u "(D)Z"), (8, .class_ 25), (1, u "java/lang/Math"), (12, .methodref 23 39), (0, .nameAndType 40 41), (0, u "abs"), (0, u "(D)D"), (69, .double 9218868437227405311), (2, .class_ 116), (1, u "java/lang/Number"), (3, u "value"), (0, u "D"), (51, u "TYPE"), (0, u "Ljava/lang/Class;"), (0, .class_ 176), (0, u "java/lang/Comparable"), (0, .class_ 178), (0, u "java/lang/constant/Constable"), (0, .class_ 180), (0, u "java/lang/constant/ConstantDesc"), (0, u "POSITIVE_INFINITY"), (3, u "NEGATIVE_INFINITY"), (2, u "NaN"), (2, u "MAX_VALUE"), (0, u "MIN_NORMAL"), (0, u "MIN_VALUE"), (2, u "SIZE"), (0, u "I"), (1, u "PRECISION"), (1, u "MAX_EXPONENT"), (1, u "MIN_EXPONENT"), (1, u "BYTES"), (3, u "serialVersionUID"), (0, u "J")] 79

def k12c0 : Code := { maxStack := 4, maxLocals := 2, code := jdk_117_method_8_code, exceptionTable := #[], attributes := #[] }
def k12m0 : Method := { name := "isFinite", desc := "(D)Z", sig := { parameters := [.double], returnType := some .boolean }, accessFlags := 9, code := some k12c0 }
/-- java/lang/Double -/
def k12 : Class := { plain "java/lang/Double" (some 11) with
  accessFlags := 49
  interfaces := #[5, 7, 8]
  cf := some (fileOf pool12 1 #[] #[{ accessFlags := 9, nameIndex := 13, descriptorIndex := 14, attributes := #[] }] 49 114 #[175, 177, 179] #[{ accessFlags := 25, nameIndex := 181, descriptorIndex := 121, attributes := #[] }, { accessFlags := 25, nameIndex := 185, descriptorIndex := 121, attributes := #[] }, { accessFlags := 25, nameIndex := 188, descriptorIndex := 121, attributes := #[] }, { accessFlags := 25, nameIndex := 191, descriptorIndex := 121, attributes := #[] }, { accessFlags := 25, nameIndex := 192, descriptorIndex := 121, attributes := #[] }, { accessFlags := 25, nameIndex := 193, descriptorIndex := 121, attributes := #[] }, { accessFlags := 25, nameIndex := 196, descriptorIndex := 197, attributes := #[] }, { accessFlags := 25, nameIndex := 199, descriptorIndex := 197, attributes := #[] }, { accessFlags := 25, nameIndex := 201, descriptorIndex := 197, attributes := #[] }, { accessFlags := 25, nameIndex := 203, descriptorIndex := 197, attributes := #[] }, { accessFlags := 25, nameIndex := 205, descriptorIndex := 197, attributes := #[] }, { accessFlags := 25, nameIndex := 173, descriptorIndex := 174, attributes := #[] }, { accessFlags := 18, nameIndex := 120, descriptorIndex := 121, attributes := #[] }, { accessFlags := 26, nameIndex := 209, descriptorIndex := 210, attributes := #[] }])
  fields := #[{ name := "POSITIVE_INFINITY", type := .double, accessFlags := 25, slot := 0, constantValue := 0 }, { name := "NEGATIVE_INFINITY", type := .double, accessFlags := 25, slot := 1, constantValue := 0 }, { name := "NaN", type := .double, accessFlags := 25, slot := 2, constantValue := 0 }, { name := "MAX_VALUE", type := .double, accessFlags := 25, slot := 3, constantValue := 0 }, { name := "MIN_NORMAL", type := .double, accessFlags := 25, slot := 4, constantValue := 0 }, { name := "MIN_VALUE", type := .double, accessFlags := 25, slot := 5, constantValue := 0 }, { name := "SIZE", type := .int, accessFlags := 25, slot := 6, constantValue := 0 }, { name := "PRECISION", type := .int, accessFlags := 25, slot := 7, constantValue := 0 }, { name := "MAX_EXPONENT", type := .int, accessFlags := 25, slot := 8, constantValue := 0 }, { name := "MIN_EXPONENT", type := .int, accessFlags := 25, slot := 9, constantValue := 0 }, { name := "BYTES", type := .int, accessFlags := 25, slot := 10, constantValue := 0 }, { name := "TYPE", type := (.object "java/lang/Class"), accessFlags := 25, slot := 11, constantValue := 0 }, { name := "value", type := .double, accessFlags := 18, slot := 0, constantValue := 0 }, { name := "serialVersionUID", type := .long, accessFlags := 26, slot := 12, constantValue := 0 }]
  methods := #[k12m0]
  instanceTypes := #[.double]
  staticTypes := #[.double, .double, .double, .double, .double, .double, .int, .int, .int, .int, .int, (.object "java/lang/Class"), .long]
  resolved := Array.replicate 290 none
  statics := none }

def pool13 : Array CpInfo := pool [(1, .class_ 2), (0, u "java/lang/Math"), (1, .class_ 6), (1, u "java/lang/Object"), (0, u "<init>"), (0, u "()V"), (5, u "(D)D"), (37, u "(DD)D"), (45, .class_ 100), (1, u "java/lang/Math$RandomNumberGeneratorHolder"), (20, u "(JJ)J"), (2, u "abs"), (47, u "negativeZeroFloatBits"), (0, u "J"), (2, u "negativeZeroDoubleBits"), (21, u "max"), (46, u "$assertionsDisabled"), (0, u "Z"), (91, u "twoToTheDoubleScaleDown"), (0, u "D"), (4, u "twoToTheDoubleScaleUp"), (9, u "E"), (3, u "PI"), (2, u "TAU"), (2, u "DEGREES_TO_RADIANS"), (0, u "RADIANS_TO_DEGREES")] 94

def k13m0 : Method := { name := "<init>", desc := "()V", sig := { parameters := [], returnType := none }, accessFlags := 2, code := none }
def k13c1 : Code := { maxStack := 4, maxLocals := 2, code := jdk_29_method_64_code, exceptionTable := #[], attributes := #[] }
def k13m1 : Method := { name := "abs", desc := "(D)D", sig := { parameters := [.double], returnType := some .double }, accessFlags := 9, code := some k13c1 }
def k13c2 : Code := { maxStack := 4, maxLocals := 4, code := jdk_29_method_66_code, exceptionTable := #[], attributes := #[] }
def k13m2 : Method := { name := "max", desc := "(JJ)J", sig := { parameters := [.long, .long], returnType := some .long }, accessFlags := 9, code := some k13c2 }
def k13c3 : Code := { maxStack := 4, maxLocals := 4, code := jdk_29_method_68_code, exceptionTable := #[], attributes := #[] }
def k13m3 : Method := { name := "max", desc := "(DD)D", sig := { parameters := [.double, .double], returnType := some .double }, accessFlags := 9, code := some k13c3 }
/-- java/lang/Math -/
def k13 : Class := { plain "java/lang/Math" (some 0) with
  accessFlags := 49
  interfaces := #[]
  cf := some (fileOf pool13 1 #[.nestMembers #[98]] #[{ accessFlags := 2, nameIndex := 7, descriptorIndex := 8, attributes := #[] }, { accessFlags := 9, nameIndex := 124, descriptorIndex := 14, attributes := #[] }, { accessFlags := 9, nameIndex := 198, descriptorIndex := 121, attributes := #[] }, { accessFlags := 9, nameIndex := 198, descriptorIndex := 52, attributes := #[] }] 49 4 #[] #[{ accessFlags := 25, nameIndex := 354, descriptorIndex := 339, attributes := #[] }, { accessFlags := 25, nameIndex := 358, descriptorIndex := 339, attributes := #[] }, { accessFlags := 25, nameIndex := 361, descriptorIndex := 339, attributes := #[] }, { accessFlags := 26, nameIndex := 364, descriptorIndex := 339, attributes := #[] }, { accessFlags := 26, nameIndex := 365, descriptorIndex := 339, attributes := #[] }, { accessFlags := 26, nameIndex := 172, descriptorIndex := 173, attributes := #[] }, { accessFlags := 26, nameIndex := 176, descriptorIndex := 173, attributes := #[] }, { accessFlags := 8, nameIndex := 344, descriptorIndex := 339, attributes := #[] }, { accessFlags := 8, nameIndex := 338, descriptorIndex := 339, attributes := #[] }, { accessFlags := 4120, nameIndex := 245, descriptorIndex := 246, attributes := #[] }])
  fields := #[{ name := "E", type := .double, accessFlags := 25, slot := 0, constantValue := 0 }, { name := "PI", type := .double, accessFlags := 25, slot := 1, constantValue := 0 }, { name := "TAU", type := .double, accessFlags := 25, slot := 2, constantValue := 0 }, { name := "DEGREES_TO_RADIANS", type := .double, accessFlags := 26, slot := 3, constantValue := 0 }, { name := "RADIANS_TO_DEGREES", type := .double, accessFlags := 26, slot := 4, constantValue := 0 }, { name := "negativeZeroFloatBits", type := .long, accessFlags := 26, slot := 5, constantValue := 0 }, { name := "negativeZeroDoubleBits", type := .long, accessFlags := 26, slot := 6, constantValue := 0 }, { name := "twoToTheDoubleScaleUp", type := .double, accessFlags := 8, slot := 7, constantValue := 0 }, { name := "twoToTheDoubleScaleDown", type := .double, accessFlags := 8, slot := 8, constantValue := 0 }, { name := "$assertionsDisabled", type := .boolean, accessFlags := 4120, slot := 9, constantValue := 0 }]
  methods := #[k13m0, k13m1, k13m2, k13m3]
  instanceTypes := #[]
  staticTypes := #[.double, .double, .double, .double, .double, .long, .long, .double, .double, .boolean]
  resolved := Array.replicate 460 none
  statics := none }

def pool14 : Array CpInfo := pool [(1, .methodref 2 3), (0, .class_ 4), (0, .nameAndType 5 6), (0, u "java/lang/Record"), (0, u "<init>"), (0, u "()V"), (0, .string 8), (0, u "cpu"), (0, .methodref 10 11), (0, .class_ 12), (0, .nameAndType 13 14), (0, u "java/util/Objects"), (0, u "requireNonNull"), (0, u "(Ljava/lang/Object;Ljava/lang/String;)Ljava/lang/Object;"), (0, .string 16), (0, u "directMemory"), (0, .string 18), (0, u "bandwidthIn"), (0, .string 20), (0, u "bandwidthOut"), (0, .fieldref 22 23), (0, .class_ 24), (0, .nameAndType 8 25), (0, u "com/example/headroom/headroom/BrokerUsage"), (0, u "Lcom/example/headroom/headroom/ResourceUsage;"), (0, .fieldref 22 27), (0, .nameAndType 16 25), (0, .fieldref 22 29), (0, .nameAndType 18 25), (0, .fieldref 22 31), (0, .nameAndType 20 25), (12, u "(Lcom/example/headroom/headroom/ResourceUsage;Lcom/example/headroom/headroom/ResourceUsage;Lcom/example/headroom/headroom/ResourceUsage;Lcom/example/headroom/headroom/ResourceUsage;)V"), (6, u "()Lcom/example/headroom/headroom/ResourceUsage;")] 23

def k14c0 : Code := { maxStack := 2, maxLocals := 5, code := prog_5_method_1_code, exceptionTable := #[], attributes := #[] }
def k14m0 : Method := { name := "<init>", desc := "(Lcom/example/headroom/headroom/ResourceUsage;Lcom/example/headroom/headroom/ResourceUsage;Lcom/example/headroom/headroom/ResourceUsage;Lcom/example/headroom/headroom/ResourceUsage;)V", sig := { parameters := [(.object "com/example/headroom/headroom/ResourceUsage"), (.object "com/example/headroom/headroom/ResourceUsage"), (.object "com/example/headroom/headroom/ResourceUsage"), (.object "com/example/headroom/headroom/ResourceUsage")], returnType := none }, accessFlags := 1, code := some k14c0 }
def k14c1 : Code := { maxStack := 1, maxLocals := 1, code := prog_5_method_5_code, exceptionTable := #[], attributes := #[] }
def k14m1 : Method := { name := "cpu", desc := "()Lcom/example/headroom/headroom/ResourceUsage;", sig := { parameters := [], returnType := some (.object "com/example/headroom/headroom/ResourceUsage") }, accessFlags := 1, code := some k14c1 }
def k14c2 : Code := { maxStack := 1, maxLocals := 1, code := prog_5_method_6_code, exceptionTable := #[], attributes := #[] }
def k14m2 : Method := { name := "directMemory", desc := "()Lcom/example/headroom/headroom/ResourceUsage;", sig := { parameters := [], returnType := some (.object "com/example/headroom/headroom/ResourceUsage") }, accessFlags := 1, code := some k14c2 }
def k14c3 : Code := { maxStack := 1, maxLocals := 1, code := prog_5_method_7_code, exceptionTable := #[], attributes := #[] }
def k14m3 : Method := { name := "bandwidthIn", desc := "()Lcom/example/headroom/headroom/ResourceUsage;", sig := { parameters := [], returnType := some (.object "com/example/headroom/headroom/ResourceUsage") }, accessFlags := 1, code := some k14c3 }
def k14c4 : Code := { maxStack := 1, maxLocals := 1, code := prog_5_method_8_code, exceptionTable := #[], attributes := #[] }
def k14m4 : Method := { name := "bandwidthOut", desc := "()Lcom/example/headroom/headroom/ResourceUsage;", sig := { parameters := [], returnType := some (.object "com/example/headroom/headroom/ResourceUsage") }, accessFlags := 1, code := some k14c4 }
/-- com/example/headroom/headroom/BrokerUsage -/
def k14 : Class := { plain "com/example/headroom/headroom/BrokerUsage" (some 2) with
  accessFlags := 49
  interfaces := #[]
  cf := some (fileOf pool14 22 #[] #[{ accessFlags := 1, nameIndex := 5, descriptorIndex := 44, attributes := #[] }, { accessFlags := 1, nameIndex := 8, descriptorIndex := 51, attributes := #[] }, { accessFlags := 1, nameIndex := 16, descriptorIndex := 51, attributes := #[] }, { accessFlags := 1, nameIndex := 18, descriptorIndex := 51, attributes := #[] }, { accessFlags := 1, nameIndex := 20, descriptorIndex := 51, attributes := #[] }] 49 2 #[] #[{ accessFlags := 18, nameIndex := 8, descriptorIndex := 25, attributes := #[] }, { accessFlags := 18, nameIndex := 16, descriptorIndex := 25, attributes := #[] }, { accessFlags := 18, nameIndex := 18, descriptorIndex := 25, attributes := #[] }, { accessFlags := 18, nameIndex := 20, descriptorIndex := 25, attributes := #[] }])
  fields := #[{ name := "cpu", type := (.object "com/example/headroom/headroom/ResourceUsage"), accessFlags := 18, slot := 0, constantValue := 0 }, { name := "directMemory", type := (.object "com/example/headroom/headroom/ResourceUsage"), accessFlags := 18, slot := 1, constantValue := 0 }, { name := "bandwidthIn", type := (.object "com/example/headroom/headroom/ResourceUsage"), accessFlags := 18, slot := 2, constantValue := 0 }, { name := "bandwidthOut", type := (.object "com/example/headroom/headroom/ResourceUsage"), accessFlags := 18, slot := 3, constantValue := 0 }]
  methods := #[k14m0, k14m1, k14m2, k14m3, k14m4]
  instanceTypes := #[(.object "com/example/headroom/headroom/ResourceUsage"), (.object "com/example/headroom/headroom/ResourceUsage"), (.object "com/example/headroom/headroom/ResourceUsage"), (.object "com/example/headroom/headroom/ResourceUsage")]
  staticTypes := #[]
  resolved := Array.replicate 75 none
  statics := none }

def pool15 : Array CpInfo := pool [(1, .methodref 2 3), (0, .class_ 4), (0, .nameAndType 5 6), (0, u "java/lang/Record"), (0, u "<init>"), (0, u "()V"), (0, .string 8), (0, u "usage"), (0, .methodref 10 11), (0, .class_ 12), (0, .nameAndType 13 14), (0, u "com/example/headroom/headroom/Figures"), (0, u "requireNonNegative"), (0, u "(Ljava/lang/String;D)V"), (0, .string 16), (0, u "limit"), (0, .fieldref 18 19), (0, .class_ 20), (0, .nameAndType 8 21), (0, u "com/example/headroom/headroom/ResourceUsage"), (0, u "D"), (0, .fieldref 18 23), (0, .nameAndType 16 21), (14, u "(DD)V"), (2, u "NONE"), (0, u "Lcom/example/headroom/headroom/ResourceUsage;"), (3, u "fraction"), (0, u "()D")] 26

def k15c0 : Code := { maxStack := 3, maxLocals := 5, code := prog_20_method_1_code, exceptionTable := #[], attributes := #[] }
def k15m0 : Method := { name := "<init>", desc := "(DD)V", sig := { parameters := [.double, .double], returnType := none }, accessFlags := 1, code := some k15c0 }
def k15c1 : Code := { maxStack := 4, maxLocals := 1, code := prog_20_method_2_code, exceptionTable := #[], attributes := #[] }
def k15m1 : Method := { name := "fraction", desc := "()D", sig := { parameters := [], returnType := some .double }, accessFlags := 1, code := some k15c1 }
/-- com/example/headroom/headroom/ResourceUsage -/
def k15 : Class := { plain "com/example/headroom/headroom/ResourceUsage" (some 2) with
  accessFlags := 49
  interfaces := #[]
  cf := some (fileOf pool15 18 #[] #[{ accessFlags := 1, nameIndex := 5, descriptorIndex := 38, attributes := #[] }, { accessFlags := 1, nameIndex := 46, descriptorIndex := 47, attributes := #[] }] 49 2 #[] #[{ accessFlags := 18, nameIndex := 8, descriptorIndex := 21, attributes := #[] }, { accessFlags := 18, nameIndex := 16, descriptorIndex := 21, attributes := #[] }, { accessFlags := 25, nameIndex := 41, descriptorIndex := 42, attributes := #[] }])
  fields := #[{ name := "usage", type := .double, accessFlags := 18, slot := 0, constantValue := 0 }, { name := "limit", type := .double, accessFlags := 18, slot := 1, constantValue := 0 }, { name := "NONE", type := (.object "com/example/headroom/headroom/ResourceUsage"), accessFlags := 25, slot := 0, constantValue := 0 }]
  methods := #[k15m0, k15m1]
  instanceTypes := #[.double, .double]
  staticTypes := #[(.object "com/example/headroom/headroom/ResourceUsage")]
  resolved := Array.replicate 74 none
  statics := none }

def pool16 : Array CpInfo := pool [(2, .class_ 4), (1, u "java/lang/Object"), (0, u "<init>"), (0, u "()V"), (35, .class_ 44), (1, u "java/util/Objects"), (0, u "requireNonNull"), (48, u "(Ljava/lang/Object;Ljava/lang/String;)Ljava/lang/Object;")] 89

def k16m0 : Method := { name := "<init>", desc := "()V", sig := { parameters := [], returnType := none }, accessFlags := 2, code := none }
def k16c1 : Code := { maxStack := 3, maxLocals := 2, code := jdk_31_method_11_code, exceptionTable := #[], attributes := #[] }
def k16m1 : Method := { name := "requireNonNull", desc := "(Ljava/lang/Object;Ljava/lang/String;)Ljava/lang/Object;", sig := { parameters := [(.object "java/lang/Object"), (.object "java/lang/String")], returnType := some (.object "java/lang/Object") }, accessFlags := 9, code := some k16c1 }
/-- java/util/Objects -/
def k16 : Class := { plain "java/util/Objects" (some 0) with
  accessFlags := 49
  interfaces := #[]
  cf := some (fileOf pool16 42 #[] #[{ accessFlags := 2, nameIndex := 5, descriptorIndex := 6, attributes := #[] }, { accessFlags := 9, nameIndex := 45, descriptorIndex := 94, attributes := #[] }] 49 2 #[] #[])
  fields := #[]
  methods := #[k16m0, k16m1]
  instanceTypes := #[]
  staticTypes := #[]
  resolved := Array.replicate 184 none
  statics := none }

def pool17 : Array CpInfo := pool [(1, u "java/lang/Cloneable"), (0, .class_ 1), (0, u "java/lang/Object"), (0, .class_ 3)] 3

/-- java/lang/Cloneable -/
def k17 : Class := { plain "java/lang/Cloneable" (some 0) with
  accessFlags := 1537
  interfaces := #[]
  cf := some (fileOf pool17 2 #[] #[] 1537 4 #[] #[])
  fields := #[]
  methods := #[]
  instanceTypes := #[]
  staticTypes := #[]
  resolved := Array.replicate 8 none
  statics := none }

/-- the primitive byte -/
def k18 : Class := { plain "byte" none with kind := .primitive 'B', accessFlags := 0x411 }
/-- [B -/
def k19 : Class := { plain "[B" (some 0) with kind := .array 18 .byte, interfaces := #[17, 4], accessFlags := 1041 }

/-- the primitive int -/
def k20 : Class := { plain "int" none with kind := .primitive 'I', accessFlags := 0x411 }
/-- [I -/
def k21 : Class := { plain "[I" (some 0) with kind := .array 20 .int, interfaces := #[17, 4], accessFlags := 1041 }

def heap : Heap := #[]
def classes : Array Class := #[k0, k1, k2, k3, k4, k5, k6, k7, k8, k9, k10, k11, k12, k13, k14, k15, k16, k17, k18, k19, k20, k21]
def interned : List (Array UInt16 × Addr) := []
def slotsUsed : Nat := 0
def theMethod : MethodId := ⟨1, 5⟩
def args0 : Array Value := #[.int 5, .int 5, .int 5, .int 5]
def aboutOver (below : List Frame) : State where
  vm := { classes := classes, interned := interned.toArray }
  heap := heap
  slotsUsed := slotsUsed
  threads := #[{ frames := .invoking theMethod args0 :: below }]
def below0 : List Frame := [.native { method := ⟨0, 0⟩, args := #[] }]
def about1 : State := aboutOver below0
def p0 : Program := .bare "" "" ""
def e0 : Env := launch0.env 0 0 0
theorem w_frames : about1.frames = Frame.invoking theMethod args0 :: below0 := rfl
set_option maxRecDepth 65536 in
theorem w_args : argsFit about1.vm theMethod args0 = true := by decide +kernel
set_option maxRecDepth 65536 in
theorem w_heap : heapFits about1 = true := by decide +kernel
set_option maxRecDepth 65536 in
theorem w_runnable : about1.curStatus? = some .runnable := by decide +kernel
set_option maxRecDepth 65536 in
theorem w_alone : about1.alone = true := by decide +kernel
set_option maxRecDepth 65536 in
theorem w_named : about1.methodNamed? x = some theMethod := by decide +kernel
set_option maxRecDepth 65536 in
theorem w_hears : about1.hears theMethod below0 = true := by decide +kernel
set_option maxRecDepth 65536 in
theorem w_ripe : about1.ripe theMethod args0 below0 = true := by decide +kernel
theorem w_running : about1.status = .running := rfl
set_option maxRecDepth 65536 in
theorem w_room : about1.hasRoom e0.platform room_1 = true :=
  launch0.hasRoom_least _ room_1 (by decide +kernel) (by decide +kernel) (by decide +kernel) (by decide +kernel) (by decide +kernel) (by decide +kernel)
theorem allAtoms_all (ts : List Jvm.Cond) (a : Array Jvm.Value) (st : Jvm.State) : (allAtoms ts).before a st = ts.all (fun c => c.before a st) := by
  induction ts with
  | nil => rfl
  | cons c t ih =>
    show (Jvm.Cond.and c (allAtoms t)).before a st = _
    rw [Jvm.Cond.before_and, ih, List.all_cons]
def words1 : List Jvm.Cond := Jvm.Cond.code x code maxLocals ret :: tables_1
/-- a 'code' word, met by the world's own term for the bytes: nothing is compared byte by byte -/
theorem code_word {y : MethodName} {bytes : ByteArray} {mx : Nat} {rt : Option FieldType} {a : Array Value} {s : State} {m : MethodId} {meth : Method} {c : Code} (h1 : s.methodNamed? y = some m) (h2 : s.vm.method? m = some meth) (h3 : meth.code = some c) (h4 : c.code = bytes)
    (h5 : (c.maxLocals == mx && c.exceptionTable.isEmpty && decide (c.maxStack ≤ mostOperands) && decide (meth.sig.returnType = rt) && !meth.locks && decide (parseMethodDescriptor y.desc = some meth.sig)) = true) : (Jvm.Cond.code y bytes mx rt).before a s = true := by
  simp only [Bool.and_eq_true, beq_iff_eq, Bool.not_eq_true', decide_eq_true_eq] at h5
  obtain ⟨⟨⟨⟨⟨g1, g2⟩, g3⟩, g4⟩, g5⟩, g6⟩ := h5
  simp [Cond.before, Cond.holds, Cond.value, h1, h2, h3, h4, g1, g2, g3, g4, g5, g6]
def isCode : Jvm.Cond → Bool
  | .code _ _ _ _ => true
  | _ => false
theorem all_split {L : List Jvm.Cond} {P : Jvm.Cond → Bool} (h1 : L.all (fun c => isCode c || P c) = true) (h2 : ∀ c ∈ L.filter isCode, P c = true) : L.all P = true := by
  refine List.all_eq_true.mpr fun c hc => ?_
  have h := List.all_eq_true.mp h1 c hc
  rcases Bool.eq_false_or_eq_true (isCode c) with hi | hi
  · exact h2 c (List.mem_filter.mpr ⟨hc, hi⟩)
  · simpa [hi] using h
set_option maxRecDepth 65536 in
theorem w_c0 : (Jvm.Cond.code x code maxLocals ret).before args0 about1 = true := code_word (m := ⟨1, 5⟩) (meth := k1m5) (c := k1c5) (by decide +kernel) rfl rfl rfl (by decide +kernel)
set_option maxRecDepth 65536 in
theorem w_c1 : (Jvm.Cond.code ({ cls := "com/example/headroom/headroom/ResourceWeightsScorePinLaw", name := "weightOf", desc := "(I)D" } : Jvm.MethodName) method_3_code (1 : Nat) (Option.some Jvm.ClassFile.FieldType.double)).before args0 about1 = true := code_word (m := ⟨1, 2⟩) (meth := k1m2) (c := k1c2) (by decide +kernel) rfl rfl rfl (by decide +kernel)
set_option maxRecDepth 65536 in
theorem w_c2 : (Jvm.Cond.code ({ cls := "com/example/headroom/headroom/ResourceWeights", name := "<init>", desc := "(DDDD)V" } : Jvm.MethodName) prog_21_method_1_code (9 : Nat) (Option.none : Option Jvm.ClassFile.FieldType)).before args0 about1 = true := code_word (m := ⟨3, 0⟩) (meth := k3m0) (c := k3c0) (by decide +kernel) rfl rfl rfl (by decide +kernel)
set_option maxRecDepth 65536 in
theorem w_c3 : (Jvm.Cond.code ({ cls := "java/lang/Record", name := "<init>", desc := "()V" } : Jvm.MethodName) jdk_30_method_1_code (1 : Nat) (Option.none : Option Jvm.ClassFile.FieldType)).before args0 about1 = true := code_word (m := ⟨2, 0⟩) (meth := k2m0) (c := k2c0) (by decide +kernel) rfl rfl rfl (by decide +kernel)
set_option maxRecDepth 65536 in
theorem w_c4 : (Jvm.Cond.code ({ cls := "java/lang/Object", name := "<init>", desc := "()V" } : Jvm.MethodName) object_method_1_code (1 : Nat) (Option.none : Option Jvm.ClassFile.FieldType)).before args0 about1 = true := code_word (m := ⟨0, 0⟩) (meth := k0m0) (c := k0c0) (by decide +kernel) rfl rfl rfl (by decide +kernel)
set_option maxRecDepth 65536 in
theorem w_c5 : (Jvm.Cond.code ({ cls := "com/example/headroom/headroom/Figures", name := "requireNonNegative", desc := "(Ljava/lang/String;D)V" } : Jvm.MethodName) prog_15_method_2_code (3 : Nat) (Option.none : Option Jvm.ClassFile.FieldType)).before args0 about1 = true := code_word (m := ⟨10, 1⟩) (meth := k10m1) (c := k10c1) (by decide +kernel) rfl rfl rfl (by decide +kernel)
set_option maxRecDepth 65536 in
theorem w_c6 : (Jvm.Cond.code ({ cls := "java/lang/Double", name := "isFinite", desc := "(D)Z" } : Jvm.MethodName) jdk_117_method_8_code (2 : Nat) (Option.some Jvm.ClassFile.FieldType.boolean)).before args0 about1 = true := code_word (m := ⟨12, 0⟩) (meth := k12m0) (c := k12c0) (by decide +kernel) rfl rfl rfl (by decide +kernel)
set_option maxRecDepth 65536 in
theorem w_c7 : (Jvm.Cond.code ({ cls := "java/lang/Math", name := "abs", desc := "(D)D" } : Jvm.MethodName) jdk_29_method_64_code (2 : Nat) (Option.some Jvm.ClassFile.FieldType.double)).before args0 about1 = true := code_word (m := ⟨13, 1⟩) (meth := k13m1) (c := k13c1) (by decide +kernel) rfl rfl rfl (by decide +kernel)
set_option maxRecDepth 65536 in
theorem w_c8 : (Jvm.Cond.code ({ cls := "com/example/headroom/headroom/ResourceWeightsScorePinLaw", name := "usageOf", desc := "(I)Lcom/example/headroom/headroom/ResourceUsage;" } : Jvm.MethodName) method_4_code (1 : Nat) (Option.some (Jvm.ClassFile.FieldType.object "com/example/headroom/headroom/ResourceUsage"))).before args0 about1 = true := code_word (m := ⟨1, 3⟩) (meth := k1m3) (c := k1c3) (by decide +kernel) rfl rfl rfl (by decide +kernel)
set_option maxRecDepth 65536 in
theorem w_c9 : (Jvm.Cond.code ({ cls := "com/example/headroom/headroom/ResourceWeightsScorePinLaw", name := "limitOf", desc := "(I)D" } : Jvm.MethodName) method_2_code (2 : Nat) (Option.some Jvm.ClassFile.FieldType.double)).before args0 about1 = true := code_word (m := ⟨1, 1⟩) (meth := k1m1) (c := k1c1) (by decide +kernel) rfl rfl rfl (by decide +kernel)
set_option maxRecDepth 65536 in
theorem w_c10 : (Jvm.Cond.code ({ cls := "com/example/headroom/headroom/ResourceUsage", name := "<init>", desc := "(DD)V" } : Jvm.MethodName) prog_20_method_1_code (5 : Nat) (Option.none : Option Jvm.ClassFile.FieldType)).before args0 about1 = true := code_word (m := ⟨15, 0⟩) (meth := k15m0) (c := k15c0) (by decide +kernel) rfl rfl rfl (by decide +kernel)
set_option maxRecDepth 65536 in
theorem w_c11 : (Jvm.Cond.code ({ cls := "com/example/headroom/headroom/BrokerUsage", name := "<init>", desc := "(Lcom/example/headroom/headroom/ResourceUsage;Lcom/example/headroom/headroom/ResourceUsage;Lcom/example/headroom/headroom/ResourceUsage;Lcom/example/headroom/headroom/ResourceUsage;)V" } : Jvm.MethodName) prog_5_method_1_code (5 : Nat) (Option.none : Option Jvm.ClassFile.FieldType)).before args0 about1 = true := code_word (m := ⟨14, 0⟩) (meth := k14m0) (c := k14c0) (by decide +kernel) rfl rfl rfl (by decide +kernel)
set_option maxRecDepth 65536 in
theorem w_c12 : (Jvm.Cond.code ({ cls := "java/util/Objects", name := "requireNonNull", desc := "(Ljava/lang/Object;Ljava/lang/String;)Ljava/lang/Object;" } : Jvm.MethodName) jdk_31_method_11_code (2 : Nat) (Option.some (Jvm.ClassFile.FieldType.object "java/lang/Object"))).before args0 about1 = true := code_word (m := ⟨16, 1⟩) (meth := k16m1) (c := k16c1) (by decide +kernel) rfl rfl rfl (by decide +kernel)
set_option maxRecDepth 65536 in
theorem w_c13 : (Jvm.Cond.code ({ cls := "com/example/headroom/headroom/ResourceWeights", name := "score", desc := "(Lcom/example/headroom/headroom/BrokerUsage;)D" } : Jvm.MethodName) prog_21_method_3_code (12 : Nat) (Option.some Jvm.ClassFile.FieldType.double)).before args0 about1 = true := code_word (m := ⟨3, 1⟩) (meth := k3m1) (c := k3c1) (by decide +kernel) rfl rfl rfl (by decide +kernel)
set_option maxRecDepth 65536 in
theorem w_c14 : (Jvm.Cond.code ({ cls := "com/example/headroom/headroom/BrokerUsage", name := "cpu", desc := "()Lcom/example/headroom/headroom/ResourceUsage;" } : Jvm.MethodName) prog_5_method_5_code (1 : Nat) (Option.some (Jvm.ClassFile.FieldType.object "com/example/headroom/headroom/ResourceUsage"))).before args0 about1 = true := code_word (m := ⟨14, 1⟩) (meth := k14m1) (c := k14c1) (by decide +kernel) rfl rfl rfl (by decide +kernel)
set_option maxRecDepth 65536 in
theorem w_c15 : (Jvm.Cond.code ({ cls := "com/example/headroom/headroom/ResourceWeights", name := "share", desc := "(Lcom/example/headroom/headroom/ResourceUsage;D)D" } : Jvm.MethodName) prog_21_method_4_code (3 : Nat) (Option.some Jvm.ClassFile.FieldType.double)).before args0 about1 = true := code_word (m := ⟨3, 2⟩) (meth := k3m2) (c := k3c2) (by decide +kernel) rfl rfl rfl (by decide +kernel)
set_option maxRecDepth 65536 in
theorem w_c16 : (Jvm.Cond.code ({ cls := "com/example/headroom/headroom/BrokerUsage", name := "directMemory", desc := "()Lcom/example/headroom/headroom/ResourceUsage;" } : Jvm.MethodName) prog_5_method_6_code (1 : Nat) (Option.some (Jvm.ClassFile.FieldType.object "com/example/headroom/headroom/ResourceUsage"))).before args0 about1 = true := code_word (m := ⟨14, 2⟩) (meth := k14m2) (c := k14c2) (by decide +kernel) rfl rfl rfl (by decide +kernel)
set_option maxRecDepth 65536 in
theorem w_c17 : (Jvm.Cond.code ({ cls := "com/example/headroom/headroom/BrokerUsage", name := "bandwidthIn", desc := "()Lcom/example/headroom/headroom/ResourceUsage;" } : Jvm.MethodName) prog_5_method_7_code (1 : Nat) (Option.some (Jvm.ClassFile.FieldType.object "com/example/headroom/headroom/ResourceUsage"))).before args0 about1 = true := code_word (m := ⟨14, 3⟩) (meth := k14m3) (c := k14c3) (by decide +kernel) rfl rfl rfl (by decide +kernel)
set_option maxRecDepth 65536 in
theorem w_c18 : (Jvm.Cond.code ({ cls := "com/example/headroom/headroom/BrokerUsage", name := "bandwidthOut", desc := "()Lcom/example/headroom/headroom/ResourceUsage;" } : Jvm.MethodName) prog_5_method_8_code (1 : Nat) (Option.some (Jvm.ClassFile.FieldType.object "com/example/headroom/headroom/ResourceUsage"))).before args0 about1 = true := code_word (m := ⟨14, 4⟩) (meth := k14m4) (c := k14c4) (by decide +kernel) rfl rfl rfl (by decide +kernel)
set_option maxRecDepth 65536 in
theorem w_c19 : (Jvm.Cond.code ({ cls := "java/lang/Math", name := "max", desc := "(DD)D" } : Jvm.MethodName) jdk_29_method_68_code (4 : Nat) (Option.some Jvm.ClassFile.FieldType.double)).before args0 about1 = true := code_word (m := ⟨13, 3⟩) (meth := k13m3) (c := k13c3) (by decide +kernel) rfl rfl rfl (by decide +kernel)
set_option maxRecDepth 65536 in
theorem w_c20 : (Jvm.Cond.code ({ cls := "com/example/headroom/headroom/ResourceWeightsScorePinLaw", name := "scaledShare", desc := "(I)J" } : Jvm.MethodName) method_5_code (6 : Nat) (Option.some Jvm.ClassFile.FieldType.long)).before args0 about1 = true := code_word (m := ⟨1, 4⟩) (meth := k1m4) (c := k1c4) (by decide +kernel) rfl rfl rfl (by decide +kernel)
set_option maxRecDepth 65536 in
theorem w_c21 : (Jvm.Cond.code ({ cls := "java/lang/Math", name := "max", desc := "(JJ)J" } : Jvm.MethodName) jdk_29_method_66_code (4 : Nat) (Option.some Jvm.ClassFile.FieldType.long)).before args0 about1 = true := code_word (m := ⟨13, 2⟩) (meth := k13m2) (c := k13c2) (by decide +kernel) rfl rfl rfl (by decide +kernel)
set_option maxRecDepth 65536 in
theorem w_c22 : (Jvm.Cond.code ({ cls := "com/example/headroom/headroom/ResourceUsage", name := "fraction", desc := "()D" } : Jvm.MethodName) prog_20_method_2_code (1 : Nat) (Option.some Jvm.ClassFile.FieldType.double)).before args0 about1 = true := code_word (m := ⟨15, 1⟩) (meth := k15m1) (c := k15c1) (by decide +kernel) rfl rfl rfl (by decide +kernel)
def codes1 : List Jvm.Cond := [Jvm.Cond.code x code maxLocals ret, Jvm.Cond.code ({ cls := "com/example/headroom/headroom/ResourceWeightsScorePinLaw", name := "weightOf", desc := "(I)D" } : Jvm.MethodName) method_3_code (1 : Nat) (Option.some Jvm.ClassFile.FieldType.double), Jvm.Cond.code ({ cls := "com/example/headroom/headroom/ResourceWeights", name := "<init>", desc := "(DDDD)V" } : Jvm.MethodName) prog_21_method_1_code (9 : Nat) (Option.none : Option Jvm.ClassFile.FieldType), Jvm.Cond.code ({ cls := "java/lang/Record", name := "<init>", desc := "()V" } : Jvm.MethodName) jdk_30_method_1_code (1 : Nat) (Option.none : Option Jvm.ClassFile.FieldType), Jvm.Cond.code ({ cls := "java/lang/Object", name := "<init>", desc := "()V" } : Jvm.MethodName) object_method_1_code (1 : Nat) (Option.none : Option Jvm.ClassFile.FieldType), Jvm.Cond.code ({ cls := "com/example/headroom/headroom/Figures", name := "requireNonNegative", desc := "(Ljava/lang/String;D)V" } : Jvm.MethodName) prog_15_method_2_code (3 : Nat) (Option.none : Option Jvm.ClassFile.FieldType), Jvm.Cond.code ({ cls := "java/lang/Double", name := "isFinite", desc := "(D)Z" } : Jvm.MethodName) jdk_117_method_8_code (2 : Nat) (Option.some Jvm.ClassFile.FieldType.boolean), Jvm.Cond.code ({ cls := "java/lang/Math", name := "abs", desc := "(D)D" } : Jvm.MethodName) jdk_29_method_64_code (2 : Nat) (Option.some Jvm.ClassFile.FieldType.double), Jvm.Cond.code ({ cls := "com/example/headroom/headroom/ResourceWeightsScorePinLaw", name := "usageOf", desc := "(I)Lcom/example/headroom/headroom/ResourceUsage;" } : Jvm.MethodName) method_4_code (1 : Nat) (Option.some (Jvm.ClassFile.FieldType.object "com/example/headroom/headroom/ResourceUsage")), Jvm.Cond.code ({ cls := "com/example/headroom/headroom/ResourceWeightsScorePinLaw", name := "limitOf", desc := "(I)D" } : Jvm.MethodName) method_2_code (2 : Nat) (Option.some Jvm.ClassFile.FieldType.double), Jvm.Cond.code ({ cls := "com/example/headroom/headroom/ResourceUsage", name := "<init>", desc := "(DD)V" } : Jvm.MethodName) prog_20_method_1_code (5 : Nat) (Option.none : Option Jvm.ClassFile.FieldType), Jvm.Cond.code ({ cls := "com/example/headroom/headroom/BrokerUsage", name := "<init>", desc := "(Lcom/example/headroom/headroom/ResourceUsage;Lcom/example/headroom/headroom/ResourceUsage;Lcom/example/headroom/headroom/ResourceUsage;Lcom/example/headroom/headroom/ResourceUsage;)V" } : Jvm.MethodName) prog_5_method_1_code (5 : Nat) (Option.none : Option Jvm.ClassFile.FieldType), Jvm.Cond.code ({ cls := "java/util/Objects", name := "requireNonNull", desc := "(Ljava/lang/Object;Ljava/lang/String;)Ljava/lang/Object;" } : Jvm.MethodName) jdk_31_method_11_code (2 : Nat) (Option.some (Jvm.ClassFile.FieldType.object "java/lang/Object")), Jvm.Cond.code ({ cls := "com/example/headroom/headroom/ResourceWeights", name := "score", desc := "(Lcom/example/headroom/headroom/BrokerUsage;)D" } : Jvm.MethodName) prog_21_method_3_code (12 : Nat) (Option.some Jvm.ClassFile.FieldType.double), Jvm.Cond.code ({ cls := "com/example/headroom/headroom/BrokerUsage", name := "cpu", desc := "()Lcom/example/headroom/headroom/ResourceUsage;" } : Jvm.MethodName) prog_5_method_5_code (1 : Nat) (Option.some (Jvm.ClassFile.FieldType.object "com/example/headroom/headroom/ResourceUsage")), Jvm.Cond.code ({ cls := "com/example/headroom/headroom/ResourceWeights", name := "share", desc := "(Lcom/example/headroom/headroom/ResourceUsage;D)D" } : Jvm.MethodName) prog_21_method_4_code (3 : Nat) (Option.some Jvm.ClassFile.FieldType.double), Jvm.Cond.code ({ cls := "com/example/headroom/headroom/BrokerUsage", name := "directMemory", desc := "()Lcom/example/headroom/headroom/ResourceUsage;" } : Jvm.MethodName) prog_5_method_6_code (1 : Nat) (Option.some (Jvm.ClassFile.FieldType.object "com/example/headroom/headroom/ResourceUsage")), Jvm.Cond.code ({ cls := "com/example/headroom/headroom/BrokerUsage", name := "bandwidthIn", desc := "()Lcom/example/headroom/headroom/ResourceUsage;" } : Jvm.MethodName) prog_5_method_7_code (1 : Nat) (Option.some (Jvm.ClassFile.FieldType.object "com/example/headroom/headroom/ResourceUsage")), Jvm.Cond.code ({ cls := "com/example/headroom/headroom/BrokerUsage", name := "bandwidthOut", desc := "()Lcom/example/headroom/headroom/ResourceUsage;" } : Jvm.MethodName) prog_5_method_8_code (1 : Nat) (Option.some (Jvm.ClassFile.FieldType.object "com/example/headroom/headroom/ResourceUsage")), Jvm.Cond.code ({ cls := "java/lang/Math", name := "max", desc := "(DD)D" } : Jvm.MethodName) jdk_29_method_68_code (4 : Nat) (Option.some Jvm.ClassFile.FieldType.double), Jvm.Cond.code ({ cls := "com/example/headroom/headroom/ResourceWeightsScorePinLaw", name := "scaledShare", desc := "(I)J" } : Jvm.MethodName) method_5_code (6 : Nat) (Option.some Jvm.ClassFile.FieldType.long), Jvm.Cond.code ({ cls := "java/lang/Math", name := "max", desc := "(JJ)J" } : Jvm.MethodName) jdk_29_method_66_code (4 : Nat) (Option.some Jvm.ClassFile.FieldType.long), Jvm.Cond.code ({ cls := "com/example/headroom/headroom/ResourceUsage", name := "fraction", desc := "()D" } : Jvm.MethodName) prog_20_method_2_code (1 : Nat) (Option.some Jvm.ClassFile.FieldType.double)]
set_option maxRecDepth 65536 in
theorem codes_eq : words1.filter isCode = codes1 := rfl
theorem w_codes : ∀ c ∈ words1.filter isCode, c.before args0 about1 = true := by
  rw [codes_eq]
  intro c hc
  simp only [codes1, List.mem_cons, List.not_mem_nil, or_false] at hc
  rcases hc with rfl | rfl | rfl | rfl | rfl | rfl | rfl | rfl | rfl | rfl | rfl | rfl | rfl | rfl | rfl | rfl | rfl | rfl | rfl | rfl | rfl | rfl | rfl
  · exact w_c0
  · exact w_c1
  · exact w_c2
  · exact w_c3
  · exact w_c4
  · exact w_c5
  · exact w_c6
  · exact w_c7
  · exact w_c8
  · exact w_c9
  · exact w_c10
  · exact w_c11
  · exact w_c12
  · exact w_c13
  · exact w_c14
  · exact w_c15
  · exact w_c16
  · exact w_c17
  · exact w_c18
  · exact w_c19
  · exact w_c20
  · exact w_c21
  · exact w_c22
set_option maxRecDepth 65536 in
theorem w_t1 : (words1.take 24).all (fun c => isCode c || c.before args0 about1) = true := by decide +kernel
set_option maxRecDepth 65536 in
theorem w_t2 : ((words1.drop 24).take 24).all (fun c => isCode c || c.before args0 about1) = true := by decide +kernel
set_option maxRecDepth 65536 in
theorem w_t3 : (((words1.drop 24).drop 24).take 24).all (fun c => isCode c || c.before args0 about1) = true := by decide +kernel
set_option maxRecDepth 65536 in
theorem w_t4 : ((((words1.drop 24).drop 24).drop 24).take 24).all (fun c => isCode c || c.before args0 about1) = true := by decide +kernel
set_option maxRecDepth 65536 in
theorem w_t5 : (((((words1.drop 24).drop 24).drop 24).drop 24).take 24).all (fun c => isCode c || c.before args0 about1) = true := by decide +kernel
set_option maxRecDepth 65536 in
theorem w_t6 : ((((((words1.drop 24).drop 24).drop 24).drop 24).drop 24).take 24).all (fun c => isCode c || c.before args0 about1) = true := by decide +kernel
set_option maxRecDepth 65536 in
theorem w_t7 : ((((((words1.drop 24).drop 24).drop 24).drop 24).drop 24).drop 24).all (fun c => isCode c || c.before args0 about1) = true := by decide +kernel
theorem w_tables : (allAtoms (Jvm.Cond.code x code maxLocals ret :: tables_1)).before args0 about1 = true := by
  rw [allAtoms_all]
  show words1.all (fun c => c.before args0 about1) = true
  refine all_split ?_ w_codes
  rw [← List.take_append_drop 24 words1, List.all_append, w_t1, ← List.take_append_drop 24 (words1.drop 24), List.all_append, w_t2, ← List.take_append_drop 24 ((words1.drop 24).drop 24), List.all_append, w_t3, ← List.take_append_drop 24 (((words1.drop 24).drop 24).drop 24), List.all_append, w_t4, ← List.take_append_drop 24 ((((words1.drop 24).drop 24).drop 24).drop 24), List.all_append, w_t5, ← List.take_append_drop 24 (((((words1.drop 24).drop 24).drop 24).drop 24).drop 24), List.all_append, w_t6, w_t7]
  rfl
set_option maxRecDepth 65536 in
theorem w_case : (Jvm.Cond.and given_1 narrow_1).before args0 about1 = true := by decide +kernel
theorem w_applies : (headSpec (Jvm.Cond.code x code maxLocals ret :: tables_1) room_1).applies x e0.platform about1 = true :=
  (Spec.applies_iff w_frames).mpr ⟨w_running, w_runnable, w_alone, w_named, w_hears, w_ripe, w_room, w_tables⟩
theorem atStart : AtStart classFile x code maxLocals ret World_1 tables_1 room_1 Calls_1 rest_1 Pre_1 launch0 p0 e0 about1 theMethod args0 below0 :=
  ⟨lists_1, trivial, launch0.admits_env _ _ _, launch0.least_env, fairChoices_fair.cas, fairChoices_fair.clock, w_frames, w_args, w_heap, w_applies, trivial, trivial, w_case⟩
end start1
theorem witness_1 : WitnessClaimed_1 := ⟨start1.p0, start1.e0, start1.about1, start1.theMethod, start1.args0, start1.below0, start1.atStart⟩
end Jvm.Pilot.@@N@@
