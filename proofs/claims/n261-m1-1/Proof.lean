import JvmDerived
import JvmDerived.Pilot.@@N@@Statement
import JvmDerived.Pilot.@@N@@Code
set_option linter.unusedVariables false
set_option linter.unusedSimpArgs false
namespace Jvm.RoadKit
open Sem ClassFile Op Lib Jvm.Stand Jvm.Free Jvm.LawKit
section New
variable {p : Program} {l : Launch} {e : Env} {R : Room} {s : State} {m : MethodId} {args : Array Value} {below : List Frame} {meth : Method} {c : Code} {T : State} {locs : List Loc} {cells slots : Nat}
theorem retI (X : Stand p l e R s m args below meth c T locs cells slots) (hx : p.tables.exec = Jvm.exec) {pc : Nat} {Ls : Array Slot} {z : Int32} {rest : List Value} (hret : meth.sig.returnType = some .int) (hd : decode c.code pc = .ok (.ireturn, 1)) {fs : List Frame}
    (hl : ∀ (f : JFrame) (acts : List Action), f.method = m → f.locked = none → f.entered = [] → (doReturn e (T.setTop f) acts (some (.int z))).1 = T.setFrames fs) : Steps p.tables e below (T.setTop (mkF m pc Ls (.int z :: rest))) (T.setFrames fs) := by
  have hm' : T.vm.method? m = some meth := X.method'
  have hn : narrow .int (.int z) = .int z := rfl
  show Steps p.tables e below (T.setTop { method := m, pc := pc, locals := Ls, stack := _ :: rest, locked := none }) _
  jvm_step X.here [X.here.top, hx, hd, hm', hret, hn]
  first | (intro acts; rw [hl _ acts rfl rfl rfl]) | rw [hl _ _ rfl rfl rfl]
  exact Steps.refl _
end New
end Jvm.RoadKit
namespace Jvm.Pilot.@@N@@.FV
open Jvm.FP.Core
/-- the datum is `i * 2^e` (a zero of either sign is 0) -/
def Val (i e : Int) : Datum → Prop
  | .fin s c q => signed s c * ((2 ^ (q - e).toNat : Nat) : Int) = i * ((2 ^ (e - q).toNat : Nat) : Int)
  | _ => False
theorem p2 (n : Nat) : (0 : Int) < ((2 ^ n : Nat) : Int) := by have := Nat.two_pow_pos n; omega
theorem p2ne (n : Nat) : ((2 ^ n : Nat) : Int) ≠ 0 := by have := p2 n; omega
theorem p2add (a b : Nat) : ((2 ^ (a + b) : Nat) : Int) = ((2 ^ a : Nat) : Int) * ((2 ^ b : Nat) : Int) := by rw [Nat.pow_add, Int.natCast_mul]
theorem units_int (s : Bool) (c : Nat) (q m : Int) : signed s (inUnits c q m) = signed s c * ((2 ^ (q - m).toNat : Nat) : Int) := by
  unfold inUnits; rw [signed_mul]
theorem val_iff {i e m : Int} {s : Bool} {c : Nat} {q : Int} (h1 : m ≤ q) (h2 : m ≤ e) :
    Val i e (.fin s c q) ↔ signed s c * ((2 ^ (q - m).toNat : Nat) : Int) = i * ((2 ^ (e - m).toNat : Nat) : Int) := by
  show signed s c * ((2 ^ (q - e).toNat : Nat) : Int) = i * ((2 ^ (e - q).toNat : Nat) : Int) ↔ _
  by_cases h : e ≤ q
  · rw [show (e - q).toNat = 0 by omega, show (q - m).toNat = (q - e).toNat + (e - m).toNat by omega, p2add, ← Int.mul_assoc]
    constructor
    · intro h3; rw [h3]; simp
    · intro h3; have := Int.eq_of_mul_eq_mul_right (p2ne _) h3; rw [this]; simp
  · rw [show (q - e).toNat = 0 by omega, show (e - m).toNat = (e - q).toNat + (q - m).toNat by omega, p2add, ← Int.mul_assoc]
    constructor
    · intro h3; rw [← h3]; simp
    · intro h3; have := Int.eq_of_mul_eq_mul_right (p2ne _) h3; rw [← this]; simp
theorem val_fin {i e : Int} {d : Datum} (h : Val i e d) : ∃ s c q, d = .fin s c q := by
  cases d with
  | nan => exact h.elim
  | inf => exact h.elim
  | fin s c q => exact ⟨s, c, q, rfl⟩
theorem val_ne_nan {i e : Int} {d : Datum} (h : Val i e d) : d ≠ .nan := by
  obtain ⟨s, c, q, rfl⟩ := val_fin h; exact Datum.noConfusion
theorem val_abs {i e : Int} {s : Bool} {c : Nat} {q : Int} (h : Val i e (.fin s c q)) : c * 2 ^ (q - e).toNat = i.natAbs * 2 ^ (e - q).toNat := by
  have := congrArg Int.natAbs (show signed s c * ((2 ^ (q - e).toNat : Nat) : Int) = i * ((2 ^ (e - q).toNat : Nat) : Int) from h)
  rw [Int.natAbs_mul, Int.natAbs_mul, natAbs_signed, Int.natAbs_natCast, Int.natAbs_natCast] at this
  exact this
theorem val_zero {i e : Int} {s : Bool} {c : Nat} {q : Int} (h : Val i e (.fin s c q)) : c = 0 ↔ i = 0 := by
  have h1 := val_abs h
  have p1 := Nat.two_pow_pos (q - e).toNat
  have p2 := Nat.two_pow_pos (e - q).toNat
  constructor
  · rintro rfl
    rw [Nat.zero_mul] at h1
    have := Nat.mul_eq_zero.mp h1.symm
    omega
  · rintro rfl
    rw [show (0 : Int).natAbs = 0 from rfl, Nat.zero_mul] at h1
    have := Nat.mul_eq_zero.mp h1
    omega
theorem val_sign {i e : Int} {s : Bool} {c : Nat} {q : Int} (h : Val i e (.fin s c q)) (hi : i ≠ 0) : s = decide (i < 0) := by
  have h' : signed s c * ((2 ^ (q - e).toNat : Nat) : Int) = i * ((2 ^ (e - q).toNat : Nat) : Int) := h
  have hc : 0 < c := by have := val_zero h; omega
  have a1 := p2 (q - e).toNat
  have a2 := p2 (e - q).toNat
  have h1 : decide (signed s c < 0) = s := signed_lt_zero s hc
  rw [← h1, decide_eq_decide]
  constructor
  · intro hlt
    have := Int.mul_neg_of_neg_of_pos hlt a1
    rw [h'] at this
    exact Int.lt_of_not_ge fun hge => by have := Int.mul_nonneg hge (Int.le_of_lt a2); omega
  · intro hlt
    have := Int.mul_neg_of_neg_of_pos hlt a2
    rw [← h'] at this
    exact Int.lt_of_not_ge fun hge => by have := Int.mul_nonneg hge (Int.le_of_lt a1); omega
theorem val_signed {i e : Int} {s : Bool} {c : Nat} {q : Int} (h : Val i e (.fin s c q)) : signed s i.natAbs = i := by
  by_cases hi : i = 0
  · rw [hi]; exact signed_zero s
  · rw [val_sign h hi]; unfold signed
    by_cases h : i < 0 <;> simp [h] <;> omega
theorem val_whole {i : Int} {d : Datum} : Val i 0 d ↔ Whole i d := by
  cases d with
  | nan => exact Iff.rfl
  | inf => exact Iff.rfl
  | fin s c q =>
    show signed s c * ((2 ^ (q - 0).toNat : Nat) : Int) = i * ((2 ^ (0 - q).toNat : Nat) : Int) ↔ signed s (c * 2 ^ q.toNat) = i * ((2 ^ (-q).toNat : Nat) : Int)
    rw [signed_mul, show (q - 0).toNat = q.toNat by omega, show (0 - q).toNat = (-q).toNat by omega]
theorem val_shift {i e : Int} {d : Datum} (k : Nat) : Val i e d ↔ Val (i * ((2 ^ k : Nat) : Int)) (e - k) d := by
  cases d with
  | nan => exact Iff.rfl
  | inf => exact Iff.rfl
  | fin s c q =>
    rw [val_iff (m := min q (e - k)) (by omega) (by omega), val_iff (m := min q (e - k)) (by omega) (by omega),
      show (e - min q (e - k)).toNat = k + (e - k - min q (e - k)).toNat by omega, p2add, Int.mul_assoc]
theorem val_zero_any {e e' : Int} {d : Datum} (h : Val 0 e d) : Val 0 e' d := by
  obtain ⟨s, c, q, rfl⟩ := val_fin h
  have := (val_zero h).mpr rfl
  subst this
  show signed s 0 * _ = 0 * _
  rw [signed_zero]; simp
theorem val_ofInt (i : Int) : Val i 0 (ofInt i) := val_whole.mpr (whole_ofInt i)
theorem val_sum {i j e : Int} {x y : Datum} (hx : Val i e x) (hy : Val j e y) : Val (i + j) e (exactSum x y) := by
  obtain ⟨s, c, q, rfl⟩ := val_fin hx
  obtain ⟨t, d, r, rfl⟩ := val_fin hy
  rw [val_iff (m := min (min q r) e) (by omega) (by omega)] at hx hy
  show Val (i + j) e (.fin (sumSign s t (sumUnits s c q t d r (min q r))) (sumUnits s c q t d r (min q r)).natAbs (min q r))
  rw [val_iff (m := min (min q r) e) (by omega) (by omega), signed_sumSign]
  unfold sumUnits
  rw [units_int, units_int, Int.add_mul, Int.add_mul, Int.mul_assoc, Int.mul_assoc, ← p2add, ← p2add,
    show (q - min q r).toNat + (min q r - min (min q r) e).toNat = (q - min (min q r) e).toNat by omega,
    show (r - min q r).toNat + (min q r - min (min q r) e).toNat = (r - min (min q r) e).toNat by omega, hx, hy]
theorem val_neg {i e : Int} {x : Datum} (hx : Val i e x) : Val (-i) e (negate x) := by
  obtain ⟨s, c, q, rfl⟩ := val_fin hx
  have h : signed s c * ((2 ^ (q - e).toNat : Nat) : Int) = i * ((2 ^ (e - q).toNat : Nat) : Int) := hx
  show signed (!s) c * ((2 ^ (q - e).toNat : Nat) : Int) = -i * ((2 ^ (e - q).toNat : Nat) : Int)
  rw [signed_not, Int.neg_mul, Int.neg_mul, h]
theorem val_prod {i j e g : Int} {x y : Datum} (hx : Val i e x) (hy : Val j g y) : Val (i * j) (e + g) (exactProduct x y) := by
  obtain ⟨s, c, q, rfl⟩ := val_fin hx
  obtain ⟨t, d, r, rfl⟩ := val_fin hy
  rw [val_iff (m := min q e) (by omega) (by omega)] at hx
  rw [val_iff (m := min r g) (by omega) (by omega)] at hy
  show Val (i * j) (e + g) (.fin (s != t) (c * d) (q + r))
  rw [val_iff (m := min q e + min r g) (by omega) (by omega), signed_xor,
    show (q + r - (min q e + min r g)).toNat = (q - min q e).toNat + (r - min r g).toNat by omega,
    show (e + g - (min q e + min r g)).toNat = (e - min q e).toNat + (g - min r g).toNat by omega, p2add, p2add]
  calc signed s c * signed t d * (((2 ^ (q - min q e).toNat : Nat) : Int) * ((2 ^ (r - min r g).toNat : Nat) : Int))
      = (signed s c * ((2 ^ (q - min q e).toNat : Nat) : Int)) * (signed t d * ((2 ^ (r - min r g).toNat : Nat) : Int)) := by ac_rfl
    _ = _ := by rw [hx, hy]; ac_rfl
/-- a number of at most p digits, its exponent in range, rounds to itself -/
theorem val_round {f : Fmt} (hf : Good f) {i e : Int} {x : Datum} (hx : Val i e x) (hi : i.natAbs < 2 ^ f.p) (h1 : f.qmin ≤ e) (h2 : e ≤ f.qmax) : Val i e (round f x) := by
  obtain ⟨s, c, q, rfl⟩ := val_fin hx
  have ha := val_abs hx
  have hs := val_signed hx
  have e1 : round f (.fin s c q) = round f (.fin s i.natAbs e) := roundRatio_congr (by decide) (by decide) (by simpa using ha)
  obtain ⟨c', q', h3, h4⟩ := round_exact hf s hi h1 h2
  have hfit := round_fits hf (.fin s i.natAbs e)
  rw [e1]
  rw [h3] at hfit ⊢
  rw [val_iff (m := f.qmin) hfit.2.1 h1, ← units_int, h4, units_int, hs]
theorem val_order {i j e : Int} {x y : Datum} (hx : Val i e x) (hy : Val j e y) : order x y = some (compare i j) := by
  obtain ⟨s, c, q, rfl⟩ := val_fin hx
  obtain ⟨t, d, r, rfl⟩ := val_fin hy
  rw [val_iff (m := min (min q r) e) (by omega) (by omega)] at hx hy
  show some (compare (signed s (inUnits c q (min q r))) (signed t (inUnits d r (min q r)))) = _
  rw [← compare_mul_pos (signed s _) _ _ (p2 (min q r - min (min q r) e).toNat), units_int, units_int, Int.mul_assoc, Int.mul_assoc, ← p2add, ← p2add,
    show (q - min q r).toNat + (min q r - min (min q r) e).toNat = (q - min (min q r) e).toNat by omega,
    show (r - min q r).toNat + (min q r - min (min q r) e).toNat = (r - min (min q r) e).toNat by omega, hx, hy, compare_mul_pos _ _ _ (p2 _)]
theorem scale_eq {X Y P N t : Nat} (h : X * 2 ^ (P + t) = Y * 2 ^ (N + t)) : X * 2 ^ P = Y * 2 ^ N := by
  rw [Nat.pow_add, Nat.pow_add, ← Nat.mul_assoc, ← Nat.mul_assoc] at h
  exact Nat.eq_of_mul_eq_mul_right (Nat.two_pow_pos t) h
theorem ratio_cross {c d n m : Nat} {q r e g : Int} (hx : c * 2 ^ (q - e).toNat = n * 2 ^ (e - q).toNat) (hy : d * 2 ^ (r - g).toNat = m * 2 ^ (g - r).toNat) :
    c * m * 2 ^ ((q - r) - (e - g)).toNat = n * d * 2 ^ ((e - g) - (q - r)).toNat := by
  have e1 : c * m * 2 ^ ((q - e).toNat + (g - r).toNat) = n * d * 2 ^ ((e - q).toNat + (r - g).toNat) := by
    rw [Nat.pow_add, Nat.pow_add]
    calc c * m * (2 ^ (q - e).toNat * 2 ^ (g - r).toNat) = (c * 2 ^ (q - e).toNat) * (m * 2 ^ (g - r).toNat) := by ac_rfl
      _ = (n * 2 ^ (e - q).toNat) * (d * 2 ^ (r - g).toNat) := by rw [hx, hy]
      _ = _ := by ac_rfl
  have k : ((q - e).toNat : Int) + (g - r).toNat - ((e - q).toNat + (r - g).toNat) = (q - r) - (e - g) := by omega
  refine scale_eq (t := min ((q - e).toNat + (g - r).toNat) ((e - q).toNat + (r - g).toNat)) ?_
  rw [show ((q - r) - (e - g)).toNat + min ((q - e).toNat + (g - r).toNat) ((e - q).toNat + (r - g).toNat) = (q - e).toNat + (g - r).toNat by omega,
    show ((e - g) - (q - r)).toNat + min ((q - e).toNat + (g - r).toNat) ((e - q).toNat + (r - g).toNat) = (e - q).toNat + (r - g).toNat by omega]
  exact e1
/-- a quotient is the rounding of the ratio of the two values -/
theorem quot_ratio {f : Fmt} {s t : Bool} {c d : Nat} {q r i j e g : Int} (hx : Val i e (.fin s c q)) (hy : Val j g (.fin t d r)) (hj : j ≠ 0) :
    quotient f (.fin s c q) (.fin t d r) = roundRatio f (s != t) i.natAbs j.natAbs (e - g) := by
  have hd : d ≠ 0 := fun z => hj ((val_zero hy).mp z)
  show (if d = 0 then _ else roundRatio f (s != t) c d (q - r)) = _
  rw [if_neg hd]
  exact roundRatio_congr (by omega) (by omega) (ratio_cross (val_abs hx) (val_abs hy))
theorem val_quot {f : Fmt} (hf : Good f) {i j k e g : Int} {x y : Datum} (hx : Val i e x) (hy : Val j g y) (hj : j ≠ 0) (hk : i = k * j) (hb : k.natAbs < 2 ^ f.p) (h1 : f.qmin ≤ e - g) (h2 : e - g ≤ f.qmax) : Val k (e - g) (quotient f x y) := by
  obtain ⟨s, c, q, rfl⟩ := val_fin hx
  obtain ⟨t, d, r, rfl⟩ := val_fin hy
  rw [quot_ratio hx hy hj]
  have hv : Val k (e - g) (.fin (s != t) k.natAbs (e - g)) := by
    show signed (s != t) k.natAbs * _ = k * _
    congr 1
    by_cases h0 : k = 0
    · rw [h0]; exact signed_zero _
    · have hi : i ≠ 0 := by rw [hk]; exact Int.mul_ne_zero h0 hj
      rw [val_sign hx hi, val_sign hy hj, hk]
      have q : (decide (k * j < 0) != decide (j < 0)) = decide (k < 0) := by
        rcases Int.lt_or_gt_of_ne hj with hj | hj <;> rcases Int.lt_or_gt_of_ne h0 with h0 | h0
        · have := Int.mul_pos_of_neg_of_neg h0 hj
          rw [decide_eq_false (show ¬ k * j < 0 by omega), decide_eq_true hj, decide_eq_true h0]; rfl
        · have := Int.mul_neg_of_pos_of_neg h0 hj
          rw [decide_eq_true this, decide_eq_true hj, decide_eq_false (show ¬ k < 0 by omega)]; rfl
        · have := Int.mul_neg_of_neg_of_pos h0 hj
          rw [decide_eq_true this, decide_eq_false (show ¬ j < 0 by omega), decide_eq_true h0]; rfl
        · have := Int.mul_pos h0 hj
          rw [decide_eq_false (show ¬ k * j < 0 by omega), decide_eq_false (show ¬ j < 0 by omega), decide_eq_false (show ¬ k < 0 by omega)]; rfl
      rw [q]; unfold signed
      by_cases h : k < 0 <;> simp [h] <;> omega
  have e1 : roundRatio f (s != t) i.natAbs j.natAbs (e - g) = round f (.fin (s != t) k.natAbs (e - g)) := by
    refine roundRatio_congr (by omega) (by decide) ?_
    rw [hk, Int.natAbs_mul]; simp
  rw [e1]
  exact val_round hf hv hb h1 h2
/-! on the bits of a double -/
def DV (i e : Int) (a : UInt64) : Prop := Val i e (val64 a)
theorem DV.fin {i e : Int} {a : UInt64} (h : DV i e a) : DFin a := val_fin h
theorem DV.fin64 {i e : Int} {a : UInt64} (h : DV i e a) : Jvm.Free.Fl.Fin64 a := Jvm.Free.Fl.fin64_core.mpr h.fin
theorem DV.nn {i e : Int} {a : UInt64} (h : DV i e a) : Jvm.Free.Fl.NoNaN64 a := h.fin64.noNaN
theorem dv_lit {i e : Int} {a : UInt64} (s : Bool) (c : Nat) (q : Int) (h1 : val64 a = .fin s c q) (h2 : signed s c * ((2 ^ (q - e).toNat : Nat) : Int) = i * ((2 ^ (e - q).toNat : Nat) : Int)) : DV i e a := by
  unfold DV; rw [h1]; exact h2
theorem dv_int {i : Int} {a : UInt64} : DV i 0 a ↔ DInt i a := val_whole
theorem dv_shift {i e : Int} {a : UInt64} (k : Nat) : DV i e a ↔ DV (i * ((2 ^ k : Nat) : Int)) (e - k) a := val_shift k
theorem dv_add {i j e : Int} {a b : UInt64} (ha : DV i e a) (hb : DV j e b) (h : (i + j).natAbs < 2 ^ 53) (h1 : -1074 ≤ e) (h2 : e ≤ 971) : DV (i + j) e (FP.dadd a b) := by
  unfold DV; rw [show FP.dadd a b = dadd a b from rfl, val64_dadd]; exact val_round good_b64 (val_sum ha hb) h h1 h2
theorem dv_sub {i j e : Int} {a b : UInt64} (ha : DV i e a) (hb : DV j e b) (h : (i - j).natAbs < 2 ^ 53) (h1 : -1074 ≤ e) (h2 : e ≤ 971) : DV (i - j) e (FP.dsub a b) := by
  unfold DV; rw [show FP.dsub a b = dsub a b from rfl, val64_dsub]; exact val_round good_b64 (val_sum ha (val_neg hb)) h h1 h2
theorem dv_mul {i j e g : Int} {a b : UInt64} (ha : DV i e a) (hb : DV j g b) (h : (i * j).natAbs < 2 ^ 53) (h1 : -1074 ≤ e + g) (h2 : e + g ≤ 971) : DV (i * j) (e + g) (FP.dmul a b) := by
  unfold DV; rw [show FP.dmul a b = dmul a b from rfl, val64_dmul]; exact val_round good_b64 (val_prod ha hb) h h1 h2
theorem dv_div {i j k e g : Int} {a b : UInt64} (ha : DV i e a) (hb : DV j g b) (hj : j ≠ 0) (hk : i = k * j) (h : k.natAbs < 2 ^ 53) (h1 : -1074 ≤ e - g) (h2 : e - g ≤ 971) : DV k (e - g) (FP.ddiv a b) := by
  unfold DV; rw [show FP.ddiv a b = ddiv a b from rfl, val64_ddiv]; exact val_quot good_b64 ha hb hj hk h h1 h2
theorem dv_cmp {i j e : Int} {a b : UInt64} (ha : DV i e a) (hb : DV j e b) : FP.dcmp a b = some (compare i j) := val_order ha hb
theorem dv_i2d (n : Int32) : DV n.toInt 0 (FP.i2d n) := dv_int.mpr (i2d_int n)
theorem dv_l2d {n : Int64} (h : n.toInt.natAbs ≤ 2 ^ 53) : DV n.toInt 0 (FP.l2d n) := dv_int.mpr (l2d_int h)
/-- what dcmpl and dcmpg push -/
theorem cv_eq {i j e : Int} {a b : UInt64} (ha : DV i e a) (hb : DV j e b) (o : Jvm.ClassFile.CmpOp) (h : i = j) : Jvm.Op.cmpValue (FP.dcmp a b) o = 0 := by
  rw [dv_cmp ha hb, (compare_eq_iff i j).mpr h]; cases o <;> rfl
theorem cv_lt {i j e : Int} {a b : UInt64} (ha : DV i e a) (hb : DV j e b) (o : Jvm.ClassFile.CmpOp) (h : i < j) : Jvm.Op.cmpValue (FP.dcmp a b) o = -1 := by
  rw [dv_cmp ha hb, (compare_lt_iff i j).mpr h]; cases o <;> rfl
theorem cv_gt {i j e : Int} {a b : UInt64} (ha : DV i e a) (hb : DV j e b) (o : Jvm.ClassFile.CmpOp) (h : j < i) : Jvm.Op.cmpValue (FP.dcmp a b) o = 1 := by
  rw [dv_cmp ha hb, (compare_gt_iff i j).mpr h]; cases o <;> rfl
theorem cv_neg {i j e : Int} {a b : UInt64} (ha : DV i e a) (hb : DV j e b) (o : Jvm.ClassFile.CmpOp) : (Jvm.Op.cmpValue (FP.dcmp a b) o < (0 : Int32)) ↔ i < j := by
  rcases Int.lt_trichotomy i j with h | h | h
  · rw [cv_lt ha hb o h]; exact ⟨fun _ => h, fun _ => by decide⟩
  · rw [cv_eq ha hb o h]; exact ⟨fun z => absurd z (by decide), fun z => by omega⟩
  · rw [cv_gt ha hb o h]; exact ⟨fun z => absurd z (by decide), fun z => by omega⟩
theorem cv_pos {i j e : Int} {a b : UInt64} (ha : DV i e a) (hb : DV j e b) (o : Jvm.ClassFile.CmpOp) : ((0 : Int32) < Jvm.Op.cmpValue (FP.dcmp a b) o) ↔ j < i := by
  rcases Int.lt_trichotomy i j with h | h | h
  · rw [cv_lt ha hb o h]; exact ⟨fun z => absurd z (by decide), fun z => by omega⟩
  · rw [cv_eq ha hb o h]; exact ⟨fun z => absurd z (by decide), fun z => by omega⟩
  · rw [cv_gt ha hb o h]; exact ⟨fun _ => h, fun _ => by decide⟩
theorem dv_neg {i e : Int} {a : UInt64} (ha : DV i e a) : DV (-i) e (FP.dneg a) := by
  unfold DV; rw [Jvm.FP.val64_dneg]; exact val_neg ha
end Jvm.Pilot.@@N@@.FV
namespace Jvm.Pilot.@@N@@
open Jvm Jvm.ClassFile Sem Op Lib Jvm.Free Jvm.Stand Jvm.LawKit Jvm.RoadKit Bundle Jvm.Pilot.@@N@@.Jvm.D
def own_ex (x : UInt64) : Int32 := if (cmpValue (FP.dcmp x (2355382605114769408 : UInt64)) .l) < (0 : Int32) then (0 : Int32) else (if (0 : Int32) < (cmpValue (FP.dcmp x (6858982232485265408 : UInt64)) .g) then (0 : Int32) else (1 : Int32))
theorem d1_0 : decode prog_22_method_3_code 0 = .ok (.dload_n 0, 1) := by decide +kernel
theorem d1_1 : decode prog_22_method_3_code 1 = .ok (.ldc2_w 19, 3) := by decide +kernel
theorem d1_4 : decode prog_22_method_3_code 4 = .ok (.dcmp .l, 1) := by decide +kernel
theorem d1_5 : decode prog_22_method_3_code 5 = .ok (.ifCond .lt 15, 3) := by decide +kernel
theorem d1_20 : decode prog_22_method_3_code 20 = .ok (.iconst 0, 1) := by decide +kernel
theorem d1_21 : decode prog_22_method_3_code 21 = .ok (.ireturn, 1) := by decide +kernel
theorem d1_8 : decode prog_22_method_3_code 8 = .ok (.dload_n 0, 1) := by decide +kernel
theorem d1_9 : decode prog_22_method_3_code 9 = .ok (.ldc2_w 21, 3) := by decide +kernel
theorem d1_12 : decode prog_22_method_3_code 12 = .ok (.dcmp .g, 1) := by decide +kernel
theorem d1_13 : decode prog_22_method_3_code 13 = .ok (.ifCond .gt 7, 3) := by decide +kernel
theorem d1_16 : decode prog_22_method_3_code 16 = .ok (.iconst 1, 1) := by decide +kernel
theorem d1_17 : decode prog_22_method_3_code 17 = .ok (.goto 4, 3) := by decide +kernel
theorem pn_1 : plainName "com/example/mensura/mensura/DoubleDouble" = true := by first | (simp [plainName, overriddenIn]; done) | decide +kernel
theorem ef_rm1 (m : MethodId) (x0 : UInt64) : entryFrame m #[(.double x0)] 2 = mkF m 0 #[.val (.double x0), .second] [] := by first | (simp [entryFrame, mkF, argsToLocals, Value.category]; done) | rfl
def Q_rm1 (Z : State) (x : UInt64) (h0 : Heap) (n0 : Nat) (rv : Option Value) (h : Heap) (L : List Loc) : Prop := rv = some (.int (own_ex x)) ∧ Fr n0 L ∧ h = h0
set_option maxRecDepth 65536 in
set_option maxHeartbeats 40000000 in
theorem rm1 (l : Launch) (Z : State) (a0 : Array Value) (hw : ∀ d ∈ tables_1, d.before a0 Z = true) (ws : List Jvm.Cond) (x : UInt64) (h0 : Heap) (n0 : Nat) (Z0 : n0 ≤ h0.size) :
    MetFree l (⟨"com/example/mensura/mensura/DoubleDouble", "expands", "(D)Z"⟩ : MethodName) (head1 (Jvm.Cond.code (⟨"com/example/mensura/mensura/DoubleDouble", "expands", "(D)Z"⟩ : MethodName) prog_22_method_3_code 2 (some .boolean) :: ws) ({ frames := 0, cells := 0, slots := 0, locals := 0 } : Room)) (fun av U => av = #[(.double x)] ∧ Z.Warmed39 U.vm ∧ U.heap = h0) (fun _ _ _ _ _ => True) (fun _ U o U' => ∃ rv L, o = .returned rv ∧ Q_rm1 Z x h0 n0 rv U'.heap L ∧ FrameEnd U o U' L ({ frames := 0, cells := 0, slots := 0, locals := 0 } : Room).cells ({ frames := 0, cells := 0, slots := 0, locals := 0 } : Room).slots) := by
  refine MetFree.of_bodySF (plainFor_of_name pn_1) hisR ?_
  intro p e s m args below meth c s₁ Bd hml0 hP hK
  obtain ⟨rfl, hZ, hh⟩ := hP
  have hx := Bd.exec
  have hby := Bd.bytes
  have hml : c.maxLocals = 2 := hml0
  have hown : s.vm.findClass "com/example/mensura/mensura/DoubleDouble" = some m.cls := findClass_of_methodNamed Bd.named
  have hnm := (name_of_methodNamed Bd.named Bd.method).1
  have X0 : Stand p l e ({ frames := 0, cells := 0, slots := 0, locals := 0 } : Room) s m #[(.double x)] below meth c s₁ [] 0 0 := Stand.of_body Bd
  have e0 : s₁.heap = h0 := by rw [← hh, Bd.state]; rfl
  have N0 := Fr.nil n0
  have pre0 : ∀ t, Steps p.tables e below (s₁.setTop (mkF m 0 #[.val (.double x), .second] [])) t → Steps p.tables e below (s₁.setTop (entryFrame m #[(.double x)] 2)) t := fun t k => castTop (ef_rm1 m x) k
  have sg1 : ∀ target, Steps p.tables e below (s₁.setTop (mkF m 5 #[.val (.double x), .second] [(.int (cmpValue (FP.dcmp x (2355382605114769408 : UInt64)) .l))])) target → Steps p.tables e below (s₁.setTop (mkF m 0 #[.val (.double x), .second] [])) target := by
    intro target kt
    show Steps p.tables e below (s₁.setTop (mkF m 0 #[.val (.double x), .second] [])) _
    refine XS.dloadN X0.here hx rfl (hb hby d1_0) rfl ?_
    show Steps p.tables e below (s₁.setTop (mkF m 1 #[.val (.double x), .second] [(.double x)])) _
    refine X0.ldc2DoubleC hx hown (mvT hZ (hw _ (List.mem_of_getElem? (i := 20) rfl))) (g := (mkF m 1 #[.val (.double x), .second] [(.double x)])) rfl (hb hby d1_1) _ ?_
    show Steps p.tables e below (s₁.setTop (mkF m 4 #[.val (.double x), .second] [(.double (2355382605114769408 : UInt64)), (.double x)])) _
    refine XS.dcmpS X0.here hx rfl (v := (cmpValue (FP.dcmp x (2355382605114769408 : UInt64)) .l)) (hb hby d1_4) rfl rfl ?_
    exact kt
  by_cases h1 : (cmpValue (FP.dcmp x (2355382605114769408 : UInt64)) .l) < (0 : Int32)
  · have sg2 : ∀ target, Steps p.tables e below (s₁.setTop (mkF m 21 #[.val (.double x), .second] [(.int (0 : Int32))])) target → Steps p.tables e below (s₁.setTop (mkF m 5 #[.val (.double x), .second] [(.int (cmpValue (FP.dcmp x (2355382605114769408 : UInt64)) .l))])) target := by
      intro target kt
      show Steps p.tables e below (s₁.setTop (mkF m 5 #[.val (.double x), .second] [(.int (cmpValue (FP.dcmp x (2355382605114769408 : UInt64)) .l))])) _
      refine XS.ifYes X0.here hx rfl (pc0 := 5) (pc' := 20) rfl (hb hby d1_5) rfl ((if0 _ _).trans (tlt (h1 : (cmpValue (FP.dcmp x (2355382605114769408 : UInt64)) .l) < (0 : Int32))).1) (by decide) (by decide) ?_
      show Steps p.tables e below (s₁.setTop (mkF m 20 #[.val (.double x), .second] [])) _
      refine XS.iconst X0.here hx rfl (hb hby d1_20) ?_
      exact kt
    obtain ⟨fs, hr, hrun, hended, hW, hsame⟩ := X0.leave (v := some (.int (0 : Int32))) (fun h => by rw [Bd.returns] at h; cases h)
    refine ⟨_, _, pre0 _ ?_, hrun, hended, _, _, rfl, ?_, ⟨_, rfl⟩, hW, hsame.mono (by decide) (by decide)⟩
    · show Steps p.tables e below (s₁.setTop (mkF m 0 #[.val (.double x), .second] [])) _
      refine sg1 _ ?_
      refine sg2 _ ?_
      show Steps p.tables e below (s₁.setTop (mkF m 21 #[.val (.double x), .second] [(.int (0 : Int32))])) _
      exact retN X0 hx (t := .boolean) Bd.returns (by simp) (hb hby d1_21) hr
    · show Q_rm1 Z x h0 n0 _ s₁.heap _
      rw [e0]
      exact ⟨(by unfold own_ex; rw [if_pos h1]), N0, rfl⟩
  · have sg3 : ∀ target, Steps p.tables e below (s₁.setTop (mkF m 13 #[.val (.double x), .second] [(.int (cmpValue (FP.dcmp x (6858982232485265408 : UInt64)) .g))])) target → Steps p.tables e below (s₁.setTop (mkF m 5 #[.val (.double x), .second] [(.int (cmpValue (FP.dcmp x (2355382605114769408 : UInt64)) .l))])) target := by
      intro target kt
      show Steps p.tables e below (s₁.setTop (mkF m 5 #[.val (.double x), .second] [(.int (cmpValue (FP.dcmp x (2355382605114769408 : UInt64)) .l))])) _
      refine XS.ifNo X0.here hx rfl (hb hby d1_5) rfl ((if0 _ _).trans (flt (h1 : ¬ ((cmpValue (FP.dcmp x (2355382605114769408 : UInt64)) .l) < (0 : Int32)))).1) ?_
      show Steps p.tables e below (s₁.setTop (mkF m 8 #[.val (.double x), .second] [])) _
      refine XS.dloadN X0.here hx rfl (hb hby d1_8) rfl ?_
      show Steps p.tables e below (s₁.setTop (mkF m 9 #[.val (.double x), .second] [(.double x)])) _
      refine X0.ldc2DoubleC hx hown (mvT hZ (hw _ (List.mem_of_getElem? (i := 21) rfl))) (g := (mkF m 9 #[.val (.double x), .second] [(.double x)])) rfl (hb hby d1_9) _ ?_
      show Steps p.tables e below (s₁.setTop (mkF m 12 #[.val (.double x), .second] [(.double (6858982232485265408 : UInt64)), (.double x)])) _
      refine XS.dcmpS X0.here hx rfl (v := (cmpValue (FP.dcmp x (6858982232485265408 : UInt64)) .g)) (hb hby d1_12) rfl rfl ?_
      exact kt
    by_cases h2 : (0 : Int32) < (cmpValue (FP.dcmp x (6858982232485265408 : UInt64)) .g)
    · have sg4 : ∀ target, Steps p.tables e below (s₁.setTop (mkF m 21 #[.val (.double x), .second] [(.int (0 : Int32))])) target → Steps p.tables e below (s₁.setTop (mkF m 13 #[.val (.double x), .second] [(.int (cmpValue (FP.dcmp x (6858982232485265408 : UInt64)) .g))])) target := by
        intro target kt
        show Steps p.tables e below (s₁.setTop (mkF m 13 #[.val (.double x), .second] [(.int (cmpValue (FP.dcmp x (6858982232485265408 : UInt64)) .g))])) _
        refine XS.ifYes X0.here hx rfl (pc0 := 13) (pc' := 20) rfl (hb hby d1_13) rfl ((if0 _ _).trans (tlt (h2 : (0 : Int32) < (cmpValue (FP.dcmp x (6858982232485265408 : UInt64)) .g))).2.2.1) (by decide) (by decide) ?_
        show Steps p.tables e below (s₁.setTop (mkF m 20 #[.val (.double x), .second] [])) _
        refine XS.iconst X0.here hx rfl (hb hby d1_20) ?_
        exact kt
      obtain ⟨fs, hr, hrun, hended, hW, hsame⟩ := X0.leave (v := some (.int (0 : Int32))) (fun h => by rw [Bd.returns] at h; cases h)
      refine ⟨_, _, pre0 _ ?_, hrun, hended, _, _, rfl, ?_, ⟨_, rfl⟩, hW, hsame.mono (by decide) (by decide)⟩
      · show Steps p.tables e below (s₁.setTop (mkF m 0 #[.val (.double x), .second] [])) _
        refine sg1 _ ?_
        refine sg3 _ ?_
        refine sg4 _ ?_
        show Steps p.tables e below (s₁.setTop (mkF m 21 #[.val (.double x), .second] [(.int (0 : Int32))])) _
        exact retN X0 hx (t := .boolean) Bd.returns (by simp) (hb hby d1_21) hr
      · show Q_rm1 Z x h0 n0 _ s₁.heap _
        rw [e0]
        exact ⟨(by unfold own_ex; rw [if_neg h1, if_pos h2]), N0, rfl⟩
    · have sg5 : ∀ target, Steps p.tables e below (s₁.setTop (mkF m 21 #[.val (.double x), .second] [(.int (1 : Int32))])) target → Steps p.tables e below (s₁.setTop (mkF m 13 #[.val (.double x), .second] [(.int (cmpValue (FP.dcmp x (6858982232485265408 : UInt64)) .g))])) target := by
        intro target kt
        show Steps p.tables e below (s₁.setTop (mkF m 13 #[.val (.double x), .second] [(.int (cmpValue (FP.dcmp x (6858982232485265408 : UInt64)) .g))])) _
        refine XS.ifNo X0.here hx rfl (hb hby d1_13) rfl ((if0 _ _).trans (flt (h2 : ¬ ((0 : Int32) < (cmpValue (FP.dcmp x (6858982232485265408 : UInt64)) .g)))).2.2.1) ?_
        show Steps p.tables e below (s₁.setTop (mkF m 16 #[.val (.double x), .second] [])) _
        refine XS.iconst X0.here hx rfl (hb hby d1_16) ?_
        show Steps p.tables e below (s₁.setTop (mkF m 17 #[.val (.double x), .second] [(.int (1 : Int32))])) _
        refine XS.goto X0.here hx rfl (pc0 := 17) (pc' := 21) rfl (hb hby d1_17) (by decide) (by decide) ?_
        exact kt
      obtain ⟨fs, hr, hrun, hended, hW, hsame⟩ := X0.leave (v := some (.int (1 : Int32))) (fun h => by rw [Bd.returns] at h; cases h)
      refine ⟨_, _, pre0 _ ?_, hrun, hended, _, _, rfl, ?_, ⟨_, rfl⟩, hW, hsame.mono (by decide) (by decide)⟩
      · show Steps p.tables e below (s₁.setTop (mkF m 0 #[.val (.double x), .second] [])) _
        refine sg1 _ ?_
        refine sg3 _ ?_
        refine sg5 _ ?_
        show Steps p.tables e below (s₁.setTop (mkF m 21 #[.val (.double x), .second] [(.int (1 : Int32))])) _
        exact retN X0 hx (t := .boolean) Bd.returns (by simp) (hb hby d1_21) hr
      · show Q_rm1 Z x h0 n0 _ s₁.heap _
        rw [e0]
        exact ⟨(by unfold own_ex; rw [if_neg h1, if_neg h2]), N0, rfl⟩
def own_t (q : Int32) : Int32 := ((q &&& (2147483647 : Int32)) % (63 : Int32))
def own_P (q : Int32) : UInt64 := FP.l2d ((1 : Int64) <<< ((own_t q) &&& 0x3f).toInt64)
def own_lo (q : Int32) : UInt64 := FP.ddiv (2355382605114769408 : UInt64) (own_P q)
def own_hi (q : Int32) : UInt64 := FP.ddiv (6858982232485265408 : UInt64) (own_P q)
theorem own_t_rng (q : Int32) : 0 ≤ (own_t q).toInt ∧ (own_t q).toInt ≤ 62 := by
  have h1 := c_mask q (2147483647 : Int32) 31 (by decide) (by decide)
  have h2 : 0 ≤ (q &&& (2147483647 : Int32)).toInt := by rw [h1]; exact Int.emod_nonneg _ (by decide)
  unfold own_t
  rw [Int32.toInt_mod, show (63 : Int32).toInt = 63 by decide, Int.tmod_eq_emod_of_nonneg h2]
  have := Int.emod_nonneg (q &&& (2147483647 : Int32)).toInt (show (63 : Int) ≠ 0 by decide)
  have := Int.emod_lt_of_pos (q &&& (2147483647 : Int32)).toInt (show (0 : Int) < 63 by decide)
  omega
theorem own_ptab : ∀ j : Nat, j < 63 → Jvm.FP.Core.val64 (FP.l2d ((1 : Int64) <<< ((Int32.ofInt j) &&& 0x3f).toInt64)) = .fin false 4503599627370496 ((j : Int) - 52) := by decide +kernel
theorem own_P_val (q : Int32) : ∃ t : Nat, t ≤ 62 ∧ FV.DV 1 t (own_P q) := by
  have h := own_t_rng q
  refine ⟨(own_t q).toInt.toNat, by omega, ?_⟩
  have t := own_ptab (own_t q).toInt.toNat (by omega)
  rw [Int.toNat_of_nonneg h.1, Int32.ofInt_toInt] at t
  refine FV.dv_lit false _ _ t ?_
  rw [Int.toNat_of_nonneg h.1, show ((own_t q).toInt - 52 - (own_t q).toInt).toNat = 0 by omega, show ((own_t q).toInt - ((own_t q).toInt - 52)).toNat = 52 by omega]
  decide
theorem own_c1 : FV.DV 1 (-500) (2355382605114769408 : UInt64) := FV.dv_lit false 4503599627370496 (-552) (by decide +kernel) (by decide)
theorem own_c2 : FV.DV 1 500 (6858982232485265408 : UInt64) := FV.dv_lit false 4503599627370496 448 (by decide +kernel) (by decide)
theorem own_c0 : FV.DV 0 (-52) (0 : UInt64) := FV.dv_lit false 0 (-1074) (by decide +kernel) (by simp [Jvm.FP.Core.signed])
theorem own_l2d (n : Int64) : ∃ i e : Int, i.natAbs < 2 ^ 53 ∧ -52 ≤ e ∧ e ≤ 12 ∧ FV.DV i e (FP.l2d n) := by
  by_cases h : n.toInt = 0
  · exact ⟨0, 0, by decide, by decide, by decide, by have := FV.dv_l2d (n := n) (by omega); rw [h] at this; exact this⟩
  · have h1 := (Jvm.FP.Core.l2d_big h).1
    have h2 := Jvm.FP.Core.l2d_mag n
    obtain ⟨A, hA⟩ : ∃ z, z = (Jvm.FP.Core.l2d n).toNat := ⟨_, rfl⟩
    rw [← hA] at h1 h2
    have hE : Jvm.FP.Core.fieldE Jvm.FP.Core.b64 A = A / 4503599627370496 % 2048 := rfl
    have hT : Jvm.FP.Core.fieldT Jvm.FP.Core.b64 A = A % 4503599627370496 := rfl
    have hd : Jvm.FP.Core.val64 (FP.l2d n) = .fin (Jvm.FP.Core.fieldS Jvm.FP.Core.b64 A) (4503599627370496 + A % 4503599627370496) (-1074 + (((A / 4503599627370496 % 2048 : Nat) : Int) - 1)) := by
      show Jvm.FP.Core.decode Jvm.FP.Core.b64 (Jvm.FP.Core.l2d n).toNat = _
      rw [← hA]
      unfold Jvm.FP.Core.decode
      rw [if_neg (by rw [hE, show Jvm.FP.Core.b64.exps - 1 = 2047 from rfl]; omega), if_neg (by rw [hE]; omega), hE, hT]; rfl
    refine ⟨Jvm.FP.Core.signed (Jvm.FP.Core.fieldS Jvm.FP.Core.b64 A) (4503599627370496 + A % 4503599627370496), -1074 + (((A / 4503599627370496 % 2048 : Nat) : Int) - 1), ?_, by omega, by omega, ?_⟩
    · rw [Jvm.FP.Core.natAbs_signed]; omega
    · unfold FV.DV; rw [hd]; exact rfl
theorem own_core {x Q lo hi : UInt64} {i e : Int} {t : Nat} (hi1 : i.natAbs < 2 ^ 53) (he1 : -52 ≤ e) (he2 : e ≤ 12) (ht : t ≤ 62) (hx : FV.DV i e x) (hP : FV.DV 1 t Q) (hlo : FV.DV 1 (-500 - (t : Int)) lo) (hhi : FV.DV 1 (500 - (t : Int)) hi) :
    Jvm.Free.Fl.NoNaN64 (FP.dmul x lo) ∧ Jvm.Free.Fl.NoNaN64 (FP.dmul x hi) ∧
    own_ex (FP.dmul x lo) = (if (cmpValue (FP.dcmp x Q) .l) < (0 : Int32) then (0 : Int32) else (1 : Int32)) ∧
    own_ex (FP.dmul x hi) = (if (0 : Int32) < (cmpValue (FP.dcmp x (0 : UInt64)) .l) then (if (0 : Int32) < (cmpValue (FP.dcmp x Q) .g) then (0 : Int32) else (1 : Int32)) else (0 : Int32)) := by
  obtain ⟨k, hk⟩ : ∃ k : Nat, (k : Int) = e + 52 := ⟨(e + 52).toNat, by omega⟩
  have hL0 := FV.dv_mul hx hlo (by rw [Int.mul_one]; exact hi1) (by omega) (by omega)
  have hH0 := FV.dv_mul hx hhi (by rw [Int.mul_one]; exact hi1) (by omega) (by omega)
  refine ⟨hL0.nn, hH0.nn, ?_⟩
  have hX := (FV.dv_shift k).mp hx
  have hL := (FV.dv_shift k).mp hL0
  have hH := (FV.dv_shift k).mp hH0
  have hQ := (FV.dv_shift (52 + t)).mp hP
  have c1 := (FV.dv_shift (52 + t)).mp own_c1
  have c2 := (FV.dv_shift (1052 + t)).mp own_c2
  have c3 := (FV.dv_shift (52 + t)).mp own_c2
  have hH2 := (FV.dv_shift (948 - t)).mp hH
  rw [Int.mul_one] at hL hH hH2
  rw [Int.one_mul] at hQ c1 c2 c3
  rw [show e - (k : Int) = -52 by omega] at hX
  rw [show e + (-500 - (t : Int)) - (k : Int) = -552 - (t : Int) by omega] at hL
  rw [show e + (500 - (t : Int)) - (k : Int) = 448 - (t : Int) by omega] at hH hH2
  rw [show 448 - (t : Int) - ((948 - t : Nat) : Int) = -500 by omega] at hH2
  rw [show (t : Int) - ((52 + t : Nat) : Int) = -52 by omega] at hQ
  rw [show -500 - ((52 + t : Nat) : Int) = -552 - (t : Int) by omega] at c1
  rw [show 500 - ((1052 + t : Nat) : Int) = -552 - (t : Int) by omega] at c2
  rw [show 500 - ((52 + t : Nat) : Int) = 448 - (t : Int) by omega] at c3
  have hbig : i * ((2 ^ k : Nat) : Int) < ((2 ^ (1052 + t) : Nat) : Int) := by
    have q1 : (i * ((2 ^ k : Nat) : Int)).natAbs < 2 ^ 53 * 2 ^ k := by
      rw [Int.natAbs_mul, Int.natAbs_natCast]; exact Nat.mul_lt_mul_of_pos_right hi1 (Nat.two_pow_pos k)
    rw [← Nat.pow_add] at q1
    have q2 : (2 : Nat) ^ (53 + k) ≤ 2 ^ (1052 + t) := Nat.pow_le_pow_right (by decide) (by omega)
    omega
  have hm := FV.p2 (948 - t)
  have hsg : (i * ((2 ^ k : Nat) : Int) * ((2 ^ (948 - t) : Nat) : Int) < 1) ↔ ¬ (0 < i * ((2 ^ k : Nat) : Int)) := by
    constructor
    · intro h1 h2; have := Int.mul_pos h2 hm; omega
    · intro h1
      rcases Int.lt_or_eq_of_le (Int.not_lt.mp h1) with h2 | h2
      · have := Int.mul_neg_of_neg_of_pos h2 hm; omega
      · rw [h2, Int.zero_mul]; decide
  unfold own_ex
  simp only [FV.cv_neg hL c1 .l, FV.cv_pos hL c2 .g, FV.cv_neg hX hQ .l, FV.cv_neg hH2 own_c1 .l, FV.cv_pos hH c3 .g, FV.cv_pos hX own_c0 .l, FV.cv_pos hX hQ .g, hsg]
  constructor
  · rw [if_neg (show ¬ ((2 ^ (1052 + t) : Nat) : Int) < i * ((2 ^ k : Nat) : Int) by omega)]
  · by_cases h : 0 < i * ((2 ^ k : Nat) : Int)
    · rw [if_neg (fun z => z h), if_pos h]
    · rw [if_pos h, if_neg h]
theorem own_lo_val {q : Int32} {t : Nat} (ht : t ≤ 62) (h : FV.DV 1 t (own_P q)) : FV.DV 1 (-500 - (t : Int)) (own_lo q) := FV.dv_div (k := 1) own_c1 h (by decide) (by decide) (by decide) (by omega) (by omega)
theorem own_hi_val {q : Int32} {t : Nat} (ht : t ≤ 62) (h : FV.DV 1 t (own_P q)) : FV.DV 1 (500 - (t : Int)) (own_hi q) := FV.dv_div (k := 1) own_c2 h (by decide) (by decide) (by decide) (by omega) (by omega)
theorem own_idx (q : Int32) : ¬ ((q &&& (15 : Int32)) < 0) ∧ (q &&& (15 : Int32)) < (16 : Int32) ∧ (q &&& (15 : Int32)).toNatClampNeg < 16 := by
  have h1 := c_mask q (15 : Int32) 4 (by decide) (by decide)
  have h2 := Int.emod_nonneg q.toInt (show ((2 ^ 4 : Nat) : Int) ≠ 0 by decide)
  have h3 := Int.emod_lt_of_pos q.toInt (show (0 : Int) < ((2 ^ 4 : Nat) : Int) by decide)
  rw [← h1] at h2 h3
  refine ⟨?_, ?_, ?_⟩
  · rw [Int32.lt_iff_toInt_lt, show (0 : Int32).toInt = 0 by decide]; omega
  · rw [Int32.lt_iff_toInt_lt, show (16 : Int32).toInt = 16 by decide]; omega
  · show (q &&& (15 : Int32)).toInt.toNat < 16; omega
theorem own_pack {p : Program} {l : Launch} {e : Env} {R : Room} {s : State} {m : MethodId} {args : Array Value} {below : List Frame} {meth : Method} {c : Code} {T : State} {locs : List Loc} {cells slots n0 : Nat} (X : Stand p l e R s m args below meth c T locs cells slots) (N : Fr n0 locs) : ∃ LL, Stand p l e R s m args below meth c T LL cells slots ∧ Fr n0 LL := ⟨_, X, N⟩
theorem own_tab : ∀ j : Nat, j < 16 → ∃ (v : UInt64) (u : Int32), [(.double (2355382605114769408 : UInt64)), (.double (2355382605114769407 : UInt64)), (.double (6858982232485265408 : UInt64)), (.double (6858982232485265409 : UInt64)), (.double (6858982232485265407 : UInt64)), (.double (2355382605114769409 : UInt64)), (.double (4607182418800017408 : UInt64)), (.double (0 : UInt64)), (.double (9223372036854775808 : UInt64)), (.double (13830554455654793216 : UInt64)), (.double (11578754641969545216 : UInt64)), (.double (9218868437227405311 : UInt64)), (.double (1 : UInt64)), (.double (6863485832112635904 : UInt64)), (.double (2350879005487398912 : UInt64)), (.double (16082354269340041216 : UInt64))].getD j (Value.double (0 : UInt64)) = Value.double v ∧ [(.int (nar .boolean (1 : Int32))), (.int (nar .boolean (0 : Int32))), (.int (nar .boolean (1 : Int32))), (.int (nar .boolean (0 : Int32))), (.int (nar .boolean (1 : Int32))), (.int (nar .boolean (1 : Int32))), (.int (nar .boolean (1 : Int32))), (.int (nar .boolean (0 : Int32))), (.int (nar .boolean (0 : Int32))), (.int (nar .boolean (0 : Int32))), (.int (nar .boolean (0 : Int32))), (.int (nar .boolean (0 : Int32))), (.int (nar .boolean (0 : Int32))), (.int (nar .boolean (0 : Int32))), (.int (nar .boolean (0 : Int32))), (.int (nar .boolean (0 : Int32)))].getD j (Value.int (0 : Int32)) = Value.int u ∧ own_ex v = u
  | 0, _ => ⟨_, _, rfl, rfl, by decide +kernel⟩
  | 1, _ => ⟨_, _, rfl, rfl, by decide +kernel⟩
  | 2, _ => ⟨_, _, rfl, rfl, by decide +kernel⟩
  | 3, _ => ⟨_, _, rfl, rfl, by decide +kernel⟩
  | 4, _ => ⟨_, _, rfl, rfl, by decide +kernel⟩
  | 5, _ => ⟨_, _, rfl, rfl, by decide +kernel⟩
  | 6, _ => ⟨_, _, rfl, rfl, by decide +kernel⟩
  | 7, _ => ⟨_, _, rfl, rfl, by decide +kernel⟩
  | 8, _ => ⟨_, _, rfl, rfl, by decide +kernel⟩
  | 9, _ => ⟨_, _, rfl, rfl, by decide +kernel⟩
  | 10, _ => ⟨_, _, rfl, rfl, by decide +kernel⟩
  | 11, _ => ⟨_, _, rfl, rfl, by decide +kernel⟩
  | 12, _ => ⟨_, _, rfl, rfl, by decide +kernel⟩
  | 13, _ => ⟨_, _, rfl, rfl, by decide +kernel⟩
  | 14, _ => ⟨_, _, rfl, rfl, by decide +kernel⟩
  | 15, _ => ⟨_, _, rfl, rfl, by decide +kernel⟩
  | n + 16, h => absurd h (by omega)
theorem pd_1 : parseMethodDescriptor "(D)Z" = some ⟨[.double], some .boolean⟩ := by decide +kernel
theorem pn_0 : plainName "com/example/mensura/mensura/DoubleDoubleExpandsPinLaw" = true := by first | (simp [plainName, overriddenIn]; done) | decide +kernel
theorem ef_rm0 (m : MethodId) (x0 : Int32) (x1 : Int64) (x2 : Int32) : entryFrame m #[(.int x0), (.long x1), (.int x2)] maxLocals = mkF m 0 #[.val (.int x0), .val (.long x1), .second, .val (.int x2), .unset, .unset, .unset, .unset, .unset, .unset, .unset, .unset, .unset, .unset, .unset, .unset, .unset, .unset, .unset] [] := by first | (simp [entryFrame, mkF, argsToLocals, Value.category, maxLocals]; done) | rfl
def Q_rm0 (Z : State) (p1 : Int32) (q2 : Int64) (p3 : Int32) (h0 : Heap) (n0 : Nat) (rv : Option Value) (h : Heap) (L : List Loc) : Prop := rv = some (.int 1) ∧ Fr n0 L
set_option maxRecDepth 65536 in
set_option maxHeartbeats 40000000 in
theorem rm0 (l : Launch) (Z : State) (a0 : Array Value) (hw : ∀ d ∈ tables_1, d.before a0 Z = true) (ws : List Jvm.Cond) (p1 : Int32) (q2 : Int64) (p3 : Int32) (h0 : Heap) (n0 : Nat) (Z0 : n0 ≤ h0.size) :
    MetFree l x (head1 (Jvm.Cond.code x code maxLocals ret :: ws) room_1) (fun av U => av = #[(.int p1), (.long q2), (.int p3)] ∧ Z.Warmed39 U.vm ∧ U.heap = h0) (fun _ _ _ _ _ => True) (fun _ U o U' => ∃ rv L, o = .returned rv ∧ Q_rm0 Z p1 q2 p3 h0 n0 rv U'.heap L ∧ FrameEnd U o U' L room_1.cells room_1.slots) := by
  refine MetFree.of_bodySF (plainFor_of_name pn_0) hisR ?_
  intro p e s m args below meth c s₁ Bd hml0 hP hK
  obtain ⟨rfl, hZ, hh⟩ := hP
  have hx := Bd.exec
  have hby := Bd.bytes
  have hml : c.maxLocals = 19 := hml0
  have hown : s.vm.findClass "com/example/mensura/mensura/DoubleDoubleExpandsPinLaw" = some m.cls := findClass_of_methodNamed Bd.named
  have hnm := (name_of_methodNamed Bd.named Bd.method).1
  have X0 : Stand p l e room_1 s m #[(.int p1), (.long q2), (.int p3)] below meth c s₁ [] 0 0 := Stand.of_body Bd
  have e0 : s₁.heap = h0 := by rw [← hh, Bd.state]; rfl
  have N0 := Fr.nil n0
  have pre0 : ∀ t, Steps p.tables e below (s₁.setTop (mkF m 0 #[.val (.int p1), .val (.long q2), .second, .val (.int p3), .unset, .unset, .unset, .unset, .unset, .unset, .unset, .unset, .unset, .unset, .unset, .unset, .unset, .unset, .unset] [])) t → Steps p.tables e below (s₁.setTop (entryFrame m #[(.int p1), (.long q2), (.int p3)] maxLocals)) t := fun t k => castTop (ef_rm0 m p1 q2 p3) k
  have sg1 : ∀ target, Steps p.tables e below (s₁.setTop (mkF m 2 #[.val (.int p1), .val (.long q2), .second, .val (.int p3), .unset, .unset, .unset, .unset, .unset, .unset, .unset, .unset, .unset, .unset, .unset, .unset, .unset, .unset, .unset] [(.int (16 : Int32))])) target → Steps p.tables e below (s₁.setTop (mkF m 0 #[.val (.int p1), .val (.long q2), .second, .val (.int p3), .unset, .unset, .unset, .unset, .unset, .unset, .unset, .unset, .unset, .unset, .unset, .unset, .unset, .unset, .unset] [])) target := by
    intro target kt
    show Steps p.tables e below (s₁.setTop (mkF m 0 #[.val (.int p1), .val (.long q2), .second, .val (.int p3), .unset, .unset, .unset, .unset, .unset, .unset, .unset, .unset, .unset, .unset, .unset, .unset, .unset, .unset, .unset] [])) _
    refine XS.bipush X0.here hx rfl (hb hby at_0) ?_
    exact kt
  obtain ⟨T2, h2, k2, X2, e2, E2, A2, st2⟩ := newP X0 hx hZ (hw _ (List.mem_of_getElem? (i := 0) rfl)) e0 (g := (mkF m 2 #[.val (.int p1), .val (.long q2), .second, .val (.int p3), .unset, .unset, .unset, .unset, .unset, .unset, .unset, .unset, .unset, .unset, .unset, .unset, .unset, .unset, .unset] [(.int (16 : Int32))])) rfl (hb hby at_2) rfl (by decide) (cap := 16) (by decide) (by decide) (by decide) (by decide)
  obtain ⟨b2, g2⟩ : ∃ z, z = h0.size := ⟨_, rfl⟩
  rw [← g2] at A2 st2
  have g_b2 : n0 ≤ b2 := Nat.le_trans Z0 (Nat.le_of_eq g2.symm)
  have Zs2 : n0 ≤ h2.size := Nat.le_trans Z0 E2.1
  have f3 : Arv Z h2 b2 k2 .double (16 : Int32) [(.double (0 : UInt64)), (.double (0 : UInt64)), (.double (0 : UInt64)), (.double (0 : UInt64)), (.double (0 : UInt64)), (.double (0 : UInt64)), (.double (0 : UInt64)), (.double (0 : UInt64)), (.double (0 : UInt64)), (.double (0 : UInt64)), (.double (0 : UInt64)), (.double (0 : UInt64)), (.double (0 : UInt64)), (.double (0 : UInt64)), (.double (0 : UInt64)), (.double (0 : UInt64))] (.double (0 : UInt64)) := (Arv.new A2 (by decide)).pad (pad_rep [] (.double (0 : UInt64)) 16)
  have sg4 : ∀ target, Steps p.tables e below (T2.setTop (mkF m 9 #[.val (.int p1), .val (.long q2), .second, .val (.int p3), .unset, .unset, .unset, .unset, .unset, .unset, .unset, .unset, .unset, .unset, .unset, .unset, .unset, .unset, .unset] [(.double (2355382605114769408 : UInt64)), (.int (0 : Int32)), (.ref b2), (.ref b2)])) target → Steps p.tables e below (T2.setTop (mkF m 4 #[.val (.int p1), .val (.long q2), .second, .val (.int p3), .unset, .unset, .unset, .unset, .unset, .unset, .unset, .unset, .unset, .unset, .unset, .unset, .unset, .unset, .unset] [(.ref b2)])) target := by
    intro target kt
    show Steps p.tables e below (T2.setTop (mkF m 4 #[.val (.int p1), .val (.long q2), .second, .val (.int p3), .unset, .unset, .unset, .unset, .unset, .unset, .unset, .unset, .unset, .unset, .unset, .unset, .unset, .unset, .unset] [(.ref b2)])) _
    refine XS.dup X2.here hx rfl (hb hby at_4) rfl rfl ?_
    show Steps p.tables e below (T2.setTop (mkF m 5 #[.val (.int p1), .val (.long q2), .second, .val (.int p3), .unset, .unset, .unset, .unset, .unset, .unset, .unset, .unset, .unset, .unset, .unset, .unset, .unset, .unset, .unset] [(.ref b2), (.ref b2)])) _
    refine XS.iconst X2.here hx rfl (hb hby at_5) ?_
    show Steps p.tables e below (T2.setTop (mkF m 6 #[.val (.int p1), .val (.long q2), .second, .val (.int p3), .unset, .unset, .unset, .unset, .unset, .unset, .unset, .unset, .unset, .unset, .unset, .unset, .unset, .unset, .unset] [(.int (0 : Int32)), (.ref b2), (.ref b2)])) _
    refine X2.ldc2DoubleC hx hown (mvT hZ (hw _ (List.mem_of_getElem? (i := 1) rfl))) (g := (mkF m 6 #[.val (.int p1), .val (.long q2), .second, .val (.int p3), .unset, .unset, .unset, .unset, .unset, .unset, .unset, .unset, .unset, .unset, .unset, .unset, .unset, .unset, .unset] [(.int (0 : Int32)), (.ref b2), (.ref b2)])) rfl (hb hby at_6) _ ?_
    exact kt
  obtain ⟨cl5, Ar5, qc5, S5, M5, Hh5, G5⟩ := id f3
  have hin5 : ¬ ((0 : Int32) < 0 ∨ cl5.slots.size ≤ ((0 : Int32)).toNatClampNeg) := inb_of S5 ⟨by decide, by decide⟩
  obtain ⟨T6, h6, X6, e6, W6, st6⟩ := stD X2 hx hZ e2 Ar5 (j := (0 : Int32)) hin5 (g := (mkF m 9 #[.val (.int p1), .val (.long q2), .second, .val (.int p3), .unset, .unset, .unset, .unset, .unset, .unset, .unset, .unset, .unset, .unset, .unset, .unset, .unset, .unset, .unset] [(.double (2355382605114769408 : UInt64)), (.int (0 : Int32)), (.ref b2), (.ref b2)])) rfl rfl (hb hby at_9)
  have N6 := Fr.snoc X6 N0 g_b2
  have Zs6 : n0 ≤ h6.size := by rw [W6.size]; exact Zs2
  have f7 : Arv Z h6 b2 k2 .double (16 : Int32) [(.double (2355382605114769408 : UInt64)), (.double (0 : UInt64)), (.double (0 : UInt64)), (.double (0 : UInt64)), (.double (0 : UInt64)), (.double (0 : UInt64)), (.double (0 : UInt64)), (.double (0 : UInt64)), (.double (0 : UInt64)), (.double (0 : UInt64)), (.double (0 : UInt64)), (.double (0 : UInt64)), (.double (0 : UInt64)), (.double (0 : UInt64)), (.double (0 : UInt64)), (.double (0 : UInt64))] (.double (0 : UInt64)) := Arv.set Ar5 qc5 S5 M5 Hh5 G5 rfl W6 0 rfl (Nat.le_of_ble_eq_true rfl)
  have sg8 : ∀ target, Steps p.tables e below (T6.setTop (mkF m 15 #[.val (.int p1), .val (.long q2), .second, .val (.int p3), .unset, .unset, .unset, .unset, .unset, .unset, .unset, .unset, .unset, .unset, .unset, .unset, .unset, .unset, .unset] [(.double (2355382605114769407 : UInt64)), (.int (1 : Int32)), (.ref b2), (.ref b2)])) target → Steps p.tables e below (T6.setTop (mkF m 10 #[.val (.int p1), .val (.long q2), .second, .val (.int p3), .unset, .unset, .unset, .unset, .unset, .unset, .unset, .unset, .unset, .unset, .unset, .unset, .unset, .unset, .unset] [(.ref b2)])) target := by
    intro target kt
    show Steps p.tables e below (T6.setTop (mkF m 10 #[.val (.int p1), .val (.long q2), .second, .val (.int p3), .unset, .unset, .unset, .unset, .unset, .unset, .unset, .unset, .unset, .unset, .unset, .unset, .unset, .unset, .unset] [(.ref b2)])) _
    refine XS.dup X6.here hx rfl (hb hby at_10) rfl rfl ?_
    show Steps p.tables e below (T6.setTop (mkF m 11 #[.val (.int p1), .val (.long q2), .second, .val (.int p3), .unset, .unset, .unset, .unset, .unset, .unset, .unset, .unset, .unset, .unset, .unset, .unset, .unset, .unset, .unset] [(.ref b2), (.ref b2)])) _
    refine XS.iconst X6.here hx rfl (hb hby at_11) ?_
    show Steps p.tables e below (T6.setTop (mkF m 12 #[.val (.int p1), .val (.long q2), .second, .val (.int p3), .unset, .unset, .unset, .unset, .unset, .unset, .unset, .unset, .unset, .unset, .unset, .unset, .unset, .unset, .unset] [(.int (1 : Int32)), (.ref b2), (.ref b2)])) _
    refine X6.ldc2DoubleC hx hown (mvT hZ (hw _ (List.mem_of_getElem? (i := 2) rfl))) (g := (mkF m 12 #[.val (.int p1), .val (.long q2), .second, .val (.int p3), .unset, .unset, .unset, .unset, .unset, .unset, .unset, .unset, .unset, .unset, .unset, .unset, .unset, .unset, .unset] [(.int (1 : Int32)), (.ref b2), (.ref b2)])) rfl (hb hby at_12) _ ?_
    exact kt
  obtain ⟨cl9, Ar9, qc9, S9, M9, Hh9, G9⟩ := id f7
  have hin9 : ¬ ((1 : Int32) < 0 ∨ cl9.slots.size ≤ ((1 : Int32)).toNatClampNeg) := inb_of S9 ⟨by decide, by decide⟩
  obtain ⟨T10, h10, X10, e10, W10, st10⟩ := stD X6 hx hZ e6 Ar9 (j := (1 : Int32)) hin9 (g := (mkF m 15 #[.val (.int p1), .val (.long q2), .second, .val (.int p3), .unset, .unset, .unset, .unset, .unset, .unset, .unset, .unset, .unset, .unset, .unset, .unset, .unset, .unset, .unset] [(.double (2355382605114769407 : UInt64)), (.int (1 : Int32)), (.ref b2), (.ref b2)])) rfl rfl (hb hby at_15)
  have N10 := Fr.snoc X10 N6 g_b2
  have Zs10 : n0 ≤ h10.size := by rw [W10.size]; exact Zs6
  have f11 : Arv Z h10 b2 k2 .double (16 : Int32) [(.double (2355382605114769408 : UInt64)), (.double (2355382605114769407 : UInt64)), (.double (0 : UInt64)), (.double (0 : UInt64)), (.double (0 : UInt64)), (.double (0 : UInt64)), (.double (0 : UInt64)), (.double (0 : UInt64)), (.double (0 : UInt64)), (.double (0 : UInt64)), (.double (0 : UInt64)), (.double (0 : UInt64)), (.double (0 : UInt64)), (.double (0 : UInt64)), (.double (0 : UInt64)), (.double (0 : UInt64))] (.double (0 : UInt64)) := Arv.set Ar9 qc9 S9 M9 Hh9 G9 rfl W10 1 rfl (Nat.le_of_ble_eq_true rfl)
  have sg12 : ∀ target, Steps p.tables e below (T10.setTop (mkF m 21 #[.val (.int p1), .val (.long q2), .second, .val (.int p3), .unset, .unset, .unset, .unset, .unset, .unset, .unset, .unset, .unset, .unset, .unset, .unset, .unset, .unset, .unset] [(.double (6858982232485265408 : UInt64)), (.int (2 : Int32)), (.ref b2), (.ref b2)])) target → Steps p.tables e below (T10.setTop (mkF m 16 #[.val (.int p1), .val (.long q2), .second, .val (.int p3), .unset, .unset, .unset, .unset, .unset, .unset, .unset, .unset, .unset, .unset, .unset, .unset, .unset, .unset, .unset] [(.ref b2)])) target := by
    intro target kt
    show Steps p.tables e below (T10.setTop (mkF m 16 #[.val (.int p1), .val (.long q2), .second, .val (.int p3), .unset, .unset, .unset, .unset, .unset, .unset, .unset, .unset, .unset, .unset, .unset, .unset, .unset, .unset, .unset] [(.ref b2)])) _
    refine XS.dup X10.here hx rfl (hb hby at_16) rfl rfl ?_
    show Steps p.tables e below (T10.setTop (mkF m 17 #[.val (.int p1), .val (.long q2), .second, .val (.int p3), .unset, .unset, .unset, .unset, .unset, .unset, .unset, .unset, .unset, .unset, .unset, .unset, .unset, .unset, .unset] [(.ref b2), (.ref b2)])) _
    refine XS.iconst X10.here hx rfl (hb hby at_17) ?_
    show Steps p.tables e below (T10.setTop (mkF m 18 #[.val (.int p1), .val (.long q2), .second, .val (.int p3), .unset, .unset, .unset, .unset, .unset, .unset, .unset, .unset, .unset, .unset, .unset, .unset, .unset, .unset, .unset] [(.int (2 : Int32)), (.ref b2), (.ref b2)])) _
    refine X10.ldc2DoubleC hx hown (mvT hZ (hw _ (List.mem_of_getElem? (i := 3) rfl))) (g := (mkF m 18 #[.val (.int p1), .val (.long q2), .second, .val (.int p3), .unset, .unset, .unset, .unset, .unset, .unset, .unset, .unset, .unset, .unset, .unset, .unset, .unset, .unset, .unset] [(.int (2 : Int32)), (.ref b2), (.ref b2)])) rfl (hb hby at_18) _ ?_
    exact kt
  obtain ⟨cl13, Ar13, qc13, S13, M13, Hh13, G13⟩ := id f11
  have hin13 : ¬ ((2 : Int32) < 0 ∨ cl13.slots.size ≤ ((2 : Int32)).toNatClampNeg) := inb_of S13 ⟨by decide, by decide⟩
  obtain ⟨T14, h14, X14, e14, W14, st14⟩ := stD X10 hx hZ e10 Ar13 (j := (2 : Int32)) hin13 (g := (mkF m 21 #[.val (.int p1), .val (.long q2), .second, .val (.int p3), .unset, .unset, .unset, .unset, .unset, .unset, .unset, .unset, .unset, .unset, .unset, .unset, .unset, .unset, .unset] [(.double (6858982232485265408 : UInt64)), (.int (2 : Int32)), (.ref b2), (.ref b2)])) rfl rfl (hb hby at_21)
  have N14 := Fr.snoc X14 N10 g_b2
  have Zs14 : n0 ≤ h14.size := by rw [W14.size]; exact Zs10
  have f15 : Arv Z h14 b2 k2 .double (16 : Int32) [(.double (2355382605114769408 : UInt64)), (.double (2355382605114769407 : UInt64)), (.double (6858982232485265408 : UInt64)), (.double (0 : UInt64)), (.double (0 : UInt64)), (.double (0 : UInt64)), (.double (0 : UInt64)), (.double (0 : UInt64)), (.double (0 : UInt64)), (.double (0 : UInt64)), (.double (0 : UInt64)), (.double (0 : UInt64)), (.double (0 : UInt64)), (.double (0 : UInt64)), (.double (0 : UInt64)), (.double (0 : UInt64))] (.double (0 : UInt64)) := Arv.set Ar13 qc13 S13 M13 Hh13 G13 rfl W14 2 rfl (Nat.le_of_ble_eq_true rfl)
  have sg16 : ∀ target, Steps p.tables e below (T14.setTop (mkF m 27 #[.val (.int p1), .val (.long q2), .second, .val (.int p3), .unset, .unset, .unset, .unset, .unset, .unset, .unset, .unset, .unset, .unset, .unset, .unset, .unset, .unset, .unset] [(.double (6858982232485265409 : UInt64)), (.int (3 : Int32)), (.ref b2), (.ref b2)])) target → Steps p.tables e below (T14.setTop (mkF m 22 #[.val (.int p1), .val (.long q2), .second, .val (.int p3), .unset, .unset, .unset, .unset, .unset, .unset, .unset, .unset, .unset, .unset, .unset, .unset, .unset, .unset, .unset] [(.ref b2)])) target := by
    intro target kt
    show Steps p.tables e below (T14.setTop (mkF m 22 #[.val (.int p1), .val (.long q2), .second, .val (.int p3), .unset, .unset, .unset, .unset, .unset, .unset, .unset, .unset, .unset, .unset, .unset, .unset, .unset, .unset, .unset] [(.ref b2)])) _
    refine XS.dup X14.here hx rfl (hb hby at_22) rfl rfl ?_
    show Steps p.tables e below (T14.setTop (mkF m 23 #[.val (.int p1), .val (.long q2), .second, .val (.int p3), .unset, .unset, .unset, .unset, .unset, .unset, .unset, .unset, .unset, .unset, .unset, .unset, .unset, .unset, .unset] [(.ref b2), (.ref b2)])) _
    refine XS.iconst X14.here hx rfl (hb hby at_23) ?_
    show Steps p.tables e below (T14.setTop (mkF m 24 #[.val (.int p1), .val (.long q2), .second, .val (.int p3), .unset, .unset, .unset, .unset, .unset, .unset, .unset, .unset, .unset, .unset, .unset, .unset, .unset, .unset, .unset] [(.int (3 : Int32)), (.ref b2), (.ref b2)])) _
    refine X14.ldc2DoubleC hx hown (mvT hZ (hw _ (List.mem_of_getElem? (i := 4) rfl))) (g := (mkF m 24 #[.val (.int p1), .val (.long q2), .second, .val (.int p3), .unset, .unset, .unset, .unset, .unset, .unset, .unset, .unset, .unset, .unset, .unset, .unset, .unset, .unset, .unset] [(.int (3 : Int32)), (.ref b2), (.ref b2)])) rfl (hb hby at_24) _ ?_
    exact kt
  obtain ⟨cl17, Ar17, qc17, S17, M17, Hh17, G17⟩ := id f15
  have hin17 : ¬ ((3 : Int32) < 0 ∨ cl17.slots.size ≤ ((3 : Int32)).toNatClampNeg) := inb_of S17 ⟨by decide, by decide⟩
  obtain ⟨T18, h18, X18, e18, W18, st18⟩ := stD X14 hx hZ e14 Ar17 (j := (3 : Int32)) hin17 (g := (mkF m 27 #[.val (.int p1), .val (.long q2), .second, .val (.int p3), .unset, .unset, .unset, .unset, .unset, .unset, .unset, .unset, .unset, .unset, .unset, .unset, .unset, .unset, .unset] [(.double (6858982232485265409 : UInt64)), (.int (3 : Int32)), (.ref b2), (.ref b2)])) rfl rfl (hb hby at_27)
  have N18 := Fr.snoc X18 N14 g_b2
  have Zs18 : n0 ≤ h18.size := by rw [W18.size]; exact Zs14
  have f19 : Arv Z h18 b2 k2 .double (16 : Int32) [(.double (2355382605114769408 : UInt64)), (.double (2355382605114769407 : UInt64)), (.double (6858982232485265408 : UInt64)), (.double (6858982232485265409 : UInt64)), (.double (0 : UInt64)), (.double (0 : UInt64)), (.double (0 : UInt64)), (.double (0 : UInt64)), (.double (0 : UInt64)), (.double (0 : UInt64)), (.double (0 : UInt64)), (.double (0 : UInt64)), (.double (0 : UInt64)), (.double (0 : UInt64)), (.double (0 : UInt64)), (.double (0 : UInt64))] (.double (0 : UInt64)) := Arv.set Ar17 qc17 S17 M17 Hh17 G17 rfl W18 3 rfl (Nat.le_of_ble_eq_true rfl)
  have sg20 : ∀ target, Steps p.tables e below (T18.setTop (mkF m 33 #[.val (.int p1), .val (.long q2), .second, .val (.int p3), .unset, .unset, .unset, .unset, .unset, .unset, .unset, .unset, .unset, .unset, .unset, .unset, .unset, .unset, .unset] [(.double (6858982232485265407 : UInt64)), (.int (4 : Int32)), (.ref b2), (.ref b2)])) target → Steps p.tables e below (T18.setTop (mkF m 28 #[.val (.int p1), .val (.long q2), .second, .val (.int p3), .unset, .unset, .unset, .unset, .unset, .unset, .unset, .unset, .unset, .unset, .unset, .unset, .unset, .unset, .unset] [(.ref b2)])) target := by
    intro target kt
    show Steps p.tables e below (T18.setTop (mkF m 28 #[.val (.int p1), .val (.long q2), .second, .val (.int p3), .unset, .unset, .unset, .unset, .unset, .unset, .unset, .unset, .unset, .unset, .unset, .unset, .unset, .unset, .unset] [(.ref b2)])) _
    refine XS.dup X18.here hx rfl (hb hby at_28) rfl rfl ?_
    show Steps p.tables e below (T18.setTop (mkF m 29 #[.val (.int p1), .val (.long q2), .second, .val (.int p3), .unset, .unset, .unset, .unset, .unset, .unset, .unset, .unset, .unset, .unset, .unset, .unset, .unset, .unset, .unset] [(.ref b2), (.ref b2)])) _
    refine XS.iconst X18.here hx rfl (hb hby at_29) ?_
    show Steps p.tables e below (T18.setTop (mkF m 30 #[.val (.int p1), .val (.long q2), .second, .val (.int p3), .unset, .unset, .unset, .unset, .unset, .unset, .unset, .unset, .unset, .unset, .unset, .unset, .unset, .unset, .unset] [(.int (4 : Int32)), (.ref b2), (.ref b2)])) _
    refine X18.ldc2DoubleC hx hown (mvT hZ (hw _ (List.mem_of_getElem? (i := 5) rfl))) (g := (mkF m 30 #[.val (.int p1), .val (.long q2), .second, .val (.int p3), .unset, .unset, .unset, .unset, .unset, .unset, .unset, .unset, .unset, .unset, .unset, .unset, .unset, .unset, .unset] [(.int (4 : Int32)), (.ref b2), (.ref b2)])) rfl (hb hby at_30) _ ?_
    exact kt
  obtain ⟨cl21, Ar21, qc21, S21, M21, Hh21, G21⟩ := id f19
  have hin21 : ¬ ((4 : Int32) < 0 ∨ cl21.slots.size ≤ ((4 : Int32)).toNatClampNeg) := inb_of S21 ⟨by decide, by decide⟩
  obtain ⟨T22, h22, X22, e22, W22, st22⟩ := stD X18 hx hZ e18 Ar21 (j := (4 : Int32)) hin21 (g := (mkF m 33 #[.val (.int p1), .val (.long q2), .second, .val (.int p3), .unset, .unset, .unset, .unset, .unset, .unset, .unset, .unset, .unset, .unset, .unset, .unset, .unset, .unset, .unset] [(.double (6858982232485265407 : UInt64)), (.int (4 : Int32)), (.ref b2), (.ref b2)])) rfl rfl (hb hby at_33)
  have N22 := Fr.snoc X22 N18 g_b2
  have Zs22 : n0 ≤ h22.size := by rw [W22.size]; exact Zs18
  have f23 : Arv Z h22 b2 k2 .double (16 : Int32) [(.double (2355382605114769408 : UInt64)), (.double (2355382605114769407 : UInt64)), (.double (6858982232485265408 : UInt64)), (.double (6858982232485265409 : UInt64)), (.double (6858982232485265407 : UInt64)), (.double (0 : UInt64)), (.double (0 : UInt64)), (.double (0 : UInt64)), (.double (0 : UInt64)), (.double (0 : UInt64)), (.double (0 : UInt64)), (.double (0 : UInt64)), (.double (0 : UInt64)), (.double (0 : UInt64)), (.double (0 : UInt64)), (.double (0 : UInt64))] (.double (0 : UInt64)) := Arv.set Ar21 qc21 S21 M21 Hh21 G21 rfl W22 4 rfl (Nat.le_of_ble_eq_true rfl)
  have sg24 : ∀ target, Steps p.tables e below (T22.setTop (mkF m 39 #[.val (.int p1), .val (.long q2), .second, .val (.int p3), .unset, .unset, .unset, .unset, .unset, .unset, .unset, .unset, .unset, .unset, .unset, .unset, .unset, .unset, .unset] [(.double (2355382605114769409 : UInt64)), (.int (5 : Int32)), (.ref b2), (.ref b2)])) target → Steps p.tables e below (T22.setTop (mkF m 34 #[.val (.int p1), .val (.long q2), .second, .val (.int p3), .unset, .unset, .unset, .unset, .unset, .unset, .unset, .unset, .unset, .unset, .unset, .unset, .unset, .unset, .unset] [(.ref b2)])) target := by
    intro target kt
    show Steps p.tables e below (T22.setTop (mkF m 34 #[.val (.int p1), .val (.long q2), .second, .val (.int p3), .unset, .unset, .unset, .unset, .unset, .unset, .unset, .unset, .unset, .unset, .unset, .unset, .unset, .unset, .unset] [(.ref b2)])) _
    refine XS.dup X22.here hx rfl (hb hby at_34) rfl rfl ?_
    show Steps p.tables e below (T22.setTop (mkF m 35 #[.val (.int p1), .val (.long q2), .second, .val (.int p3), .unset, .unset, .unset, .unset, .unset, .unset, .unset, .unset, .unset, .unset, .unset, .unset, .unset, .unset, .unset] [(.ref b2), (.ref b2)])) _
    refine XS.iconst X22.here hx rfl (hb hby at_35) ?_
    show Steps p.tables e below (T22.setTop (mkF m 36 #[.val (.int p1), .val (.long q2), .second, .val (.int p3), .unset, .unset, .unset, .unset, .unset, .unset, .unset, .unset, .unset, .unset, .unset, .unset, .unset, .unset, .unset] [(.int (5 : Int32)), (.ref b2), (.ref b2)])) _
    refine X22.ldc2DoubleC hx hown (mvT hZ (hw _ (List.mem_of_getElem? (i := 6) rfl))) (g := (mkF m 36 #[.val (.int p1), .val (.long q2), .second, .val (.int p3), .unset, .unset, .unset, .unset, .unset, .unset, .unset, .unset, .unset, .unset, .unset, .unset, .unset, .unset, .unset] [(.int (5 : Int32)), (.ref b2), (.ref b2)])) rfl (hb hby at_36) _ ?_
    exact kt
  obtain ⟨cl25, Ar25, qc25, S25, M25, Hh25, G25⟩ := id f23
  have hin25 : ¬ ((5 : Int32) < 0 ∨ cl25.slots.size ≤ ((5 : Int32)).toNatClampNeg) := inb_of S25 ⟨by decide, by decide⟩
  obtain ⟨T26, h26, X26, e26, W26, st26⟩ := stD X22 hx hZ e22 Ar25 (j := (5 : Int32)) hin25 (g := (mkF m 39 #[.val (.int p1), .val (.long q2), .second, .val (.int p3), .unset, .unset, .unset, .unset, .unset, .unset, .unset, .unset, .unset, .unset, .unset, .unset, .unset, .unset, .unset] [(.double (2355382605114769409 : UInt64)), (.int (5 : Int32)), (.ref b2), (.ref b2)])) rfl rfl (hb hby at_39)
  have N26 := Fr.snoc X26 N22 g_b2
  have Zs26 : n0 ≤ h26.size := by rw [W26.size]; exact Zs22
  have f27 : Arv Z h26 b2 k2 .double (16 : Int32) [(.double (2355382605114769408 : UInt64)), (.double (2355382605114769407 : UInt64)), (.double (6858982232485265408 : UInt64)), (.double (6858982232485265409 : UInt64)), (.double (6858982232485265407 : UInt64)), (.double (2355382605114769409 : UInt64)), (.double (0 : UInt64)), (.double (0 : UInt64)), (.double (0 : UInt64)), (.double (0 : UInt64)), (.double (0 : UInt64)), (.double (0 : UInt64)), (.double (0 : UInt64)), (.double (0 : UInt64)), (.double (0 : UInt64)), (.double (0 : UInt64))] (.double (0 : UInt64)) := Arv.set Ar25 qc25 S25 M25 Hh25 G25 rfl W26 5 rfl (Nat.le_of_ble_eq_true rfl)
  have sg28 : ∀ target, Steps p.tables e below (T26.setTop (mkF m 44 #[.val (.int p1), .val (.long q2), .second, .val (.int p3), .unset, .unset, .unset, .unset, .unset, .unset, .unset, .unset, .unset, .unset, .unset, .unset, .unset, .unset, .unset] [(.double (4607182418800017408 : UInt64)), (.int (6 : Int32)), (.ref b2), (.ref b2)])) target → Steps p.tables e below (T26.setTop (mkF m 40 #[.val (.int p1), .val (.long q2), .second, .val (.int p3), .unset, .unset, .unset, .unset, .unset, .unset, .unset, .unset, .unset, .unset, .unset, .unset, .unset, .unset, .unset] [(.ref b2)])) target := by
    intro target kt
    show Steps p.tables e below (T26.setTop (mkF m 40 #[.val (.int p1), .val (.long q2), .second, .val (.int p3), .unset, .unset, .unset, .unset, .unset, .unset, .unset, .unset, .unset, .unset, .unset, .unset, .unset, .unset, .unset] [(.ref b2)])) _
    refine XS.dup X26.here hx rfl (hb hby at_40) rfl rfl ?_
    show Steps p.tables e below (T26.setTop (mkF m 41 #[.val (.int p1), .val (.long q2), .second, .val (.int p3), .unset, .unset, .unset, .unset, .unset, .unset, .unset, .unset, .unset, .unset, .unset, .unset, .unset, .unset, .unset] [(.ref b2), (.ref b2)])) _
    refine XS.bipush X26.here hx rfl (hb hby at_41) ?_
    show Steps p.tables e below (T26.setTop (mkF m 43 #[.val (.int p1), .val (.long q2), .second, .val (.int p3), .unset, .unset, .unset, .unset, .unset, .unset, .unset, .unset, .unset, .unset, .unset, .unset, .unset, .unset, .unset] [(.int (6 : Int32)), (.ref b2), (.ref b2)])) _
    refine XS.dconst1 X26.here hx rfl (v := (4607182418800017408 : UInt64)) (hb hby at_43) rfl ?_
    exact kt
  obtain ⟨cl29, Ar29, qc29, S29, M29, Hh29, G29⟩ := id f27
  have hin29 : ¬ ((6 : Int32) < 0 ∨ cl29.slots.size ≤ ((6 : Int32)).toNatClampNeg) := inb_of S29 ⟨by decide, by decide⟩
  obtain ⟨T30, h30, X30, e30, W30, st30⟩ := stD X26 hx hZ e26 Ar29 (j := (6 : Int32)) hin29 (g := (mkF m 44 #[.val (.int p1), .val (.long q2), .second, .val (.int p3), .unset, .unset, .unset, .unset, .unset, .unset, .unset, .unset, .unset, .unset, .unset, .unset, .unset, .unset, .unset] [(.double (4607182418800017408 : UInt64)), (.int (6 : Int32)), (.ref b2), (.ref b2)])) rfl rfl (hb hby at_44)
  have N30 := Fr.snoc X30 N26 g_b2
  have Zs30 : n0 ≤ h30.size := by rw [W30.size]; exact Zs26
  have f31 : Arv Z h30 b2 k2 .double (16 : Int32) [(.double (2355382605114769408 : UInt64)), (.double (2355382605114769407 : UInt64)), (.double (6858982232485265408 : UInt64)), (.double (6858982232485265409 : UInt64)), (.double (6858982232485265407 : UInt64)), (.double (2355382605114769409 : UInt64)), (.double (4607182418800017408 : UInt64)), (.double (0 : UInt64)), (.double (0 : UInt64)), (.double (0 : UInt64)), (.double (0 : UInt64)), (.double (0 : UInt64)), (.double (0 : UInt64)), (.double (0 : UInt64)), (.double (0 : UInt64)), (.double (0 : UInt64))] (.double (0 : UInt64)) := Arv.set Ar29 qc29 S29 M29 Hh29 G29 rfl W30 6 rfl (Nat.le_of_ble_eq_true rfl)
  have sg32 : ∀ target, Steps p.tables e below (T30.setTop (mkF m 49 #[.val (.int p1), .val (.long q2), .second, .val (.int p3), .unset, .unset, .unset, .unset, .unset, .unset, .unset, .unset, .unset, .unset, .unset, .unset, .unset, .unset, .unset] [(.double (0 : UInt64)), (.int (7 : Int32)), (.ref b2), (.ref b2)])) target → Steps p.tables e below (T30.setTop (mkF m 45 #[.val (.int p1), .val (.long q2), .second, .val (.int p3), .unset, .unset, .unset, .unset, .unset, .unset, .unset, .unset, .unset, .unset, .unset, .unset, .unset, .unset, .unset] [(.ref b2)])) target := by
    intro target kt
    show Steps p.tables e below (T30.setTop (mkF m 45 #[.val (.int p1), .val (.long q2), .second, .val (.int p3), .unset, .unset, .unset, .unset, .unset, .unset, .unset, .unset, .unset, .unset, .unset, .unset, .unset, .unset, .unset] [(.ref b2)])) _
    refine XS.dup X30.here hx rfl (hb hby at_45) rfl rfl ?_
    show Steps p.tables e below (T30.setTop (mkF m 46 #[.val (.int p1), .val (.long q2), .second, .val (.int p3), .unset, .unset, .unset, .unset, .unset, .unset, .unset, .unset, .unset, .unset, .unset, .unset, .unset, .unset, .unset] [(.ref b2), (.ref b2)])) _
    refine XS.bipush X30.here hx rfl (hb hby at_46) ?_
    show Steps p.tables e below (T30.setTop (mkF m 48 #[.val (.int p1), .val (.long q2), .second, .val (.int p3), .unset, .unset, .unset, .unset, .unset, .unset, .unset, .unset, .unset, .unset, .unset, .unset, .unset, .unset, .unset] [(.int (7 : Int32)), (.ref b2), (.ref b2)])) _
    refine XS.dconst0 X30.here hx rfl (v := (0 : UInt64)) (hb hby at_48) rfl ?_
    exact kt
  obtain ⟨cl33, Ar33, qc33, S33, M33, Hh33, G33⟩ := id f31
  have hin33 : ¬ ((7 : Int32) < 0 ∨ cl33.slots.size ≤ ((7 : Int32)).toNatClampNeg) := inb_of S33 ⟨by decide, by decide⟩
  obtain ⟨T34, h34, X34, e34, W34, st34⟩ := stD X30 hx hZ e30 Ar33 (j := (7 : Int32)) hin33 (g := (mkF m 49 #[.val (.int p1), .val (.long q2), .second, .val (.int p3), .unset, .unset, .unset, .unset, .unset, .unset, .unset, .unset, .unset, .unset, .unset, .unset, .unset, .unset, .unset] [(.double (0 : UInt64)), (.int (7 : Int32)), (.ref b2), (.ref b2)])) rfl rfl (hb hby at_49)
  have N34 := Fr.snoc X34 N30 g_b2
  have Zs34 : n0 ≤ h34.size := by rw [W34.size]; exact Zs30
  have f35 : Arv Z h34 b2 k2 .double (16 : Int32) [(.double (2355382605114769408 : UInt64)), (.double (2355382605114769407 : UInt64)), (.double (6858982232485265408 : UInt64)), (.double (6858982232485265409 : UInt64)), (.double (6858982232485265407 : UInt64)), (.double (2355382605114769409 : UInt64)), (.double (4607182418800017408 : UInt64)), (.double (0 : UInt64)), (.double (0 : UInt64)), (.double (0 : UInt64)), (.double (0 : UInt64)), (.double (0 : UInt64)), (.double (0 : UInt64)), (.double (0 : UInt64)), (.double (0 : UInt64)), (.double (0 : UInt64))] (.double (0 : UInt64)) := Arv.set Ar33 qc33 S33 M33 Hh33 G33 rfl W34 7 rfl (Nat.le_of_ble_eq_true rfl)
  have sg36 : ∀ target, Steps p.tables e below (T34.setTop (mkF m 56 #[.val (.int p1), .val (.long q2), .second, .val (.int p3), .unset, .unset, .unset, .unset, .unset, .unset, .unset, .unset, .unset, .unset, .unset, .unset, .unset, .unset, .unset] [(.double (9223372036854775808 : UInt64)), (.int (8 : Int32)), (.ref b2), (.ref b2)])) target → Steps p.tables e below (T34.setTop (mkF m 50 #[.val (.int p1), .val (.long q2), .second, .val (.int p3), .unset, .unset, .unset, .unset, .unset, .unset, .unset, .unset, .unset, .unset, .unset, .unset, .unset, .unset, .unset] [(.ref b2)])) target := by
    intro target kt
    show Steps p.tables e below (T34.setTop (mkF m 50 #[.val (.int p1), .val (.long q2), .second, .val (.int p3), .unset, .unset, .unset, .unset, .unset, .unset, .unset, .unset, .unset, .unset, .unset, .unset, .unset, .unset, .unset] [(.ref b2)])) _
    refine XS.dup X34.here hx rfl (hb hby at_50) rfl rfl ?_
    show Steps p.tables e below (T34.setTop (mkF m 51 #[.val (.int p1), .val (.long q2), .second, .val (.int p3), .unset, .unset, .unset, .unset, .unset, .unset, .unset, .unset, .unset, .unset, .unset, .unset, .unset, .unset, .unset] [(.ref b2), (.ref b2)])) _
    refine XS.bipush X34.here hx rfl (hb hby at_51) ?_
    show Steps p.tables e below (T34.setTop (mkF m 53 #[.val (.int p1), .val (.long q2), .second, .val (.int p3), .unset, .unset, .unset, .unset, .unset, .unset, .unset, .unset, .unset, .unset, .unset, .unset, .unset, .unset, .unset] [(.int (8 : Int32)), (.ref b2), (.ref b2)])) _
    refine X34.ldc2DoubleC hx hown (mvT hZ (hw _ (List.mem_of_getElem? (i := 7) rfl))) (g := (mkF m 53 #[.val (.int p1), .val (.long q2), .second, .val (.int p3), .unset, .unset, .unset, .unset, .unset, .unset, .unset, .unset, .unset, .unset, .unset, .unset, .unset, .unset, .unset] [(.int (8 : Int32)), (.ref b2), (.ref b2)])) rfl (hb hby at_53) _ ?_
    exact kt
  obtain ⟨cl37, Ar37, qc37, S37, M37, Hh37, G37⟩ := id f35
  have hin37 : ¬ ((8 : Int32) < 0 ∨ cl37.slots.size ≤ ((8 : Int32)).toNatClampNeg) := inb_of S37 ⟨by decide, by decide⟩
  obtain ⟨T38, h38, X38, e38, W38, st38⟩ := stD X34 hx hZ e34 Ar37 (j := (8 : Int32)) hin37 (g := (mkF m 56 #[.val (.int p1), .val (.long q2), .second, .val (.int p3), .unset, .unset, .unset, .unset, .unset, .unset, .unset, .unset, .unset, .unset, .unset, .unset, .unset, .unset, .unset] [(.double (9223372036854775808 : UInt64)), (.int (8 : Int32)), (.ref b2), (.ref b2)])) rfl rfl (hb hby at_56)
  have N38 := Fr.snoc X38 N34 g_b2
  have Zs38 : n0 ≤ h38.size := by rw [W38.size]; exact Zs34
  have f39 : Arv Z h38 b2 k2 .double (16 : Int32) [(.double (2355382605114769408 : UInt64)), (.double (2355382605114769407 : UInt64)), (.double (6858982232485265408 : UInt64)), (.double (6858982232485265409 : UInt64)), (.double (6858982232485265407 : UInt64)), (.double (2355382605114769409 : UInt64)), (.double (4607182418800017408 : UInt64)), (.double (0 : UInt64)), (.double (9223372036854775808 : UInt64)), (.double (0 : UInt64)), (.double (0 : UInt64)), (.double (0 : UInt64)), (.double (0 : UInt64)), (.double (0 : UInt64)), (.double (0 : UInt64)), (.double (0 : UInt64))] (.double (0 : UInt64)) := Arv.set Ar37 qc37 S37 M37 Hh37 G37 rfl W38 8 rfl (Nat.le_of_ble_eq_true rfl)
  have sg40 : ∀ target, Steps p.tables e below (T38.setTop (mkF m 63 #[.val (.int p1), .val (.long q2), .second, .val (.int p3), .unset, .unset, .unset, .unset, .unset, .unset, .unset, .unset, .unset, .unset, .unset, .unset, .unset, .unset, .unset] [(.double (13830554455654793216 : UInt64)), (.int (9 : Int32)), (.ref b2), (.ref b2)])) target → Steps p.tables e below (T38.setTop (mkF m 57 #[.val (.int p1), .val (.long q2), .second, .val (.int p3), .unset, .unset, .unset, .unset, .unset, .unset, .unset, .unset, .unset, .unset, .unset, .unset, .unset, .unset, .unset] [(.ref b2)])) target := by
    intro target kt
    show Steps p.tables e below (T38.setTop (mkF m 57 #[.val (.int p1), .val (.long q2), .second, .val (.int p3), .unset, .unset, .unset, .unset, .unset, .unset, .unset, .unset, .unset, .unset, .unset, .unset, .unset, .unset, .unset] [(.ref b2)])) _
    refine XS.dup X38.here hx rfl (hb hby at_57) rfl rfl ?_
    show Steps p.tables e below (T38.setTop (mkF m 58 #[.val (.int p1), .val (.long q2), .second, .val (.int p3), .unset, .unset, .unset, .unset, .unset, .unset, .unset, .unset, .unset, .unset, .unset, .unset, .unset, .unset, .unset] [(.ref b2), (.ref b2)])) _
    refine XS.bipush X38.here hx rfl (hb hby at_58) ?_
    show Steps p.tables e below (T38.setTop (mkF m 60 #[.val (.int p1), .val (.long q2), .second, .val (.int p3), .unset, .unset, .unset, .unset, .unset, .unset, .unset, .unset, .unset, .unset, .unset, .unset, .unset, .unset, .unset] [(.int (9 : Int32)), (.ref b2), (.ref b2)])) _
    refine X38.ldc2DoubleC hx hown (mvT hZ (hw _ (List.mem_of_getElem? (i := 8) rfl))) (g := (mkF m 60 #[.val (.int p1), .val (.long q2), .second, .val (.int p3), .unset, .unset, .unset, .unset, .unset, .unset, .unset, .unset, .unset, .unset, .unset, .unset, .unset, .unset, .unset] [(.int (9 : Int32)), (.ref b2), (.ref b2)])) rfl (hb hby at_60) _ ?_
    exact kt
  obtain ⟨cl41, Ar41, qc41, S41, M41, Hh41, G41⟩ := id f39
  have hin41 : ¬ ((9 : Int32) < 0 ∨ cl41.slots.size ≤ ((9 : Int32)).toNatClampNeg) := inb_of S41 ⟨by decide, by decide⟩
  obtain ⟨T42, h42, X42, e42, W42, st42⟩ := stD X38 hx hZ e38 Ar41 (j := (9 : Int32)) hin41 (g := (mkF m 63 #[.val (.int p1), .val (.long q2), .second, .val (.int p3), .unset, .unset, .unset, .unset, .unset, .unset, .unset, .unset, .unset, .unset, .unset, .unset, .unset, .unset, .unset] [(.double (13830554455654793216 : UInt64)), (.int (9 : Int32)), (.ref b2), (.ref b2)])) rfl rfl (hb hby at_63)
  have N42 := Fr.snoc X42 N38 g_b2
  have Zs42 : n0 ≤ h42.size := by rw [W42.size]; exact Zs38
  have f43 : Arv Z h42 b2 k2 .double (16 : Int32) [(.double (2355382605114769408 : UInt64)), (.double (2355382605114769407 : UInt64)), (.double (6858982232485265408 : UInt64)), (.double (6858982232485265409 : UInt64)), (.double (6858982232485265407 : UInt64)), (.double (2355382605114769409 : UInt64)), (.double (4607182418800017408 : UInt64)), (.double (0 : UInt64)), (.double (9223372036854775808 : UInt64)), (.double (13830554455654793216 : UInt64)), (.double (0 : UInt64)), (.double (0 : UInt64)), (.double (0 : UInt64)), (.double (0 : UInt64)), (.double (0 : UInt64)), (.double (0 : UInt64))] (.double (0 : UInt64)) := Arv.set Ar41 qc41 S41 M41 Hh41 G41 rfl W42 9 rfl (Nat.le_of_ble_eq_true rfl)
  have sg44 : ∀ target, Steps p.tables e below (T42.setTop (mkF m 70 #[.val (.int p1), .val (.long q2), .second, .val (.int p3), .unset, .unset, .unset, .unset, .unset, .unset, .unset, .unset, .unset, .unset, .unset, .unset, .unset, .unset, .unset] [(.double (11578754641969545216 : UInt64)), (.int (10 : Int32)), (.ref b2), (.ref b2)])) target → Steps p.tables e below (T42.setTop (mkF m 64 #[.val (.int p1), .val (.long q2), .second, .val (.int p3), .unset, .unset, .unset, .unset, .unset, .unset, .unset, .unset, .unset, .unset, .unset, .unset, .unset, .unset, .unset] [(.ref b2)])) target := by
    intro target kt
    show Steps p.tables e below (T42.setTop (mkF m 64 #[.val (.int p1), .val (.long q2), .second, .val (.int p3), .unset, .unset, .unset, .unset, .unset, .unset, .unset, .unset, .unset, .unset, .unset, .unset, .unset, .unset, .unset] [(.ref b2)])) _
    refine XS.dup X42.here hx rfl (hb hby at_64) rfl rfl ?_
    show Steps p.tables e below (T42.setTop (mkF m 65 #[.val (.int p1), .val (.long q2), .second, .val (.int p3), .unset, .unset, .unset, .unset, .unset, .unset, .unset, .unset, .unset, .unset, .unset, .unset, .unset, .unset, .unset] [(.ref b2), (.ref b2)])) _
    refine XS.bipush X42.here hx rfl (hb hby at_65) ?_
    show Steps p.tables e below (T42.setTop (mkF m 67 #[.val (.int p1), .val (.long q2), .second, .val (.int p3), .unset, .unset, .unset, .unset, .unset, .unset, .unset, .unset, .unset, .unset, .unset, .unset, .unset, .unset, .unset] [(.int (10 : Int32)), (.ref b2), (.ref b2)])) _
    refine X42.ldc2DoubleC hx hown (mvT hZ (hw _ (List.mem_of_getElem? (i := 9) rfl))) (g := (mkF m 67 #[.val (.int p1), .val (.long q2), .second, .val (.int p3), .unset, .unset, .unset, .unset, .unset, .unset, .unset, .unset, .unset, .unset, .unset, .unset, .unset, .unset, .unset] [(.int (10 : Int32)), (.ref b2), (.ref b2)])) rfl (hb hby at_67) _ ?_
    exact kt
  obtain ⟨cl45, Ar45, qc45, S45, M45, Hh45, G45⟩ := id f43
  have hin45 : ¬ ((10 : Int32) < 0 ∨ cl45.slots.size ≤ ((10 : Int32)).toNatClampNeg) := inb_of S45 ⟨by decide, by decide⟩
  obtain ⟨T46, h46, X46, e46, W46, st46⟩ := stD X42 hx hZ e42 Ar45 (j := (10 : Int32)) hin45 (g := (mkF m 70 #[.val (.int p1), .val (.long q2), .second, .val (.int p3), .unset, .unset, .unset, .unset, .unset, .unset, .unset, .unset, .unset, .unset, .unset, .unset, .unset, .unset, .unset] [(.double (11578754641969545216 : UInt64)), (.int (10 : Int32)), (.ref b2), (.ref b2)])) rfl rfl (hb hby at_70)
  have N46 := Fr.snoc X46 N42 g_b2
  have Zs46 : n0 ≤ h46.size := by rw [W46.size]; exact Zs42
  have f47 : Arv Z h46 b2 k2 .double (16 : Int32) [(.double (2355382605114769408 : UInt64)), (.double (2355382605114769407 : UInt64)), (.double (6858982232485265408 : UInt64)), (.double (6858982232485265409 : UInt64)), (.double (6858982232485265407 : UInt64)), (.double (2355382605114769409 : UInt64)), (.double (4607182418800017408 : UInt64)), (.double (0 : UInt64)), (.double (9223372036854775808 : UInt64)), (.double (13830554455654793216 : UInt64)), (.double (11578754641969545216 : UInt64)), (.double (0 : UInt64)), (.double (0 : UInt64)), (.double (0 : UInt64)), (.double (0 : UInt64)), (.double (0 : UInt64))] (.double (0 : UInt64)) := Arv.set Ar45 qc45 S45 M45 Hh45 G45 rfl W46 10 rfl (Nat.le_of_ble_eq_true rfl)
  have sg48 : ∀ target, Steps p.tables e below (T46.setTop (mkF m 77 #[.val (.int p1), .val (.long q2), .second, .val (.int p3), .unset, .unset, .unset, .unset, .unset, .unset, .unset, .unset, .unset, .unset, .unset, .unset, .unset, .unset, .unset] [(.double (9218868437227405311 : UInt64)), (.int (11 : Int32)), (.ref b2), (.ref b2)])) target → Steps p.tables e below (T46.setTop (mkF m 71 #[.val (.int p1), .val (.long q2), .second, .val (.int p3), .unset, .unset, .unset, .unset, .unset, .unset, .unset, .unset, .unset, .unset, .unset, .unset, .unset, .unset, .unset] [(.ref b2)])) target := by
    intro target kt
    show Steps p.tables e below (T46.setTop (mkF m 71 #[.val (.int p1), .val (.long q2), .second, .val (.int p3), .unset, .unset, .unset, .unset, .unset, .unset, .unset, .unset, .unset, .unset, .unset, .unset, .unset, .unset, .unset] [(.ref b2)])) _
    refine XS.dup X46.here hx rfl (hb hby at_71) rfl rfl ?_
    show Steps p.tables e below (T46.setTop (mkF m 72 #[.val (.int p1), .val (.long q2), .second, .val (.int p3), .unset, .unset, .unset, .unset, .unset, .unset, .unset, .unset, .unset, .unset, .unset, .unset, .unset, .unset, .unset] [(.ref b2), (.ref b2)])) _
    refine XS.bipush X46.here hx rfl (hb hby at_72) ?_
    show Steps p.tables e below (T46.setTop (mkF m 74 #[.val (.int p1), .val (.long q2), .second, .val (.int p3), .unset, .unset, .unset, .unset, .unset, .unset, .unset, .unset, .unset, .unset, .unset, .unset, .unset, .unset, .unset] [(.int (11 : Int32)), (.ref b2), (.ref b2)])) _
    refine X46.ldc2DoubleC hx hown (mvT hZ (hw _ (List.mem_of_getElem? (i := 10) rfl))) (g := (mkF m 74 #[.val (.int p1), .val (.long q2), .second, .val (.int p3), .unset, .unset, .unset, .unset, .unset, .unset, .unset, .unset, .unset, .unset, .unset, .unset, .unset, .unset, .unset] [(.int (11 : Int32)), (.ref b2), (.ref b2)])) rfl (hb hby at_74) _ ?_
    exact kt
  obtain ⟨cl49, Ar49, qc49, S49, M49, Hh49, G49⟩ := id f47
  have hin49 : ¬ ((11 : Int32) < 0 ∨ cl49.slots.size ≤ ((11 : Int32)).toNatClampNeg) := inb_of S49 ⟨by decide, by decide⟩
  obtain ⟨T50, h50, X50, e50, W50, st50⟩ := stD X46 hx hZ e46 Ar49 (j := (11 : Int32)) hin49 (g := (mkF m 77 #[.val (.int p1), .val (.long q2), .second, .val (.int p3), .unset, .unset, .unset, .unset, .unset, .unset, .unset, .unset, .unset, .unset, .unset, .unset, .unset, .unset, .unset] [(.double (9218868437227405311 : UInt64)), (.int (11 : Int32)), (.ref b2), (.ref b2)])) rfl rfl (hb hby at_77)
  have N50 := Fr.snoc X50 N46 g_b2
  have Zs50 : n0 ≤ h50.size := by rw [W50.size]; exact Zs46
  have f51 : Arv Z h50 b2 k2 .double (16 : Int32) [(.double (2355382605114769408 : UInt64)), (.double (2355382605114769407 : UInt64)), (.double (6858982232485265408 : UInt64)), (.double (6858982232485265409 : UInt64)), (.double (6858982232485265407 : UInt64)), (.double (2355382605114769409 : UInt64)), (.double (4607182418800017408 : UInt64)), (.double (0 : UInt64)), (.double (9223372036854775808 : UInt64)), (.double (13830554455654793216 : UInt64)), (.double (11578754641969545216 : UInt64)), (.double (9218868437227405311 : UInt64)), (.double (0 : UInt64)), (.double (0 : UInt64)), (.double (0 : UInt64)), (.double (0 : UInt64))] (.double (0 : UInt64)) := Arv.set Ar49 qc49 S49 M49 Hh49 G49 rfl W50 11 rfl (Nat.le_of_ble_eq_true rfl)
  have sg52 : ∀ target, Steps p.tables e below (T50.setTop (mkF m 84 #[.val (.int p1), .val (.long q2), .second, .val (.int p3), .unset, .unset, .unset, .unset, .unset, .unset, .unset, .unset, .unset, .unset, .unset, .unset, .unset, .unset, .unset] [(.double (1 : UInt64)), (.int (12 : Int32)), (.ref b2), (.ref b2)])) target → Steps p.tables e below (T50.setTop (mkF m 78 #[.val (.int p1), .val (.long q2), .second, .val (.int p3), .unset, .unset, .unset, .unset, .unset, .unset, .unset, .unset, .unset, .unset, .unset, .unset, .unset, .unset, .unset] [(.ref b2)])) target := by
    intro target kt
    show Steps p.tables e below (T50.setTop (mkF m 78 #[.val (.int p1), .val (.long q2), .second, .val (.int p3), .unset, .unset, .unset, .unset, .unset, .unset, .unset, .unset, .unset, .unset, .unset, .unset, .unset, .unset, .unset] [(.ref b2)])) _
    refine XS.dup X50.here hx rfl (hb hby at_78) rfl rfl ?_
    show Steps p.tables e below (T50.setTop (mkF m 79 #[.val (.int p1), .val (.long q2), .second, .val (.int p3), .unset, .unset, .unset, .unset, .unset, .unset, .unset, .unset, .unset, .unset, .unset, .unset, .unset, .unset, .unset] [(.ref b2), (.ref b2)])) _
    refine XS.bipush X50.here hx rfl (hb hby at_79) ?_
    show Steps p.tables e below (T50.setTop (mkF m 81 #[.val (.int p1), .val (.long q2), .second, .val (.int p3), .unset, .unset, .unset, .unset, .unset, .unset, .unset, .unset, .unset, .unset, .unset, .unset, .unset, .unset, .unset] [(.int (12 : Int32)), (.ref b2), (.ref b2)])) _
    refine X50.ldc2DoubleC hx hown (mvT hZ (hw _ (List.mem_of_getElem? (i := 11) rfl))) (g := (mkF m 81 #[.val (.int p1), .val (.long q2), .second, .val (.int p3), .unset, .unset, .unset, .unset, .unset, .unset, .unset, .unset, .unset, .unset, .unset, .unset, .unset, .unset, .unset] [(.int (12 : Int32)), (.ref b2), (.ref b2)])) rfl (hb hby at_81) _ ?_
    exact kt
  obtain ⟨cl53, Ar53, qc53, S53, M53, Hh53, G53⟩ := id f51
  have hin53 : ¬ ((12 : Int32) < 0 ∨ cl53.slots.size ≤ ((12 : Int32)).toNatClampNeg) := inb_of S53 ⟨by decide, by decide⟩
  obtain ⟨T54, h54, X54, e54, W54, st54⟩ := stD X50 hx hZ e50 Ar53 (j := (12 : Int32)) hin53 (g := (mkF m 84 #[.val (.int p1), .val (.long q2), .second, .val (.int p3), .unset, .unset, .unset, .unset, .unset, .unset, .unset, .unset, .unset, .unset, .unset, .unset, .unset, .unset, .unset] [(.double (1 : UInt64)), (.int (12 : Int32)), (.ref b2), (.ref b2)])) rfl rfl (hb hby at_84)
  have N54 := Fr.snoc X54 N50 g_b2
  have Zs54 : n0 ≤ h54.size := by rw [W54.size]; exact Zs50
  have f55 : Arv Z h54 b2 k2 .double (16 : Int32) [(.double (2355382605114769408 : UInt64)), (.double (2355382605114769407 : UInt64)), (.double (6858982232485265408 : UInt64)), (.double (6858982232485265409 : UInt64)), (.double (6858982232485265407 : UInt64)), (.double (2355382605114769409 : UInt64)), (.double (4607182418800017408 : UInt64)), (.double (0 : UInt64)), (.double (9223372036854775808 : UInt64)), (.double (13830554455654793216 : UInt64)), (.double (11578754641969545216 : UInt64)), (.double (9218868437227405311 : UInt64)), (.double (1 : UInt64)), (.double (0 : UInt64)), (.double (0 : UInt64)), (.double (0 : UInt64))] (.double (0 : UInt64)) := Arv.set Ar53 qc53 S53 M53 Hh53 G53 rfl W54 12 rfl (Nat.le_of_ble_eq_true rfl)
  have sg56 : ∀ target, Steps p.tables e below (T54.setTop (mkF m 91 #[.val (.int p1), .val (.long q2), .second, .val (.int p3), .unset, .unset, .unset, .unset, .unset, .unset, .unset, .unset, .unset, .unset, .unset, .unset, .unset, .unset, .unset] [(.double (6863485832112635904 : UInt64)), (.int (13 : Int32)), (.ref b2), (.ref b2)])) target → Steps p.tables e below (T54.setTop (mkF m 85 #[.val (.int p1), .val (.long q2), .second, .val (.int p3), .unset, .unset, .unset, .unset, .unset, .unset, .unset, .unset, .unset, .unset, .unset, .unset, .unset, .unset, .unset] [(.ref b2)])) target := by
    intro target kt
    show Steps p.tables e below (T54.setTop (mkF m 85 #[.val (.int p1), .val (.long q2), .second, .val (.int p3), .unset, .unset, .unset, .unset, .unset, .unset, .unset, .unset, .unset, .unset, .unset, .unset, .unset, .unset, .unset] [(.ref b2)])) _
    refine XS.dup X54.here hx rfl (hb hby at_85) rfl rfl ?_
    show Steps p.tables e below (T54.setTop (mkF m 86 #[.val (.int p1), .val (.long q2), .second, .val (.int p3), .unset, .unset, .unset, .unset, .unset, .unset, .unset, .unset, .unset, .unset, .unset, .unset, .unset, .unset, .unset] [(.ref b2), (.ref b2)])) _
    refine XS.bipush X54.here hx rfl (hb hby at_86) ?_
    show Steps p.tables e below (T54.setTop (mkF m 88 #[.val (.int p1), .val (.long q2), .second, .val (.int p3), .unset, .unset, .unset, .unset, .unset, .unset, .unset, .unset, .unset, .unset, .unset, .unset, .unset, .unset, .unset] [(.int (13 : Int32)), (.ref b2), (.ref b2)])) _
    refine X54.ldc2DoubleC hx hown (mvT hZ (hw _ (List.mem_of_getElem? (i := 12) rfl))) (g := (mkF m 88 #[.val (.int p1), .val (.long q2), .second, .val (.int p3), .unset, .unset, .unset, .unset, .unset, .unset, .unset, .unset, .unset, .unset, .unset, .unset, .unset, .unset, .unset] [(.int (13 : Int32)), (.ref b2), (.ref b2)])) rfl (hb hby at_88) _ ?_
    exact kt
  obtain ⟨cl57, Ar57, qc57, S57, M57, Hh57, G57⟩ := id f55
  have hin57 : ¬ ((13 : Int32) < 0 ∨ cl57.slots.size ≤ ((13 : Int32)).toNatClampNeg) := inb_of S57 ⟨by decide, by decide⟩
  obtain ⟨T58, h58, X58, e58, W58, st58⟩ := stD X54 hx hZ e54 Ar57 (j := (13 : Int32)) hin57 (g := (mkF m 91 #[.val (.int p1), .val (.long q2), .second, .val (.int p3), .unset, .unset, .unset, .unset, .unset, .unset, .unset, .unset, .unset, .unset, .unset, .unset, .unset, .unset, .unset] [(.double (6863485832112635904 : UInt64)), (.int (13 : Int32)), (.ref b2), (.ref b2)])) rfl rfl (hb hby at_91)
  have N58 := Fr.snoc X58 N54 g_b2
  have Zs58 : n0 ≤ h58.size := by rw [W58.size]; exact Zs54
  have f59 : Arv Z h58 b2 k2 .double (16 : Int32) [(.double (2355382605114769408 : UInt64)), (.double (2355382605114769407 : UInt64)), (.double (6858982232485265408 : UInt64)), (.double (6858982232485265409 : UInt64)), (.double (6858982232485265407 : UInt64)), (.double (2355382605114769409 : UInt64)), (.double (4607182418800017408 : UInt64)), (.double (0 : UInt64)), (.double (9223372036854775808 : UInt64)), (.double (13830554455654793216 : UInt64)), (.double (11578754641969545216 : UInt64)), (.double (9218868437227405311 : UInt64)), (.double (1 : UInt64)), (.double (6863485832112635904 : UInt64)), (.double (0 : UInt64)), (.double (0 : UInt64))] (.double (0 : UInt64)) := Arv.set Ar57 qc57 S57 M57 Hh57 G57 rfl W58 13 rfl (Nat.le_of_ble_eq_true rfl)
  have sg60 : ∀ target, Steps p.tables e below (T58.setTop (mkF m 98 #[.val (.int p1), .val (.long q2), .second, .val (.int p3), .unset, .unset, .unset, .unset, .unset, .unset, .unset, .unset, .unset, .unset, .unset, .unset, .unset, .unset, .unset] [(.double (2350879005487398912 : UInt64)), (.int (14 : Int32)), (.ref b2), (.ref b2)])) target → Steps p.tables e below (T58.setTop (mkF m 92 #[.val (.int p1), .val (.long q2), .second, .val (.int p3), .unset, .unset, .unset, .unset, .unset, .unset, .unset, .unset, .unset, .unset, .unset, .unset, .unset, .unset, .unset] [(.ref b2)])) target := by
    intro target kt
    show Steps p.tables e below (T58.setTop (mkF m 92 #[.val (.int p1), .val (.long q2), .second, .val (.int p3), .unset, .unset, .unset, .unset, .unset, .unset, .unset, .unset, .unset, .unset, .unset, .unset, .unset, .unset, .unset] [(.ref b2)])) _
    refine XS.dup X58.here hx rfl (hb hby at_92) rfl rfl ?_
    show Steps p.tables e below (T58.setTop (mkF m 93 #[.val (.int p1), .val (.long q2), .second, .val (.int p3), .unset, .unset, .unset, .unset, .unset, .unset, .unset, .unset, .unset, .unset, .unset, .unset, .unset, .unset, .unset] [(.ref b2), (.ref b2)])) _
    refine XS.bipush X58.here hx rfl (hb hby at_93) ?_
    show Steps p.tables e below (T58.setTop (mkF m 95 #[.val (.int p1), .val (.long q2), .second, .val (.int p3), .unset, .unset, .unset, .unset, .unset, .unset, .unset, .unset, .unset, .unset, .unset, .unset, .unset, .unset, .unset] [(.int (14 : Int32)), (.ref b2), (.ref b2)])) _
    refine X58.ldc2DoubleC hx hown (mvT hZ (hw _ (List.mem_of_getElem? (i := 13) rfl))) (g := (mkF m 95 #[.val (.int p1), .val (.long q2), .second, .val (.int p3), .unset, .unset, .unset, .unset, .unset, .unset, .unset, .unset, .unset, .unset, .unset, .unset, .unset, .unset, .unset] [(.int (14 : Int32)), (.ref b2), (.ref b2)])) rfl (hb hby at_95) _ ?_
    exact kt
  obtain ⟨cl61, Ar61, qc61, S61, M61, Hh61, G61⟩ := id f59
  have hin61 : ¬ ((14 : Int32) < 0 ∨ cl61.slots.size ≤ ((14 : Int32)).toNatClampNeg) := inb_of S61 ⟨by decide, by decide⟩
  obtain ⟨T62, h62, X62, e62, W62, st62⟩ := stD X58 hx hZ e58 Ar61 (j := (14 : Int32)) hin61 (g := (mkF m 98 #[.val (.int p1), .val (.long q2), .second, .val (.int p3), .unset, .unset, .unset, .unset, .unset, .unset, .unset, .unset, .unset, .unset, .unset, .unset, .unset, .unset, .unset] [(.double (2350879005487398912 : UInt64)), (.int (14 : Int32)), (.ref b2), (.ref b2)])) rfl rfl (hb hby at_98)
  have N62 := Fr.snoc X62 N58 g_b2
  have Zs62 : n0 ≤ h62.size := by rw [W62.size]; exact Zs58
  have f63 : Arv Z h62 b2 k2 .double (16 : Int32) [(.double (2355382605114769408 : UInt64)), (.double (2355382605114769407 : UInt64)), (.double (6858982232485265408 : UInt64)), (.double (6858982232485265409 : UInt64)), (.double (6858982232485265407 : UInt64)), (.double (2355382605114769409 : UInt64)), (.double (4607182418800017408 : UInt64)), (.double (0 : UInt64)), (.double (9223372036854775808 : UInt64)), (.double (13830554455654793216 : UInt64)), (.double (11578754641969545216 : UInt64)), (.double (9218868437227405311 : UInt64)), (.double (1 : UInt64)), (.double (6863485832112635904 : UInt64)), (.double (2350879005487398912 : UInt64)), (.double (0 : UInt64))] (.double (0 : UInt64)) := Arv.set Ar61 qc61 S61 M61 Hh61 G61 rfl W62 14 rfl (Nat.le_of_ble_eq_true rfl)
  have sg64 : ∀ target, Steps p.tables e below (T62.setTop (mkF m 105 #[.val (.int p1), .val (.long q2), .second, .val (.int p3), .unset, .unset, .unset, .unset, .unset, .unset, .unset, .unset, .unset, .unset, .unset, .unset, .unset, .unset, .unset] [(.double (16082354269340041216 : UInt64)), (.int (15 : Int32)), (.ref b2), (.ref b2)])) target → Steps p.tables e below (T62.setTop (mkF m 99 #[.val (.int p1), .val (.long q2), .second, .val (.int p3), .unset, .unset, .unset, .unset, .unset, .unset, .unset, .unset, .unset, .unset, .unset, .unset, .unset, .unset, .unset] [(.ref b2)])) target := by
    intro target kt
    show Steps p.tables e below (T62.setTop (mkF m 99 #[.val (.int p1), .val (.long q2), .second, .val (.int p3), .unset, .unset, .unset, .unset, .unset, .unset, .unset, .unset, .unset, .unset, .unset, .unset, .unset, .unset, .unset] [(.ref b2)])) _
    refine XS.dup X62.here hx rfl (hb hby at_99) rfl rfl ?_
    show Steps p.tables e below (T62.setTop (mkF m 100 #[.val (.int p1), .val (.long q2), .second, .val (.int p3), .unset, .unset, .unset, .unset, .unset, .unset, .unset, .unset, .unset, .unset, .unset, .unset, .unset, .unset, .unset] [(.ref b2), (.ref b2)])) _
    refine XS.bipush X62.here hx rfl (hb hby at_100) ?_
    show Steps p.tables e below (T62.setTop (mkF m 102 #[.val (.int p1), .val (.long q2), .second, .val (.int p3), .unset, .unset, .unset, .unset, .unset, .unset, .unset, .unset, .unset, .unset, .unset, .unset, .unset, .unset, .unset] [(.int (15 : Int32)), (.ref b2), (.ref b2)])) _
    refine X62.ldc2DoubleC hx hown (mvT hZ (hw _ (List.mem_of_getElem? (i := 14) rfl))) (g := (mkF m 102 #[.val (.int p1), .val (.long q2), .second, .val (.int p3), .unset, .unset, .unset, .unset, .unset, .unset, .unset, .unset, .unset, .unset, .unset, .unset, .unset, .unset, .unset] [(.int (15 : Int32)), (.ref b2), (.ref b2)])) rfl (hb hby at_102) _ ?_
    exact kt
  obtain ⟨cl65, Ar65, qc65, S65, M65, Hh65, G65⟩ := id f63
  have hin65 : ¬ ((15 : Int32) < 0 ∨ cl65.slots.size ≤ ((15 : Int32)).toNatClampNeg) := inb_of S65 ⟨by decide, by decide⟩
  obtain ⟨T66, h66, X66, e66, W66, st66⟩ := stD X62 hx hZ e62 Ar65 (j := (15 : Int32)) hin65 (g := (mkF m 105 #[.val (.int p1), .val (.long q2), .second, .val (.int p3), .unset, .unset, .unset, .unset, .unset, .unset, .unset, .unset, .unset, .unset, .unset, .unset, .unset, .unset, .unset] [(.double (16082354269340041216 : UInt64)), (.int (15 : Int32)), (.ref b2), (.ref b2)])) rfl rfl (hb hby at_105)
  have N66 := Fr.snoc X66 N62 g_b2
  have Zs66 : n0 ≤ h66.size := by rw [W66.size]; exact Zs62
  have f67 : Arv Z h66 b2 k2 .double (16 : Int32) [(.double (2355382605114769408 : UInt64)), (.double (2355382605114769407 : UInt64)), (.double (6858982232485265408 : UInt64)), (.double (6858982232485265409 : UInt64)), (.double (6858982232485265407 : UInt64)), (.double (2355382605114769409 : UInt64)), (.double (4607182418800017408 : UInt64)), (.double (0 : UInt64)), (.double (9223372036854775808 : UInt64)), (.double (13830554455654793216 : UInt64)), (.double (11578754641969545216 : UInt64)), (.double (9218868437227405311 : UInt64)), (.double (1 : UInt64)), (.double (6863485832112635904 : UInt64)), (.double (2350879005487398912 : UInt64)), (.double (16082354269340041216 : UInt64))] (.double (0 : UInt64)) := Arv.set Ar65 qc65 S65 M65 Hh65 G65 rfl W66 15 rfl (Nat.le_of_ble_eq_true rfl)
  have sg68 : ∀ target, Steps p.tables e below (T66.setTop (mkF m 110 #[.val (.int p1), .val (.long q2), .second, .val (.int p3), .val (.ref b2), .unset, .unset, .unset, .unset, .unset, .unset, .unset, .unset, .unset, .unset, .unset, .unset, .unset, .unset] [(.int (16 : Int32))])) target → Steps p.tables e below (T66.setTop (mkF m 106 #[.val (.int p1), .val (.long q2), .second, .val (.int p3), .unset, .unset, .unset, .unset, .unset, .unset, .unset, .unset, .unset, .unset, .unset, .unset, .unset, .unset, .unset] [(.ref b2)])) target := by
    intro target kt
    show Steps p.tables e below (T66.setTop (mkF m 106 #[.val (.int p1), .val (.long q2), .second, .val (.int p3), .unset, .unset, .unset, .unset, .unset, .unset, .unset, .unset, .unset, .unset, .unset, .unset, .unset, .unset, .unset] [(.ref b2)])) _
    refine XS.astore X66.here hx rfl (hb hby at_106) rfl rfl (l' := #[.val (.int p1), .val (.long q2), .second, .val (.int p3), .val (.ref b2), .unset, .unset, .unset, .unset, .unset, .unset, .unset, .unset, .unset, .unset, .unset, .unset, .unset, .unset]) rfl ?_
    show Steps p.tables e below (T66.setTop (mkF m 108 #[.val (.int p1), .val (.long q2), .second, .val (.int p3), .val (.ref b2), .unset, .unset, .unset, .unset, .unset, .unset, .unset, .unset, .unset, .unset, .unset, .unset, .unset, .unset] [])) _
    refine XS.bipush X66.here hx rfl (hb hby at_108) ?_
    exact kt
  obtain ⟨T69, h69, k69, X69, e69, E69, A69, st69⟩ := newP X66 hx hZ (hw _ (List.mem_of_getElem? (i := 15) rfl)) e66 (g := (mkF m 110 #[.val (.int p1), .val (.long q2), .second, .val (.int p3), .val (.ref b2), .unset, .unset, .unset, .unset, .unset, .unset, .unset, .unset, .unset, .unset, .unset, .unset, .unset, .unset] [(.int (16 : Int32))])) rfl (hb hby at_110) rfl (by decide) (cap := 16) (by decide) (by decide) (by decide) (by decide)
  obtain ⟨b69, g69⟩ : ∃ z, z = h66.size := ⟨_, rfl⟩
  rw [← g69] at A69 st69
  have g_b69 : n0 ≤ b69 := Nat.le_trans Zs66 (Nat.le_of_eq g69.symm)
  have ne_b2_b69 : b2 ≠ b69 := Nat.ne_of_lt (Nat.lt_of_lt_of_le f67.lt (Nat.le_of_eq g69.symm))
  have Zs69 : n0 ≤ h69.size := Nat.le_trans Zs66 E69.1
  have f70 : Arv Z h69 b2 k2 .double (16 : Int32) [(.double (2355382605114769408 : UInt64)), (.double (2355382605114769407 : UInt64)), (.double (6858982232485265408 : UInt64)), (.double (6858982232485265409 : UInt64)), (.double (6858982232485265407 : UInt64)), (.double (2355382605114769409 : UInt64)), (.double (4607182418800017408 : UInt64)), (.double (0 : UInt64)), (.double (9223372036854775808 : UInt64)), (.double (13830554455654793216 : UInt64)), (.double (11578754641969545216 : UInt64)), (.double (9218868437227405311 : UInt64)), (.double (1 : UInt64)), (.double (6863485832112635904 : UInt64)), (.double (2350879005487398912 : UInt64)), (.double (16082354269340041216 : UInt64))] (.double (0 : UInt64)) := f67.ext E69
  have f71 : Arv Z h69 b69 k69 .boolean (16 : Int32) [(.int (0 : Int32)), (.int (0 : Int32)), (.int (0 : Int32)), (.int (0 : Int32)), (.int (0 : Int32)), (.int (0 : Int32)), (.int (0 : Int32)), (.int (0 : Int32)), (.int (0 : Int32)), (.int (0 : Int32)), (.int (0 : Int32)), (.int (0 : Int32)), (.int (0 : Int32)), (.int (0 : Int32)), (.int (0 : Int32)), (.int (0 : Int32))] (.int (0 : Int32)) := (Arv.new A69 (by decide)).pad (pad_rep [] (.int (0 : Int32)) 16)
  have sg72 : ∀ target, Steps p.tables e below (T69.setTop (mkF m 115 #[.val (.int p1), .val (.long q2), .second, .val (.int p3), .val (.ref b2), .unset, .unset, .unset, .unset, .unset, .unset, .unset, .unset, .unset, .unset, .unset, .unset, .unset, .unset] [(.int (1 : Int32)), (.int (0 : Int32)), (.ref b69), (.ref b69)])) target → Steps p.tables e below (T69.setTop (mkF m 112 #[.val (.int p1), .val (.long q2), .second, .val (.int p3), .val (.ref b2), .unset, .unset, .unset, .unset, .unset, .unset, .unset, .unset, .unset, .unset, .unset, .unset, .unset, .unset] [(.ref b69)])) target := by
    intro target kt
    show Steps p.tables e below (T69.setTop (mkF m 112 #[.val (.int p1), .val (.long q2), .second, .val (.int p3), .val (.ref b2), .unset, .unset, .unset, .unset, .unset, .unset, .unset, .unset, .unset, .unset, .unset, .unset, .unset, .unset] [(.ref b69)])) _
    refine XS.dup X69.here hx rfl (hb hby at_112) rfl rfl ?_
    show Steps p.tables e below (T69.setTop (mkF m 113 #[.val (.int p1), .val (.long q2), .second, .val (.int p3), .val (.ref b2), .unset, .unset, .unset, .unset, .unset, .unset, .unset, .unset, .unset, .unset, .unset, .unset, .unset, .unset] [(.ref b69), (.ref b69)])) _
    refine XS.iconst X69.here hx rfl (hb hby at_113) ?_
    show Steps p.tables e below (T69.setTop (mkF m 114 #[.val (.int p1), .val (.long q2), .second, .val (.int p3), .val (.ref b2), .unset, .unset, .unset, .unset, .unset, .unset, .unset, .unset, .unset, .unset, .unset, .unset, .unset, .unset] [(.int (0 : Int32)), (.ref b69), (.ref b69)])) _
    refine XS.iconst X69.here hx rfl (hb hby at_114) ?_
    exact kt
  obtain ⟨cl73, Ar73, qc73, S73, M73, Hh73, G73⟩ := id f71
  have hin73 : ¬ ((0 : Int32) < 0 ∨ cl73.slots.size ≤ ((0 : Int32)).toNatClampNeg) := inb_of S73 ⟨by decide, by decide⟩
  obtain ⟨T74, h74, X74, e74, W74, st74⟩ := stZ X69 hx hZ e69 Ar73 (j := (0 : Int32)) hin73 (g := (mkF m 115 #[.val (.int p1), .val (.long q2), .second, .val (.int p3), .val (.ref b2), .unset, .unset, .unset, .unset, .unset, .unset, .unset, .unset, .unset, .unset, .unset, .unset, .unset, .unset] [(.int (1 : Int32)), (.int (0 : Int32)), (.ref b69), (.ref b69)])) rfl rfl (hb hby at_115)
  have N74 := Fr.snoc X74 N66 g_b69
  have Zs74 : n0 ≤ h74.size := by rw [W74.size]; exact Zs69
  have f75 : Arv Z h74 b2 k2 .double (16 : Int32) [(.double (2355382605114769408 : UInt64)), (.double (2355382605114769407 : UInt64)), (.double (6858982232485265408 : UInt64)), (.double (6858982232485265409 : UInt64)), (.double (6858982232485265407 : UInt64)), (.double (2355382605114769409 : UInt64)), (.double (4607182418800017408 : UInt64)), (.double (0 : UInt64)), (.double (9223372036854775808 : UInt64)), (.double (13830554455654793216 : UInt64)), (.double (11578754641969545216 : UInt64)), (.double (9218868437227405311 : UInt64)), (.double (1 : UInt64)), (.double (6863485832112635904 : UInt64)), (.double (2350879005487398912 : UInt64)), (.double (16082354269340041216 : UInt64))] (.double (0 : UInt64)) := f70.other W74 ne_b2_b69
  have f76 : Arv Z h74 b69 k69 .boolean (16 : Int32) [(.int (nar .boolean (1 : Int32))), (.int (0 : Int32)), (.int (0 : Int32)), (.int (0 : Int32)), (.int (0 : Int32)), (.int (0 : Int32)), (.int (0 : Int32)), (.int (0 : Int32)), (.int (0 : Int32)), (.int (0 : Int32)), (.int (0 : Int32)), (.int (0 : Int32)), (.int (0 : Int32)), (.int (0 : Int32)), (.int (0 : Int32)), (.int (0 : Int32))] (.int (0 : Int32)) := Arv.set Ar73 qc73 S73 M73 Hh73 G73 (fits_nar_bool _) W74 0 rfl (Nat.le_of_ble_eq_true rfl)
  have sg77 : ∀ target, Steps p.tables e below (T74.setTop (mkF m 119 #[.val (.int p1), .val (.long q2), .second, .val (.int p3), .val (.ref b2), .unset, .unset, .unset, .unset, .unset, .unset, .unset, .unset, .unset, .unset, .unset, .unset, .unset, .unset] [(.int (0 : Int32)), (.int (1 : Int32)), (.ref b69), (.ref b69)])) target → Steps p.tables e below (T74.setTop (mkF m 116 #[.val (.int p1), .val (.long q2), .second, .val (.int p3), .val (.ref b2), .unset, .unset, .unset, .unset, .unset, .unset, .unset, .unset, .unset, .unset, .unset, .unset, .unset, .unset] [(.ref b69)])) target := by
    intro target kt
    show Steps p.tables e below (T74.setTop (mkF m 116 #[.val (.int p1), .val (.long q2), .second, .val (.int p3), .val (.ref b2), .unset, .unset, .unset, .unset, .unset, .unset, .unset, .unset, .unset, .unset, .unset, .unset, .unset, .unset] [(.ref b69)])) _
    refine XS.dup X74.here hx rfl (hb hby at_116) rfl rfl ?_
    show Steps p.tables e below (T74.setTop (mkF m 117 #[.val (.int p1), .val (.long q2), .second, .val (.int p3), .val (.ref b2), .unset, .unset, .unset, .unset, .unset, .unset, .unset, .unset, .unset, .unset, .unset, .unset, .unset, .unset] [(.ref b69), (.ref b69)])) _
    refine XS.iconst X74.here hx rfl (hb hby at_117) ?_
    show Steps p.tables e below (T74.setTop (mkF m 118 #[.val (.int p1), .val (.long q2), .second, .val (.int p3), .val (.ref b2), .unset, .unset, .unset, .unset, .unset, .unset, .unset, .unset, .unset, .unset, .unset, .unset, .unset, .unset] [(.int (1 : Int32)), (.ref b69), (.ref b69)])) _
    refine XS.iconst X74.here hx rfl (hb hby at_118) ?_
    exact kt
  obtain ⟨cl78, Ar78, qc78, S78, M78, Hh78, G78⟩ := id f76
  have hin78 : ¬ ((1 : Int32) < 0 ∨ cl78.slots.size ≤ ((1 : Int32)).toNatClampNeg) := inb_of S78 ⟨by decide, by decide⟩
  obtain ⟨T79, h79, X79, e79, W79, st79⟩ := stZ X74 hx hZ e74 Ar78 (j := (1 : Int32)) hin78 (g := (mkF m 119 #[.val (.int p1), .val (.long q2), .second, .val (.int p3), .val (.ref b2), .unset, .unset, .unset, .unset, .unset, .unset, .unset, .unset, .unset, .unset, .unset, .unset, .unset, .unset] [(.int (0 : Int32)), (.int (1 : Int32)), (.ref b69), (.ref b69)])) rfl rfl (hb hby at_119)
  have N79 := Fr.snoc X79 N74 g_b69
  have Zs79 : n0 ≤ h79.size := by rw [W79.size]; exact Zs74
  have f80 : Arv Z h79 b2 k2 .double (16 : Int32) [(.double (2355382605114769408 : UInt64)), (.double (2355382605114769407 : UInt64)), (.double (6858982232485265408 : UInt64)), (.double (6858982232485265409 : UInt64)), (.double (6858982232485265407 : UInt64)), (.double (2355382605114769409 : UInt64)), (.double (4607182418800017408 : UInt64)), (.double (0 : UInt64)), (.double (9223372036854775808 : UInt64)), (.double (13830554455654793216 : UInt64)), (.double (11578754641969545216 : UInt64)), (.double (9218868437227405311 : UInt64)), (.double (1 : UInt64)), (.double (6863485832112635904 : UInt64)), (.double (2350879005487398912 : UInt64)), (.double (16082354269340041216 : UInt64))] (.double (0 : UInt64)) := f75.other W79 ne_b2_b69
  have f81 : Arv Z h79 b69 k69 .boolean (16 : Int32) [(.int (nar .boolean (1 : Int32))), (.int (nar .boolean (0 : Int32))), (.int (0 : Int32)), (.int (0 : Int32)), (.int (0 : Int32)), (.int (0 : Int32)), (.int (0 : Int32)), (.int (0 : Int32)), (.int (0 : Int32)), (.int (0 : Int32)), (.int (0 : Int32)), (.int (0 : Int32)), (.int (0 : Int32)), (.int (0 : Int32)), (.int (0 : Int32)), (.int (0 : Int32))] (.int (0 : Int32)) := Arv.set Ar78 qc78 S78 M78 Hh78 G78 (fits_nar_bool _) W79 1 rfl (Nat.le_of_ble_eq_true rfl)
  have sg82 : ∀ target, Steps p.tables e below (T79.setTop (mkF m 123 #[.val (.int p1), .val (.long q2), .second, .val (.int p3), .val (.ref b2), .unset, .unset, .unset, .unset, .unset, .unset, .unset, .unset, .unset, .unset, .unset, .unset, .unset, .unset] [(.int (1 : Int32)), (.int (2 : Int32)), (.ref b69), (.ref b69)])) target → Steps p.tables e below (T79.setTop (mkF m 120 #[.val (.int p1), .val (.long q2), .second, .val (.int p3), .val (.ref b2), .unset, .unset, .unset, .unset, .unset, .unset, .unset, .unset, .unset, .unset, .unset, .unset, .unset, .unset] [(.ref b69)])) target := by
    intro target kt
    show Steps p.tables e below (T79.setTop (mkF m 120 #[.val (.int p1), .val (.long q2), .second, .val (.int p3), .val (.ref b2), .unset, .unset, .unset, .unset, .unset, .unset, .unset, .unset, .unset, .unset, .unset, .unset, .unset, .unset] [(.ref b69)])) _
    refine XS.dup X79.here hx rfl (hb hby at_120) rfl rfl ?_
    show Steps p.tables e below (T79.setTop (mkF m 121 #[.val (.int p1), .val (.long q2), .second, .val (.int p3), .val (.ref b2), .unset, .unset, .unset, .unset, .unset, .unset, .unset, .unset, .unset, .unset, .unset, .unset, .unset, .unset] [(.ref b69), (.ref b69)])) _
    refine XS.iconst X79.here hx rfl (hb hby at_121) ?_
    show Steps p.tables e below (T79.setTop (mkF m 122 #[.val (.int p1), .val (.long q2), .second, .val (.int p3), .val (.ref b2), .unset, .unset, .unset, .unset, .unset, .unset, .unset, .unset, .unset, .unset, .unset, .unset, .unset, .unset] [(.int (2 : Int32)), (.ref b69), (.ref b69)])) _
    refine XS.iconst X79.here hx rfl (hb hby at_122) ?_
    exact kt
  obtain ⟨cl83, Ar83, qc83, S83, M83, Hh83, G83⟩ := id f81
  have hin83 : ¬ ((2 : Int32) < 0 ∨ cl83.slots.size ≤ ((2 : Int32)).toNatClampNeg) := inb_of S83 ⟨by decide, by decide⟩
  obtain ⟨T84, h84, X84, e84, W84, st84⟩ := stZ X79 hx hZ e79 Ar83 (j := (2 : Int32)) hin83 (g := (mkF m 123 #[.val (.int p1), .val (.long q2), .second, .val (.int p3), .val (.ref b2), .unset, .unset, .unset, .unset, .unset, .unset, .unset, .unset, .unset, .unset, .unset, .unset, .unset, .unset] [(.int (1 : Int32)), (.int (2 : Int32)), (.ref b69), (.ref b69)])) rfl rfl (hb hby at_123)
  have N84 := Fr.snoc X84 N79 g_b69
  have Zs84 : n0 ≤ h84.size := by rw [W84.size]; exact Zs79
  have f85 : Arv Z h84 b2 k2 .double (16 : Int32) [(.double (2355382605114769408 : UInt64)), (.double (2355382605114769407 : UInt64)), (.double (6858982232485265408 : UInt64)), (.double (6858982232485265409 : UInt64)), (.double (6858982232485265407 : UInt64)), (.double (2355382605114769409 : UInt64)), (.double (4607182418800017408 : UInt64)), (.double (0 : UInt64)), (.double (9223372036854775808 : UInt64)), (.double (13830554455654793216 : UInt64)), (.double (11578754641969545216 : UInt64)), (.double (9218868437227405311 : UInt64)), (.double (1 : UInt64)), (.double (6863485832112635904 : UInt64)), (.double (2350879005487398912 : UInt64)), (.double (16082354269340041216 : UInt64))] (.double (0 : UInt64)) := f80.other W84 ne_b2_b69
  have f86 : Arv Z h84 b69 k69 .boolean (16 : Int32) [(.int (nar .boolean (1 : Int32))), (.int (nar .boolean (0 : Int32))), (.int (nar .boolean (1 : Int32))), (.int (0 : Int32)), (.int (0 : Int32)), (.int (0 : Int32)), (.int (0 : Int32)), (.int (0 : Int32)), (.int (0 : Int32)), (.int (0 : Int32)), (.int (0 : Int32)), (.int (0 : Int32)), (.int (0 : Int32)), (.int (0 : Int32)), (.int (0 : Int32)), (.int (0 : Int32))] (.int (0 : Int32)) := Arv.set Ar83 qc83 S83 M83 Hh83 G83 (fits_nar_bool _) W84 2 rfl (Nat.le_of_ble_eq_true rfl)
  have sg87 : ∀ target, Steps p.tables e below (T84.setTop (mkF m 127 #[.val (.int p1), .val (.long q2), .second, .val (.int p3), .val (.ref b2), .unset, .unset, .unset, .unset, .unset, .unset, .unset, .unset, .unset, .unset, .unset, .unset, .unset, .unset] [(.int (0 : Int32)), (.int (3 : Int32)), (.ref b69), (.ref b69)])) target → Steps p.tables e below (T84.setTop (mkF m 124 #[.val (.int p1), .val (.long q2), .second, .val (.int p3), .val (.ref b2), .unset, .unset, .unset, .unset, .unset, .unset, .unset, .unset, .unset, .unset, .unset, .unset, .unset, .unset] [(.ref b69)])) target := by
    intro target kt
    show Steps p.tables e below (T84.setTop (mkF m 124 #[.val (.int p1), .val (.long q2), .second, .val (.int p3), .val (.ref b2), .unset, .unset, .unset, .unset, .unset, .unset, .unset, .unset, .unset, .unset, .unset, .unset, .unset, .unset] [(.ref b69)])) _
    refine XS.dup X84.here hx rfl (hb hby at_124) rfl rfl ?_
    show Steps p.tables e below (T84.setTop (mkF m 125 #[.val (.int p1), .val (.long q2), .second, .val (.int p3), .val (.ref b2), .unset, .unset, .unset, .unset, .unset, .unset, .unset, .unset, .unset, .unset, .unset, .unset, .unset, .unset] [(.ref b69), (.ref b69)])) _
    refine XS.iconst X84.here hx rfl (hb hby at_125) ?_
    show Steps p.tables e below (T84.setTop (mkF m 126 #[.val (.int p1), .val (.long q2), .second, .val (.int p3), .val (.ref b2), .unset, .unset, .unset, .unset, .unset, .unset, .unset, .unset, .unset, .unset, .unset, .unset, .unset, .unset] [(.int (3 : Int32)), (.ref b69), (.ref b69)])) _
    refine XS.iconst X84.here hx rfl (hb hby at_126) ?_
    exact kt
  obtain ⟨cl88, Ar88, qc88, S88, M88, Hh88, G88⟩ := id f86
  have hin88 : ¬ ((3 : Int32) < 0 ∨ cl88.slots.size ≤ ((3 : Int32)).toNatClampNeg) := inb_of S88 ⟨by decide, by decide⟩
  obtain ⟨T89, h89, X89, e89, W89, st89⟩ := stZ X84 hx hZ e84 Ar88 (j := (3 : Int32)) hin88 (g := (mkF m 127 #[.val (.int p1), .val (.long q2), .second, .val (.int p3), .val (.ref b2), .unset, .unset, .unset, .unset, .unset, .unset, .unset, .unset, .unset, .unset, .unset, .unset, .unset, .unset] [(.int (0 : Int32)), (.int (3 : Int32)), (.ref b69), (.ref b69)])) rfl rfl (hb hby at_127)
  have N89 := Fr.snoc X89 N84 g_b69
  have Zs89 : n0 ≤ h89.size := by rw [W89.size]; exact Zs84
  have f90 : Arv Z h89 b2 k2 .double (16 : Int32) [(.double (2355382605114769408 : UInt64)), (.double (2355382605114769407 : UInt64)), (.double (6858982232485265408 : UInt64)), (.double (6858982232485265409 : UInt64)), (.double (6858982232485265407 : UInt64)), (.double (2355382605114769409 : UInt64)), (.double (4607182418800017408 : UInt64)), (.double (0 : UInt64)), (.double (9223372036854775808 : UInt64)), (.double (13830554455654793216 : UInt64)), (.double (11578754641969545216 : UInt64)), (.double (9218868437227405311 : UInt64)), (.double (1 : UInt64)), (.double (6863485832112635904 : UInt64)), (.double (2350879005487398912 : UInt64)), (.double (16082354269340041216 : UInt64))] (.double (0 : UInt64)) := f85.other W89 ne_b2_b69
  have f91 : Arv Z h89 b69 k69 .boolean (16 : Int32) [(.int (nar .boolean (1 : Int32))), (.int (nar .boolean (0 : Int32))), (.int (nar .boolean (1 : Int32))), (.int (nar .boolean (0 : Int32))), (.int (0 : Int32)), (.int (0 : Int32)), (.int (0 : Int32)), (.int (0 : Int32)), (.int (0 : Int32)), (.int (0 : Int32)), (.int (0 : Int32)), (.int (0 : Int32)), (.int (0 : Int32)), (.int (0 : Int32)), (.int (0 : Int32)), (.int (0 : Int32))] (.int (0 : Int32)) := Arv.set Ar88 qc88 S88 M88 Hh88 G88 (fits_nar_bool _) W89 3 rfl (Nat.le_of_ble_eq_true rfl)
  have sg92 : ∀ target, Steps p.tables e below (T89.setTop (mkF m 131 #[.val (.int p1), .val (.long q2), .second, .val (.int p3), .val (.ref b2), .unset, .unset, .unset, .unset, .unset, .unset, .unset, .unset, .unset, .unset, .unset, .unset, .unset, .unset] [(.int (1 : Int32)), (.int (4 : Int32)), (.ref b69), (.ref b69)])) target → Steps p.tables e below (T89.setTop (mkF m 128 #[.val (.int p1), .val (.long q2), .second, .val (.int p3), .val (.ref b2), .unset, .unset, .unset, .unset, .unset, .unset, .unset, .unset, .unset, .unset, .unset, .unset, .unset, .unset] [(.ref b69)])) target := by
    intro target kt
    show Steps p.tables e below (T89.setTop (mkF m 128 #[.val (.int p1), .val (.long q2), .second, .val (.int p3), .val (.ref b2), .unset, .unset, .unset, .unset, .unset, .unset, .unset, .unset, .unset, .unset, .unset, .unset, .unset, .unset] [(.ref b69)])) _
    refine XS.dup X89.here hx rfl (hb hby at_128) rfl rfl ?_
    show Steps p.tables e below (T89.setTop (mkF m 129 #[.val (.int p1), .val (.long q2), .second, .val (.int p3), .val (.ref b2), .unset, .unset, .unset, .unset, .unset, .unset, .unset, .unset, .unset, .unset, .unset, .unset, .unset, .unset] [(.ref b69), (.ref b69)])) _
    refine XS.iconst X89.here hx rfl (hb hby at_129) ?_
    show Steps p.tables e below (T89.setTop (mkF m 130 #[.val (.int p1), .val (.long q2), .second, .val (.int p3), .val (.ref b2), .unset, .unset, .unset, .unset, .unset, .unset, .unset, .unset, .unset, .unset, .unset, .unset, .unset, .unset] [(.int (4 : Int32)), (.ref b69), (.ref b69)])) _
    refine XS.iconst X89.here hx rfl (hb hby at_130) ?_
    exact kt
  obtain ⟨cl93, Ar93, qc93, S93, M93, Hh93, G93⟩ := id f91
  have hin93 : ¬ ((4 : Int32) < 0 ∨ cl93.slots.size ≤ ((4 : Int32)).toNatClampNeg) := inb_of S93 ⟨by decide, by decide⟩
  obtain ⟨T94, h94, X94, e94, W94, st94⟩ := stZ X89 hx hZ e89 Ar93 (j := (4 : Int32)) hin93 (g := (mkF m 131 #[.val (.int p1), .val (.long q2), .second, .val (.int p3), .val (.ref b2), .unset, .unset, .unset, .unset, .unset, .unset, .unset, .unset, .unset, .unset, .unset, .unset, .unset, .unset] [(.int (1 : Int32)), (.int (4 : Int32)), (.ref b69), (.ref b69)])) rfl rfl (hb hby at_131)
  have N94 := Fr.snoc X94 N89 g_b69
  have Zs94 : n0 ≤ h94.size := by rw [W94.size]; exact Zs89
  have f95 : Arv Z h94 b2 k2 .double (16 : Int32) [(.double (2355382605114769408 : UInt64)), (.double (2355382605114769407 : UInt64)), (.double (6858982232485265408 : UInt64)), (.double (6858982232485265409 : UInt64)), (.double (6858982232485265407 : UInt64)), (.double (2355382605114769409 : UInt64)), (.double (4607182418800017408 : UInt64)), (.double (0 : UInt64)), (.double (9223372036854775808 : UInt64)), (.double (13830554455654793216 : UInt64)), (.double (11578754641969545216 : UInt64)), (.double (9218868437227405311 : UInt64)), (.double (1 : UInt64)), (.double (6863485832112635904 : UInt64)), (.double (2350879005487398912 : UInt64)), (.double (16082354269340041216 : UInt64))] (.double (0 : UInt64)) := f90.other W94 ne_b2_b69
  have f96 : Arv Z h94 b69 k69 .boolean (16 : Int32) [(.int (nar .boolean (1 : Int32))), (.int (nar .boolean (0 : Int32))), (.int (nar .boolean (1 : Int32))), (.int (nar .boolean (0 : Int32))), (.int (nar .boolean (1 : Int32))), (.int (0 : Int32)), (.int (0 : Int32)), (.int (0 : Int32)), (.int (0 : Int32)), (.int (0 : Int32)), (.int (0 : Int32)), (.int (0 : Int32)), (.int (0 : Int32)), (.int (0 : Int32)), (.int (0 : Int32)), (.int (0 : Int32))] (.int (0 : Int32)) := Arv.set Ar93 qc93 S93 M93 Hh93 G93 (fits_nar_bool _) W94 4 rfl (Nat.le_of_ble_eq_true rfl)
  have sg97 : ∀ target, Steps p.tables e below (T94.setTop (mkF m 135 #[.val (.int p1), .val (.long q2), .second, .val (.int p3), .val (.ref b2), .unset, .unset, .unset, .unset, .unset, .unset, .unset, .unset, .unset, .unset, .unset, .unset, .unset, .unset] [(.int (1 : Int32)), (.int (5 : Int32)), (.ref b69), (.ref b69)])) target → Steps p.tables e below (T94.setTop (mkF m 132 #[.val (.int p1), .val (.long q2), .second, .val (.int p3), .val (.ref b2), .unset, .unset, .unset, .unset, .unset, .unset, .unset, .unset, .unset, .unset, .unset, .unset, .unset, .unset] [(.ref b69)])) target := by
    intro target kt
    show Steps p.tables e below (T94.setTop (mkF m 132 #[.val (.int p1), .val (.long q2), .second, .val (.int p3), .val (.ref b2), .unset, .unset, .unset, .unset, .unset, .unset, .unset, .unset, .unset, .unset, .unset, .unset, .unset, .unset] [(.ref b69)])) _
    refine XS.dup X94.here hx rfl (hb hby at_132) rfl rfl ?_
    show Steps p.tables e below (T94.setTop (mkF m 133 #[.val (.int p1), .val (.long q2), .second, .val (.int p3), .val (.ref b2), .unset, .unset, .unset, .unset, .unset, .unset, .unset, .unset, .unset, .unset, .unset, .unset, .unset, .unset] [(.ref b69), (.ref b69)])) _
    refine XS.iconst X94.here hx rfl (hb hby at_133) ?_
    show Steps p.tables e below (T94.setTop (mkF m 134 #[.val (.int p1), .val (.long q2), .second, .val (.int p3), .val (.ref b2), .unset, .unset, .unset, .unset, .unset, .unset, .unset, .unset, .unset, .unset, .unset, .unset, .unset, .unset] [(.int (5 : Int32)), (.ref b69), (.ref b69)])) _
    refine XS.iconst X94.here hx rfl (hb hby at_134) ?_
    exact kt
  obtain ⟨cl98, Ar98, qc98, S98, M98, Hh98, G98⟩ := id f96
  have hin98 : ¬ ((5 : Int32) < 0 ∨ cl98.slots.size ≤ ((5 : Int32)).toNatClampNeg) := inb_of S98 ⟨by decide, by decide⟩
  obtain ⟨T99, h99, X99, e99, W99, st99⟩ := stZ X94 hx hZ e94 Ar98 (j := (5 : Int32)) hin98 (g := (mkF m 135 #[.val (.int p1), .val (.long q2), .second, .val (.int p3), .val (.ref b2), .unset, .unset, .unset, .unset, .unset, .unset, .unset, .unset, .unset, .unset, .unset, .unset, .unset, .unset] [(.int (1 : Int32)), (.int (5 : Int32)), (.ref b69), (.ref b69)])) rfl rfl (hb hby at_135)
  have N99 := Fr.snoc X99 N94 g_b69
  have Zs99 : n0 ≤ h99.size := by rw [W99.size]; exact Zs94
  have f100 : Arv Z h99 b2 k2 .double (16 : Int32) [(.double (2355382605114769408 : UInt64)), (.double (2355382605114769407 : UInt64)), (.double (6858982232485265408 : UInt64)), (.double (6858982232485265409 : UInt64)), (.double (6858982232485265407 : UInt64)), (.double (2355382605114769409 : UInt64)), (.double (4607182418800017408 : UInt64)), (.double (0 : UInt64)), (.double (9223372036854775808 : UInt64)), (.double (13830554455654793216 : UInt64)), (.double (11578754641969545216 : UInt64)), (.double (9218868437227405311 : UInt64)), (.double (1 : UInt64)), (.double (6863485832112635904 : UInt64)), (.double (2350879005487398912 : UInt64)), (.double (16082354269340041216 : UInt64))] (.double (0 : UInt64)) := f95.other W99 ne_b2_b69
  have f101 : Arv Z h99 b69 k69 .boolean (16 : Int32) [(.int (nar .boolean (1 : Int32))), (.int (nar .boolean (0 : Int32))), (.int (nar .boolean (1 : Int32))), (.int (nar .boolean (0 : Int32))), (.int (nar .boolean (1 : Int32))), (.int (nar .boolean (1 : Int32))), (.int (0 : Int32)), (.int (0 : Int32)), (.int (0 : Int32)), (.int (0 : Int32)), (.int (0 : Int32)), (.int (0 : Int32)), (.int (0 : Int32)), (.int (0 : Int32)), (.int (0 : Int32)), (.int (0 : Int32))] (.int (0 : Int32)) := Arv.set Ar98 qc98 S98 M98 Hh98 G98 (fits_nar_bool _) W99 5 rfl (Nat.le_of_ble_eq_true rfl)
  have sg102 : ∀ target, Steps p.tables e below (T99.setTop (mkF m 140 #[.val (.int p1), .val (.long q2), .second, .val (.int p3), .val (.ref b2), .unset, .unset, .unset, .unset, .unset, .unset, .unset, .unset, .unset, .unset, .unset, .unset, .unset, .unset] [(.int (1 : Int32)), (.int (6 : Int32)), (.ref b69), (.ref b69)])) target → Steps p.tables e below (T99.setTop (mkF m 136 #[.val (.int p1), .val (.long q2), .second, .val (.int p3), .val (.ref b2), .unset, .unset, .unset, .unset, .unset, .unset, .unset, .unset, .unset, .unset, .unset, .unset, .unset, .unset] [(.ref b69)])) target := by
    intro target kt
    show Steps p.tables e below (T99.setTop (mkF m 136 #[.val (.int p1), .val (.long q2), .second, .val (.int p3), .val (.ref b2), .unset, .unset, .unset, .unset, .unset, .unset, .unset, .unset, .unset, .unset, .unset, .unset, .unset, .unset] [(.ref b69)])) _
    refine XS.dup X99.here hx rfl (hb hby at_136) rfl rfl ?_
    show Steps p.tables e below (T99.setTop (mkF m 137 #[.val (.int p1), .val (.long q2), .second, .val (.int p3), .val (.ref b2), .unset, .unset, .unset, .unset, .unset, .unset, .unset, .unset, .unset, .unset, .unset, .unset, .unset, .unset] [(.ref b69), (.ref b69)])) _
    refine XS.bipush X99.here hx rfl (hb hby at_137) ?_
    show Steps p.tables e below (T99.setTop (mkF m 139 #[.val (.int p1), .val (.long q2), .second, .val (.int p3), .val (.ref b2), .unset, .unset, .unset, .unset, .unset, .unset, .unset, .unset, .unset, .unset, .unset, .unset, .unset, .unset] [(.int (6 : Int32)), (.ref b69), (.ref b69)])) _
    refine XS.iconst X99.here hx rfl (hb hby at_139) ?_
    exact kt
  obtain ⟨cl103, Ar103, qc103, S103, M103, Hh103, G103⟩ := id f101
  have hin103 : ¬ ((6 : Int32) < 0 ∨ cl103.slots.size ≤ ((6 : Int32)).toNatClampNeg) := inb_of S103 ⟨by decide, by decide⟩
  obtain ⟨T104, h104, X104, e104, W104, st104⟩ := stZ X99 hx hZ e99 Ar103 (j := (6 : Int32)) hin103 (g := (mkF m 140 #[.val (.int p1), .val (.long q2), .second, .val (.int p3), .val (.ref b2), .unset, .unset, .unset, .unset, .unset, .unset, .unset, .unset, .unset, .unset, .unset, .unset, .unset, .unset] [(.int (1 : Int32)), (.int (6 : Int32)), (.ref b69), (.ref b69)])) rfl rfl (hb hby at_140)
  have N104 := Fr.snoc X104 N99 g_b69
  have Zs104 : n0 ≤ h104.size := by rw [W104.size]; exact Zs99
  have f105 : Arv Z h104 b2 k2 .double (16 : Int32) [(.double (2355382605114769408 : UInt64)), (.double (2355382605114769407 : UInt64)), (.double (6858982232485265408 : UInt64)), (.double (6858982232485265409 : UInt64)), (.double (6858982232485265407 : UInt64)), (.double (2355382605114769409 : UInt64)), (.double (4607182418800017408 : UInt64)), (.double (0 : UInt64)), (.double (9223372036854775808 : UInt64)), (.double (13830554455654793216 : UInt64)), (.double (11578754641969545216 : UInt64)), (.double (9218868437227405311 : UInt64)), (.double (1 : UInt64)), (.double (6863485832112635904 : UInt64)), (.double (2350879005487398912 : UInt64)), (.double (16082354269340041216 : UInt64))] (.double (0 : UInt64)) := f100.other W104 ne_b2_b69
  have f106 : Arv Z h104 b69 k69 .boolean (16 : Int32) [(.int (nar .boolean (1 : Int32))), (.int (nar .boolean (0 : Int32))), (.int (nar .boolean (1 : Int32))), (.int (nar .boolean (0 : Int32))), (.int (nar .boolean (1 : Int32))), (.int (nar .boolean (1 : Int32))), (.int (nar .boolean (1 : Int32))), (.int (0 : Int32)), (.int (0 : Int32)), (.int (0 : Int32)), (.int (0 : Int32)), (.int (0 : Int32)), (.int (0 : Int32)), (.int (0 : Int32)), (.int (0 : Int32)), (.int (0 : Int32))] (.int (0 : Int32)) := Arv.set Ar103 qc103 S103 M103 Hh103 G103 (fits_nar_bool _) W104 6 rfl (Nat.le_of_ble_eq_true rfl)
  have sg107 : ∀ target, Steps p.tables e below (T104.setTop (mkF m 145 #[.val (.int p1), .val (.long q2), .second, .val (.int p3), .val (.ref b2), .unset, .unset, .unset, .unset, .unset, .unset, .unset, .unset, .unset, .unset, .unset, .unset, .unset, .unset] [(.int (0 : Int32)), (.int (7 : Int32)), (.ref b69), (.ref b69)])) target → Steps p.tables e below (T104.setTop (mkF m 141 #[.val (.int p1), .val (.long q2), .second, .val (.int p3), .val (.ref b2), .unset, .unset, .unset, .unset, .unset, .unset, .unset, .unset, .unset, .unset, .unset, .unset, .unset, .unset] [(.ref b69)])) target := by
    intro target kt
    show Steps p.tables e below (T104.setTop (mkF m 141 #[.val (.int p1), .val (.long q2), .second, .val (.int p3), .val (.ref b2), .unset, .unset, .unset, .unset, .unset, .unset, .unset, .unset, .unset, .unset, .unset, .unset, .unset, .unset] [(.ref b69)])) _
    refine XS.dup X104.here hx rfl (hb hby at_141) rfl rfl ?_
    show Steps p.tables e below (T104.setTop (mkF m 142 #[.val (.int p1), .val (.long q2), .second, .val (.int p3), .val (.ref b2), .unset, .unset, .unset, .unset, .unset, .unset, .unset, .unset, .unset, .unset, .unset, .unset, .unset, .unset] [(.ref b69), (.ref b69)])) _
    refine XS.bipush X104.here hx rfl (hb hby at_142) ?_
    show Steps p.tables e below (T104.setTop (mkF m 144 #[.val (.int p1), .val (.long q2), .second, .val (.int p3), .val (.ref b2), .unset, .unset, .unset, .unset, .unset, .unset, .unset, .unset, .unset, .unset, .unset, .unset, .unset, .unset] [(.int (7 : Int32)), (.ref b69), (.ref b69)])) _
    refine XS.iconst X104.here hx rfl (hb hby at_144) ?_
    exact kt
  obtain ⟨cl108, Ar108, qc108, S108, M108, Hh108, G108⟩ := id f106
  have hin108 : ¬ ((7 : Int32) < 0 ∨ cl108.slots.size ≤ ((7 : Int32)).toNatClampNeg) := inb_of S108 ⟨by decide, by decide⟩
  obtain ⟨T109, h109, X109, e109, W109, st109⟩ := stZ X104 hx hZ e104 Ar108 (j := (7 : Int32)) hin108 (g := (mkF m 145 #[.val (.int p1), .val (.long q2), .second, .val (.int p3), .val (.ref b2), .unset, .unset, .unset, .unset, .unset, .unset, .unset, .unset, .unset, .unset, .unset, .unset, .unset, .unset] [(.int (0 : Int32)), (.int (7 : Int32)), (.ref b69), (.ref b69)])) rfl rfl (hb hby at_145)
  have N109 := Fr.snoc X109 N104 g_b69
  have Zs109 : n0 ≤ h109.size := by rw [W109.size]; exact Zs104
  have f110 : Arv Z h109 b2 k2 .double (16 : Int32) [(.double (2355382605114769408 : UInt64)), (.double (2355382605114769407 : UInt64)), (.double (6858982232485265408 : UInt64)), (.double (6858982232485265409 : UInt64)), (.double (6858982232485265407 : UInt64)), (.double (2355382605114769409 : UInt64)), (.double (4607182418800017408 : UInt64)), (.double (0 : UInt64)), (.double (9223372036854775808 : UInt64)), (.double (13830554455654793216 : UInt64)), (.double (11578754641969545216 : UInt64)), (.double (9218868437227405311 : UInt64)), (.double (1 : UInt64)), (.double (6863485832112635904 : UInt64)), (.double (2350879005487398912 : UInt64)), (.double (16082354269340041216 : UInt64))] (.double (0 : UInt64)) := f105.other W109 ne_b2_b69
  have f111 : Arv Z h109 b69 k69 .boolean (16 : Int32) [(.int (nar .boolean (1 : Int32))), (.int (nar .boolean (0 : Int32))), (.int (nar .boolean (1 : Int32))), (.int (nar .boolean (0 : Int32))), (.int (nar .boolean (1 : Int32))), (.int (nar .boolean (1 : Int32))), (.int (nar .boolean (1 : Int32))), (.int (nar .boolean (0 : Int32))), (.int (0 : Int32)), (.int (0 : Int32)), (.int (0 : Int32)), (.int (0 : Int32)), (.int (0 : Int32)), (.int (0 : Int32)), (.int (0 : Int32)), (.int (0 : Int32))] (.int (0 : Int32)) := Arv.set Ar108 qc108 S108 M108 Hh108 G108 (fits_nar_bool _) W109 7 rfl (Nat.le_of_ble_eq_true rfl)
  have sg112 : ∀ target, Steps p.tables e below (T109.setTop (mkF m 150 #[.val (.int p1), .val (.long q2), .second, .val (.int p3), .val (.ref b2), .unset, .unset, .unset, .unset, .unset, .unset, .unset, .unset, .unset, .unset, .unset, .unset, .unset, .unset] [(.int (0 : Int32)), (.int (8 : Int32)), (.ref b69), (.ref b69)])) target → Steps p.tables e below (T109.setTop (mkF m 146 #[.val (.int p1), .val (.long q2), .second, .val (.int p3), .val (.ref b2), .unset, .unset, .unset, .unset, .unset, .unset, .unset, .unset, .unset, .unset, .unset, .unset, .unset, .unset] [(.ref b69)])) target := by
    intro target kt
    show Steps p.tables e below (T109.setTop (mkF m 146 #[.val (.int p1), .val (.long q2), .second, .val (.int p3), .val (.ref b2), .unset, .unset, .unset, .unset, .unset, .unset, .unset, .unset, .unset, .unset, .unset, .unset, .unset, .unset] [(.ref b69)])) _
    refine XS.dup X109.here hx rfl (hb hby at_146) rfl rfl ?_
    show Steps p.tables e below (T109.setTop (mkF m 147 #[.val (.int p1), .val (.long q2), .second, .val (.int p3), .val (.ref b2), .unset, .unset, .unset, .unset, .unset, .unset, .unset, .unset, .unset, .unset, .unset, .unset, .unset, .unset] [(.ref b69), (.ref b69)])) _
    refine XS.bipush X109.here hx rfl (hb hby at_147) ?_
    show Steps p.tables e below (T109.setTop (mkF m 149 #[.val (.int p1), .val (.long q2), .second, .val (.int p3), .val (.ref b2), .unset, .unset, .unset, .unset, .unset, .unset, .unset, .unset, .unset, .unset, .unset, .unset, .unset, .unset] [(.int (8 : Int32)), (.ref b69), (.ref b69)])) _
    refine XS.iconst X109.here hx rfl (hb hby at_149) ?_
    exact kt
  obtain ⟨cl113, Ar113, qc113, S113, M113, Hh113, G113⟩ := id f111
  have hin113 : ¬ ((8 : Int32) < 0 ∨ cl113.slots.size ≤ ((8 : Int32)).toNatClampNeg) := inb_of S113 ⟨by decide, by decide⟩
  obtain ⟨T114, h114, X114, e114, W114, st114⟩ := stZ X109 hx hZ e109 Ar113 (j := (8 : Int32)) hin113 (g := (mkF m 150 #[.val (.int p1), .val (.long q2), .second, .val (.int p3), .val (.ref b2), .unset, .unset, .unset, .unset, .unset, .unset, .unset, .unset, .unset, .unset, .unset, .unset, .unset, .unset] [(.int (0 : Int32)), (.int (8 : Int32)), (.ref b69), (.ref b69)])) rfl rfl (hb hby at_150)
  have N114 := Fr.snoc X114 N109 g_b69
  have Zs114 : n0 ≤ h114.size := by rw [W114.size]; exact Zs109
  have f115 : Arv Z h114 b2 k2 .double (16 : Int32) [(.double (2355382605114769408 : UInt64)), (.double (2355382605114769407 : UInt64)), (.double (6858982232485265408 : UInt64)), (.double (6858982232485265409 : UInt64)), (.double (6858982232485265407 : UInt64)), (.double (2355382605114769409 : UInt64)), (.double (4607182418800017408 : UInt64)), (.double (0 : UInt64)), (.double (9223372036854775808 : UInt64)), (.double (13830554455654793216 : UInt64)), (.double (11578754641969545216 : UInt64)), (.double (9218868437227405311 : UInt64)), (.double (1 : UInt64)), (.double (6863485832112635904 : UInt64)), (.double (2350879005487398912 : UInt64)), (.double (16082354269340041216 : UInt64))] (.double (0 : UInt64)) := f110.other W114 ne_b2_b69
  have f116 : Arv Z h114 b69 k69 .boolean (16 : Int32) [(.int (nar .boolean (1 : Int32))), (.int (nar .boolean (0 : Int32))), (.int (nar .boolean (1 : Int32))), (.int (nar .boolean (0 : Int32))), (.int (nar .boolean (1 : Int32))), (.int (nar .boolean (1 : Int32))), (.int (nar .boolean (1 : Int32))), (.int (nar .boolean (0 : Int32))), (.int (nar .boolean (0 : Int32))), (.int (0 : Int32)), (.int (0 : Int32)), (.int (0 : Int32)), (.int (0 : Int32)), (.int (0 : Int32)), (.int (0 : Int32)), (.int (0 : Int32))] (.int (0 : Int32)) := Arv.set Ar113 qc113 S113 M113 Hh113 G113 (fits_nar_bool _) W114 8 rfl (Nat.le_of_ble_eq_true rfl)
  have sg117 : ∀ target, Steps p.tables e below (T114.setTop (mkF m 155 #[.val (.int p1), .val (.long q2), .second, .val (.int p3), .val (.ref b2), .unset, .unset, .unset, .unset, .unset, .unset, .unset, .unset, .unset, .unset, .unset, .unset, .unset, .unset] [(.int (0 : Int32)), (.int (9 : Int32)), (.ref b69), (.ref b69)])) target → Steps p.tables e below (T114.setTop (mkF m 151 #[.val (.int p1), .val (.long q2), .second, .val (.int p3), .val (.ref b2), .unset, .unset, .unset, .unset, .unset, .unset, .unset, .unset, .unset, .unset, .unset, .unset, .unset, .unset] [(.ref b69)])) target := by
    intro target kt
    show Steps p.tables e below (T114.setTop (mkF m 151 #[.val (.int p1), .val (.long q2), .second, .val (.int p3), .val (.ref b2), .unset, .unset, .unset, .unset, .unset, .unset, .unset, .unset, .unset, .unset, .unset, .unset, .unset, .unset] [(.ref b69)])) _
    refine XS.dup X114.here hx rfl (hb hby at_151) rfl rfl ?_
    show Steps p.tables e below (T114.setTop (mkF m 152 #[.val (.int p1), .val (.long q2), .second, .val (.int p3), .val (.ref b2), .unset, .unset, .unset, .unset, .unset, .unset, .unset, .unset, .unset, .unset, .unset, .unset, .unset, .unset] [(.ref b69), (.ref b69)])) _
    refine XS.bipush X114.here hx rfl (hb hby at_152) ?_
    show Steps p.tables e below (T114.setTop (mkF m 154 #[.val (.int p1), .val (.long q2), .second, .val (.int p3), .val (.ref b2), .unset, .unset, .unset, .unset, .unset, .unset, .unset, .unset, .unset, .unset, .unset, .unset, .unset, .unset] [(.int (9 : Int32)), (.ref b69), (.ref b69)])) _
    refine XS.iconst X114.here hx rfl (hb hby at_154) ?_
    exact kt
  obtain ⟨cl118, Ar118, qc118, S118, M118, Hh118, G118⟩ := id f116
  have hin118 : ¬ ((9 : Int32) < 0 ∨ cl118.slots.size ≤ ((9 : Int32)).toNatClampNeg) := inb_of S118 ⟨by decide, by decide⟩
  obtain ⟨T119, h119, X119, e119, W119, st119⟩ := stZ X114 hx hZ e114 Ar118 (j := (9 : Int32)) hin118 (g := (mkF m 155 #[.val (.int p1), .val (.long q2), .second, .val (.int p3), .val (.ref b2), .unset, .unset, .unset, .unset, .unset, .unset, .unset, .unset, .unset, .unset, .unset, .unset, .unset, .unset] [(.int (0 : Int32)), (.int (9 : Int32)), (.ref b69), (.ref b69)])) rfl rfl (hb hby at_155)
  have N119 := Fr.snoc X119 N114 g_b69
  have Zs119 : n0 ≤ h119.size := by rw [W119.size]; exact Zs114
  have f120 : Arv Z h119 b2 k2 .double (16 : Int32) [(.double (2355382605114769408 : UInt64)), (.double (2355382605114769407 : UInt64)), (.double (6858982232485265408 : UInt64)), (.double (6858982232485265409 : UInt64)), (.double (6858982232485265407 : UInt64)), (.double (2355382605114769409 : UInt64)), (.double (4607182418800017408 : UInt64)), (.double (0 : UInt64)), (.double (9223372036854775808 : UInt64)), (.double (13830554455654793216 : UInt64)), (.double (11578754641969545216 : UInt64)), (.double (9218868437227405311 : UInt64)), (.double (1 : UInt64)), (.double (6863485832112635904 : UInt64)), (.double (2350879005487398912 : UInt64)), (.double (16082354269340041216 : UInt64))] (.double (0 : UInt64)) := f115.other W119 ne_b2_b69
  have f121 : Arv Z h119 b69 k69 .boolean (16 : Int32) [(.int (nar .boolean (1 : Int32))), (.int (nar .boolean (0 : Int32))), (.int (nar .boolean (1 : Int32))), (.int (nar .boolean (0 : Int32))), (.int (nar .boolean (1 : Int32))), (.int (nar .boolean (1 : Int32))), (.int (nar .boolean (1 : Int32))), (.int (nar .boolean (0 : Int32))), (.int (nar .boolean (0 : Int32))), (.int (nar .boolean (0 : Int32))), (.int (0 : Int32)), (.int (0 : Int32)), (.int (0 : Int32)), (.int (0 : Int32)), (.int (0 : Int32)), (.int (0 : Int32))] (.int (0 : Int32)) := Arv.set Ar118 qc118 S118 M118 Hh118 G118 (fits_nar_bool _) W119 9 rfl (Nat.le_of_ble_eq_true rfl)
  have sg122 : ∀ target, Steps p.tables e below (T119.setTop (mkF m 160 #[.val (.int p1), .val (.long q2), .second, .val (.int p3), .val (.ref b2), .unset, .unset, .unset, .unset, .unset, .unset, .unset, .unset, .unset, .unset, .unset, .unset, .unset, .unset] [(.int (0 : Int32)), (.int (10 : Int32)), (.ref b69), (.ref b69)])) target → Steps p.tables e below (T119.setTop (mkF m 156 #[.val (.int p1), .val (.long q2), .second, .val (.int p3), .val (.ref b2), .unset, .unset, .unset, .unset, .unset, .unset, .unset, .unset, .unset, .unset, .unset, .unset, .unset, .unset] [(.ref b69)])) target := by
    intro target kt
    show Steps p.tables e below (T119.setTop (mkF m 156 #[.val (.int p1), .val (.long q2), .second, .val (.int p3), .val (.ref b2), .unset, .unset, .unset, .unset, .unset, .unset, .unset, .unset, .unset, .unset, .unset, .unset, .unset, .unset] [(.ref b69)])) _
    refine XS.dup X119.here hx rfl (hb hby at_156) rfl rfl ?_
    show Steps p.tables e below (T119.setTop (mkF m 157 #[.val (.int p1), .val (.long q2), .second, .val (.int p3), .val (.ref b2), .unset, .unset, .unset, .unset, .unset, .unset, .unset, .unset, .unset, .unset, .unset, .unset, .unset, .unset] [(.ref b69), (.ref b69)])) _
    refine XS.bipush X119.here hx rfl (hb hby at_157) ?_
    show Steps p.tables e below (T119.setTop (mkF m 159 #[.val (.int p1), .val (.long q2), .second, .val (.int p3), .val (.ref b2), .unset, .unset, .unset, .unset, .unset, .unset, .unset, .unset, .unset, .unset, .unset, .unset, .unset, .unset] [(.int (10 : Int32)), (.ref b69), (.ref b69)])) _
    refine XS.iconst X119.here hx rfl (hb hby at_159) ?_
    exact kt
  obtain ⟨cl123, Ar123, qc123, S123, M123, Hh123, G123⟩ := id f121
  have hin123 : ¬ ((10 : Int32) < 0 ∨ cl123.slots.size ≤ ((10 : Int32)).toNatClampNeg) := inb_of S123 ⟨by decide, by decide⟩
  obtain ⟨T124, h124, X124, e124, W124, st124⟩ := stZ X119 hx hZ e119 Ar123 (j := (10 : Int32)) hin123 (g := (mkF m 160 #[.val (.int p1), .val (.long q2), .second, .val (.int p3), .val (.ref b2), .unset, .unset, .unset, .unset, .unset, .unset, .unset, .unset, .unset, .unset, .unset, .unset, .unset, .unset] [(.int (0 : Int32)), (.int (10 : Int32)), (.ref b69), (.ref b69)])) rfl rfl (hb hby at_160)
  have N124 := Fr.snoc X124 N119 g_b69
  have Zs124 : n0 ≤ h124.size := by rw [W124.size]; exact Zs119
  have f125 : Arv Z h124 b2 k2 .double (16 : Int32) [(.double (2355382605114769408 : UInt64)), (.double (2355382605114769407 : UInt64)), (.double (6858982232485265408 : UInt64)), (.double (6858982232485265409 : UInt64)), (.double (6858982232485265407 : UInt64)), (.double (2355382605114769409 : UInt64)), (.double (4607182418800017408 : UInt64)), (.double (0 : UInt64)), (.double (9223372036854775808 : UInt64)), (.double (13830554455654793216 : UInt64)), (.double (11578754641969545216 : UInt64)), (.double (9218868437227405311 : UInt64)), (.double (1 : UInt64)), (.double (6863485832112635904 : UInt64)), (.double (2350879005487398912 : UInt64)), (.double (16082354269340041216 : UInt64))] (.double (0 : UInt64)) := f120.other W124 ne_b2_b69
  have f126 : Arv Z h124 b69 k69 .boolean (16 : Int32) [(.int (nar .boolean (1 : Int32))), (.int (nar .boolean (0 : Int32))), (.int (nar .boolean (1 : Int32))), (.int (nar .boolean (0 : Int32))), (.int (nar .boolean (1 : Int32))), (.int (nar .boolean (1 : Int32))), (.int (nar .boolean (1 : Int32))), (.int (nar .boolean (0 : Int32))), (.int (nar .boolean (0 : Int32))), (.int (nar .boolean (0 : Int32))), (.int (nar .boolean (0 : Int32))), (.int (0 : Int32)), (.int (0 : Int32)), (.int (0 : Int32)), (.int (0 : Int32)), (.int (0 : Int32))] (.int (0 : Int32)) := Arv.set Ar123 qc123 S123 M123 Hh123 G123 (fits_nar_bool _) W124 10 rfl (Nat.le_of_ble_eq_true rfl)
  have sg127 : ∀ target, Steps p.tables e below (T124.setTop (mkF m 165 #[.val (.int p1), .val (.long q2), .second, .val (.int p3), .val (.ref b2), .unset, .unset, .unset, .unset, .unset, .unset, .unset, .unset, .unset, .unset, .unset, .unset, .unset, .unset] [(.int (0 : Int32)), (.int (11 : Int32)), (.ref b69), (.ref b69)])) target → Steps p.tables e below (T124.setTop (mkF m 161 #[.val (.int p1), .val (.long q2), .second, .val (.int p3), .val (.ref b2), .unset, .unset, .unset, .unset, .unset, .unset, .unset, .unset, .unset, .unset, .unset, .unset, .unset, .unset] [(.ref b69)])) target := by
    intro target kt
    show Steps p.tables e below (T124.setTop (mkF m 161 #[.val (.int p1), .val (.long q2), .second, .val (.int p3), .val (.ref b2), .unset, .unset, .unset, .unset, .unset, .unset, .unset, .unset, .unset, .unset, .unset, .unset, .unset, .unset] [(.ref b69)])) _
    refine XS.dup X124.here hx rfl (hb hby at_161) rfl rfl ?_
    show Steps p.tables e below (T124.setTop (mkF m 162 #[.val (.int p1), .val (.long q2), .second, .val (.int p3), .val (.ref b2), .unset, .unset, .unset, .unset, .unset, .unset, .unset, .unset, .unset, .unset, .unset, .unset, .unset, .unset] [(.ref b69), (.ref b69)])) _
    refine XS.bipush X124.here hx rfl (hb hby at_162) ?_
    show Steps p.tables e below (T124.setTop (mkF m 164 #[.val (.int p1), .val (.long q2), .second, .val (.int p3), .val (.ref b2), .unset, .unset, .unset, .unset, .unset, .unset, .unset, .unset, .unset, .unset, .unset, .unset, .unset, .unset] [(.int (11 : Int32)), (.ref b69), (.ref b69)])) _
    refine XS.iconst X124.here hx rfl (hb hby at_164) ?_
    exact kt
  obtain ⟨cl128, Ar128, qc128, S128, M128, Hh128, G128⟩ := id f126
  have hin128 : ¬ ((11 : Int32) < 0 ∨ cl128.slots.size ≤ ((11 : Int32)).toNatClampNeg) := inb_of S128 ⟨by decide, by decide⟩
  obtain ⟨T129, h129, X129, e129, W129, st129⟩ := stZ X124 hx hZ e124 Ar128 (j := (11 : Int32)) hin128 (g := (mkF m 165 #[.val (.int p1), .val (.long q2), .second, .val (.int p3), .val (.ref b2), .unset, .unset, .unset, .unset, .unset, .unset, .unset, .unset, .unset, .unset, .unset, .unset, .unset, .unset] [(.int (0 : Int32)), (.int (11 : Int32)), (.ref b69), (.ref b69)])) rfl rfl (hb hby at_165)
  have N129 := Fr.snoc X129 N124 g_b69
  have Zs129 : n0 ≤ h129.size := by rw [W129.size]; exact Zs124
  have f130 : Arv Z h129 b2 k2 .double (16 : Int32) [(.double (2355382605114769408 : UInt64)), (.double (2355382605114769407 : UInt64)), (.double (6858982232485265408 : UInt64)), (.double (6858982232485265409 : UInt64)), (.double (6858982232485265407 : UInt64)), (.double (2355382605114769409 : UInt64)), (.double (4607182418800017408 : UInt64)), (.double (0 : UInt64)), (.double (9223372036854775808 : UInt64)), (.double (13830554455654793216 : UInt64)), (.double (11578754641969545216 : UInt64)), (.double (9218868437227405311 : UInt64)), (.double (1 : UInt64)), (.double (6863485832112635904 : UInt64)), (.double (2350879005487398912 : UInt64)), (.double (16082354269340041216 : UInt64))] (.double (0 : UInt64)) := f125.other W129 ne_b2_b69
  have f131 : Arv Z h129 b69 k69 .boolean (16 : Int32) [(.int (nar .boolean (1 : Int32))), (.int (nar .boolean (0 : Int32))), (.int (nar .boolean (1 : Int32))), (.int (nar .boolean (0 : Int32))), (.int (nar .boolean (1 : Int32))), (.int (nar .boolean (1 : Int32))), (.int (nar .boolean (1 : Int32))), (.int (nar .boolean (0 : Int32))), (.int (nar .boolean (0 : Int32))), (.int (nar .boolean (0 : Int32))), (.int (nar .boolean (0 : Int32))), (.int (nar .boolean (0 : Int32))), (.int (0 : Int32)), (.int (0 : Int32)), (.int (0 : Int32)), (.int (0 : Int32))] (.int (0 : Int32)) := Arv.set Ar128 qc128 S128 M128 Hh128 G128 (fits_nar_bool _) W129 11 rfl (Nat.le_of_ble_eq_true rfl)
  have sg132 : ∀ target, Steps p.tables e below (T129.setTop (mkF m 170 #[.val (.int p1), .val (.long q2), .second, .val (.int p3), .val (.ref b2), .unset, .unset, .unset, .unset, .unset, .unset, .unset, .unset, .unset, .unset, .unset, .unset, .unset, .unset] [(.int (0 : Int32)), (.int (12 : Int32)), (.ref b69), (.ref b69)])) target → Steps p.tables e below (T129.setTop (mkF m 166 #[.val (.int p1), .val (.long q2), .second, .val (.int p3), .val (.ref b2), .unset, .unset, .unset, .unset, .unset, .unset, .unset, .unset, .unset, .unset, .unset, .unset, .unset, .unset] [(.ref b69)])) target := by
    intro target kt
    show Steps p.tables e below (T129.setTop (mkF m 166 #[.val (.int p1), .val (.long q2), .second, .val (.int p3), .val (.ref b2), .unset, .unset, .unset, .unset, .unset, .unset, .unset, .unset, .unset, .unset, .unset, .unset, .unset, .unset] [(.ref b69)])) _
    refine XS.dup X129.here hx rfl (hb hby at_166) rfl rfl ?_
    show Steps p.tables e below (T129.setTop (mkF m 167 #[.val (.int p1), .val (.long q2), .second, .val (.int p3), .val (.ref b2), .unset, .unset, .unset, .unset, .unset, .unset, .unset, .unset, .unset, .unset, .unset, .unset, .unset, .unset] [(.ref b69), (.ref b69)])) _
    refine XS.bipush X129.here hx rfl (hb hby at_167) ?_
    show Steps p.tables e below (T129.setTop (mkF m 169 #[.val (.int p1), .val (.long q2), .second, .val (.int p3), .val (.ref b2), .unset, .unset, .unset, .unset, .unset, .unset, .unset, .unset, .unset, .unset, .unset, .unset, .unset, .unset] [(.int (12 : Int32)), (.ref b69), (.ref b69)])) _
    refine XS.iconst X129.here hx rfl (hb hby at_169) ?_
    exact kt
  obtain ⟨cl133, Ar133, qc133, S133, M133, Hh133, G133⟩ := id f131
  have hin133 : ¬ ((12 : Int32) < 0 ∨ cl133.slots.size ≤ ((12 : Int32)).toNatClampNeg) := inb_of S133 ⟨by decide, by decide⟩
  obtain ⟨T134, h134, X134, e134, W134, st134⟩ := stZ X129 hx hZ e129 Ar133 (j := (12 : Int32)) hin133 (g := (mkF m 170 #[.val (.int p1), .val (.long q2), .second, .val (.int p3), .val (.ref b2), .unset, .unset, .unset, .unset, .unset, .unset, .unset, .unset, .unset, .unset, .unset, .unset, .unset, .unset] [(.int (0 : Int32)), (.int (12 : Int32)), (.ref b69), (.ref b69)])) rfl rfl (hb hby at_170)
  have N134 := Fr.snoc X134 N129 g_b69
  have Zs134 : n0 ≤ h134.size := by rw [W134.size]; exact Zs129
  have f135 : Arv Z h134 b2 k2 .double (16 : Int32) [(.double (2355382605114769408 : UInt64)), (.double (2355382605114769407 : UInt64)), (.double (6858982232485265408 : UInt64)), (.double (6858982232485265409 : UInt64)), (.double (6858982232485265407 : UInt64)), (.double (2355382605114769409 : UInt64)), (.double (4607182418800017408 : UInt64)), (.double (0 : UInt64)), (.double (9223372036854775808 : UInt64)), (.double (13830554455654793216 : UInt64)), (.double (11578754641969545216 : UInt64)), (.double (9218868437227405311 : UInt64)), (.double (1 : UInt64)), (.double (6863485832112635904 : UInt64)), (.double (2350879005487398912 : UInt64)), (.double (16082354269340041216 : UInt64))] (.double (0 : UInt64)) := f130.other W134 ne_b2_b69
  have f136 : Arv Z h134 b69 k69 .boolean (16 : Int32) [(.int (nar .boolean (1 : Int32))), (.int (nar .boolean (0 : Int32))), (.int (nar .boolean (1 : Int32))), (.int (nar .boolean (0 : Int32))), (.int (nar .boolean (1 : Int32))), (.int (nar .boolean (1 : Int32))), (.int (nar .boolean (1 : Int32))), (.int (nar .boolean (0 : Int32))), (.int (nar .boolean (0 : Int32))), (.int (nar .boolean (0 : Int32))), (.int (nar .boolean (0 : Int32))), (.int (nar .boolean (0 : Int32))), (.int (nar .boolean (0 : Int32))), (.int (0 : Int32)), (.int (0 : Int32)), (.int (0 : Int32))] (.int (0 : Int32)) := Arv.set Ar133 qc133 S133 M133 Hh133 G133 (fits_nar_bool _) W134 12 rfl (Nat.le_of_ble_eq_true rfl)
  have sg137 : ∀ target, Steps p.tables e below (T134.setTop (mkF m 175 #[.val (.int p1), .val (.long q2), .second, .val (.int p3), .val (.ref b2), .unset, .unset, .unset, .unset, .unset, .unset, .unset, .unset, .unset, .unset, .unset, .unset, .unset, .unset] [(.int (0 : Int32)), (.int (13 : Int32)), (.ref b69), (.ref b69)])) target → Steps p.tables e below (T134.setTop (mkF m 171 #[.val (.int p1), .val (.long q2), .second, .val (.int p3), .val (.ref b2), .unset, .unset, .unset, .unset, .unset, .unset, .unset, .unset, .unset, .unset, .unset, .unset, .unset, .unset] [(.ref b69)])) target := by
    intro target kt
    show Steps p.tables e below (T134.setTop (mkF m 171 #[.val (.int p1), .val (.long q2), .second, .val (.int p3), .val (.ref b2), .unset, .unset, .unset, .unset, .unset, .unset, .unset, .unset, .unset, .unset, .unset, .unset, .unset, .unset] [(.ref b69)])) _
    refine XS.dup X134.here hx rfl (hb hby at_171) rfl rfl ?_
    show Steps p.tables e below (T134.setTop (mkF m 172 #[.val (.int p1), .val (.long q2), .second, .val (.int p3), .val (.ref b2), .unset, .unset, .unset, .unset, .unset, .unset, .unset, .unset, .unset, .unset, .unset, .unset, .unset, .unset] [(.ref b69), (.ref b69)])) _
    refine XS.bipush X134.here hx rfl (hb hby at_172) ?_
    show Steps p.tables e below (T134.setTop (mkF m 174 #[.val (.int p1), .val (.long q2), .second, .val (.int p3), .val (.ref b2), .unset, .unset, .unset, .unset, .unset, .unset, .unset, .unset, .unset, .unset, .unset, .unset, .unset, .unset] [(.int (13 : Int32)), (.ref b69), (.ref b69)])) _
    refine XS.iconst X134.here hx rfl (hb hby at_174) ?_
    exact kt
  obtain ⟨cl138, Ar138, qc138, S138, M138, Hh138, G138⟩ := id f136
  have hin138 : ¬ ((13 : Int32) < 0 ∨ cl138.slots.size ≤ ((13 : Int32)).toNatClampNeg) := inb_of S138 ⟨by decide, by decide⟩
  obtain ⟨T139, h139, X139, e139, W139, st139⟩ := stZ X134 hx hZ e134 Ar138 (j := (13 : Int32)) hin138 (g := (mkF m 175 #[.val (.int p1), .val (.long q2), .second, .val (.int p3), .val (.ref b2), .unset, .unset, .unset, .unset, .unset, .unset, .unset, .unset, .unset, .unset, .unset, .unset, .unset, .unset] [(.int (0 : Int32)), (.int (13 : Int32)), (.ref b69), (.ref b69)])) rfl rfl (hb hby at_175)
  have N139 := Fr.snoc X139 N134 g_b69
  have Zs139 : n0 ≤ h139.size := by rw [W139.size]; exact Zs134
  have f140 : Arv Z h139 b2 k2 .double (16 : Int32) [(.double (2355382605114769408 : UInt64)), (.double (2355382605114769407 : UInt64)), (.double (6858982232485265408 : UInt64)), (.double (6858982232485265409 : UInt64)), (.double (6858982232485265407 : UInt64)), (.double (2355382605114769409 : UInt64)), (.double (4607182418800017408 : UInt64)), (.double (0 : UInt64)), (.double (9223372036854775808 : UInt64)), (.double (13830554455654793216 : UInt64)), (.double (11578754641969545216 : UInt64)), (.double (9218868437227405311 : UInt64)), (.double (1 : UInt64)), (.double (6863485832112635904 : UInt64)), (.double (2350879005487398912 : UInt64)), (.double (16082354269340041216 : UInt64))] (.double (0 : UInt64)) := f135.other W139 ne_b2_b69
  have f141 : Arv Z h139 b69 k69 .boolean (16 : Int32) [(.int (nar .boolean (1 : Int32))), (.int (nar .boolean (0 : Int32))), (.int (nar .boolean (1 : Int32))), (.int (nar .boolean (0 : Int32))), (.int (nar .boolean (1 : Int32))), (.int (nar .boolean (1 : Int32))), (.int (nar .boolean (1 : Int32))), (.int (nar .boolean (0 : Int32))), (.int (nar .boolean (0 : Int32))), (.int (nar .boolean (0 : Int32))), (.int (nar .boolean (0 : Int32))), (.int (nar .boolean (0 : Int32))), (.int (nar .boolean (0 : Int32))), (.int (nar .boolean (0 : Int32))), (.int (0 : Int32)), (.int (0 : Int32))] (.int (0 : Int32)) := Arv.set Ar138 qc138 S138 M138 Hh138 G138 (fits_nar_bool _) W139 13 rfl (Nat.le_of_ble_eq_true rfl)
  have sg142 : ∀ target, Steps p.tables e below (T139.setTop (mkF m 180 #[.val (.int p1), .val (.long q2), .second, .val (.int p3), .val (.ref b2), .unset, .unset, .unset, .unset, .unset, .unset, .unset, .unset, .unset, .unset, .unset, .unset, .unset, .unset] [(.int (0 : Int32)), (.int (14 : Int32)), (.ref b69), (.ref b69)])) target → Steps p.tables e below (T139.setTop (mkF m 176 #[.val (.int p1), .val (.long q2), .second, .val (.int p3), .val (.ref b2), .unset, .unset, .unset, .unset, .unset, .unset, .unset, .unset, .unset, .unset, .unset, .unset, .unset, .unset] [(.ref b69)])) target := by
    intro target kt
    show Steps p.tables e below (T139.setTop (mkF m 176 #[.val (.int p1), .val (.long q2), .second, .val (.int p3), .val (.ref b2), .unset, .unset, .unset, .unset, .unset, .unset, .unset, .unset, .unset, .unset, .unset, .unset, .unset, .unset] [(.ref b69)])) _
    refine XS.dup X139.here hx rfl (hb hby at_176) rfl rfl ?_
    show Steps p.tables e below (T139.setTop (mkF m 177 #[.val (.int p1), .val (.long q2), .second, .val (.int p3), .val (.ref b2), .unset, .unset, .unset, .unset, .unset, .unset, .unset, .unset, .unset, .unset, .unset, .unset, .unset, .unset] [(.ref b69), (.ref b69)])) _
    refine XS.bipush X139.here hx rfl (hb hby at_177) ?_
    show Steps p.tables e below (T139.setTop (mkF m 179 #[.val (.int p1), .val (.long q2), .second, .val (.int p3), .val (.ref b2), .unset, .unset, .unset, .unset, .unset, .unset, .unset, .unset, .unset, .unset, .unset, .unset, .unset, .unset] [(.int (14 : Int32)), (.ref b69), (.ref b69)])) _
    refine XS.iconst X139.here hx rfl (hb hby at_179) ?_
    exact kt
  obtain ⟨cl143, Ar143, qc143, S143, M143, Hh143, G143⟩ := id f141
  have hin143 : ¬ ((14 : Int32) < 0 ∨ cl143.slots.size ≤ ((14 : Int32)).toNatClampNeg) := inb_of S143 ⟨by decide, by decide⟩
  obtain ⟨T144, h144, X144, e144, W144, st144⟩ := stZ X139 hx hZ e139 Ar143 (j := (14 : Int32)) hin143 (g := (mkF m 180 #[.val (.int p1), .val (.long q2), .second, .val (.int p3), .val (.ref b2), .unset, .unset, .unset, .unset, .unset, .unset, .unset, .unset, .unset, .unset, .unset, .unset, .unset, .unset] [(.int (0 : Int32)), (.int (14 : Int32)), (.ref b69), (.ref b69)])) rfl rfl (hb hby at_180)
  have N144 := Fr.snoc X144 N139 g_b69
  have Zs144 : n0 ≤ h144.size := by rw [W144.size]; exact Zs139
  have f145 : Arv Z h144 b2 k2 .double (16 : Int32) [(.double (2355382605114769408 : UInt64)), (.double (2355382605114769407 : UInt64)), (.double (6858982232485265408 : UInt64)), (.double (6858982232485265409 : UInt64)), (.double (6858982232485265407 : UInt64)), (.double (2355382605114769409 : UInt64)), (.double (4607182418800017408 : UInt64)), (.double (0 : UInt64)), (.double (9223372036854775808 : UInt64)), (.double (13830554455654793216 : UInt64)), (.double (11578754641969545216 : UInt64)), (.double (9218868437227405311 : UInt64)), (.double (1 : UInt64)), (.double (6863485832112635904 : UInt64)), (.double (2350879005487398912 : UInt64)), (.double (16082354269340041216 : UInt64))] (.double (0 : UInt64)) := f140.other W144 ne_b2_b69
  have f146 : Arv Z h144 b69 k69 .boolean (16 : Int32) [(.int (nar .boolean (1 : Int32))), (.int (nar .boolean (0 : Int32))), (.int (nar .boolean (1 : Int32))), (.int (nar .boolean (0 : Int32))), (.int (nar .boolean (1 : Int32))), (.int (nar .boolean (1 : Int32))), (.int (nar .boolean (1 : Int32))), (.int (nar .boolean (0 : Int32))), (.int (nar .boolean (0 : Int32))), (.int (nar .boolean (0 : Int32))), (.int (nar .boolean (0 : Int32))), (.int (nar .boolean (0 : Int32))), (.int (nar .boolean (0 : Int32))), (.int (nar .boolean (0 : Int32))), (.int (nar .boolean (0 : Int32))), (.int (0 : Int32))] (.int (0 : Int32)) := Arv.set Ar143 qc143 S143 M143 Hh143 G143 (fits_nar_bool _) W144 14 rfl (Nat.le_of_ble_eq_true rfl)
  have sg147 : ∀ target, Steps p.tables e below (T144.setTop (mkF m 185 #[.val (.int p1), .val (.long q2), .second, .val (.int p3), .val (.ref b2), .unset, .unset, .unset, .unset, .unset, .unset, .unset, .unset, .unset, .unset, .unset, .unset, .unset, .unset] [(.int (0 : Int32)), (.int (15 : Int32)), (.ref b69), (.ref b69)])) target → Steps p.tables e below (T144.setTop (mkF m 181 #[.val (.int p1), .val (.long q2), .second, .val (.int p3), .val (.ref b2), .unset, .unset, .unset, .unset, .unset, .unset, .unset, .unset, .unset, .unset, .unset, .unset, .unset, .unset] [(.ref b69)])) target := by
    intro target kt
    show Steps p.tables e below (T144.setTop (mkF m 181 #[.val (.int p1), .val (.long q2), .second, .val (.int p3), .val (.ref b2), .unset, .unset, .unset, .unset, .unset, .unset, .unset, .unset, .unset, .unset, .unset, .unset, .unset, .unset] [(.ref b69)])) _
    refine XS.dup X144.here hx rfl (hb hby at_181) rfl rfl ?_
    show Steps p.tables e below (T144.setTop (mkF m 182 #[.val (.int p1), .val (.long q2), .second, .val (.int p3), .val (.ref b2), .unset, .unset, .unset, .unset, .unset, .unset, .unset, .unset, .unset, .unset, .unset, .unset, .unset, .unset] [(.ref b69), (.ref b69)])) _
    refine XS.bipush X144.here hx rfl (hb hby at_182) ?_
    show Steps p.tables e below (T144.setTop (mkF m 184 #[.val (.int p1), .val (.long q2), .second, .val (.int p3), .val (.ref b2), .unset, .unset, .unset, .unset, .unset, .unset, .unset, .unset, .unset, .unset, .unset, .unset, .unset, .unset] [(.int (15 : Int32)), (.ref b69), (.ref b69)])) _
    refine XS.iconst X144.here hx rfl (hb hby at_184) ?_
    exact kt
  obtain ⟨cl148, Ar148, qc148, S148, M148, Hh148, G148⟩ := id f146
  have hin148 : ¬ ((15 : Int32) < 0 ∨ cl148.slots.size ≤ ((15 : Int32)).toNatClampNeg) := inb_of S148 ⟨by decide, by decide⟩
  obtain ⟨T149, h149, X149, e149, W149, st149⟩ := stZ X144 hx hZ e144 Ar148 (j := (15 : Int32)) hin148 (g := (mkF m 185 #[.val (.int p1), .val (.long q2), .second, .val (.int p3), .val (.ref b2), .unset, .unset, .unset, .unset, .unset, .unset, .unset, .unset, .unset, .unset, .unset, .unset, .unset, .unset] [(.int (0 : Int32)), (.int (15 : Int32)), (.ref b69), (.ref b69)])) rfl rfl (hb hby at_185)
  have N149 := Fr.snoc X149 N144 g_b69
  have Zs149 : n0 ≤ h149.size := by rw [W149.size]; exact Zs144
  have f150 : Arv Z h149 b2 k2 .double (16 : Int32) [(.double (2355382605114769408 : UInt64)), (.double (2355382605114769407 : UInt64)), (.double (6858982232485265408 : UInt64)), (.double (6858982232485265409 : UInt64)), (.double (6858982232485265407 : UInt64)), (.double (2355382605114769409 : UInt64)), (.double (4607182418800017408 : UInt64)), (.double (0 : UInt64)), (.double (9223372036854775808 : UInt64)), (.double (13830554455654793216 : UInt64)), (.double (11578754641969545216 : UInt64)), (.double (9218868437227405311 : UInt64)), (.double (1 : UInt64)), (.double (6863485832112635904 : UInt64)), (.double (2350879005487398912 : UInt64)), (.double (16082354269340041216 : UInt64))] (.double (0 : UInt64)) := f145.other W149 ne_b2_b69
  have f151 : Arv Z h149 b69 k69 .boolean (16 : Int32) [(.int (nar .boolean (1 : Int32))), (.int (nar .boolean (0 : Int32))), (.int (nar .boolean (1 : Int32))), (.int (nar .boolean (0 : Int32))), (.int (nar .boolean (1 : Int32))), (.int (nar .boolean (1 : Int32))), (.int (nar .boolean (1 : Int32))), (.int (nar .boolean (0 : Int32))), (.int (nar .boolean (0 : Int32))), (.int (nar .boolean (0 : Int32))), (.int (nar .boolean (0 : Int32))), (.int (nar .boolean (0 : Int32))), (.int (nar .boolean (0 : Int32))), (.int (nar .boolean (0 : Int32))), (.int (nar .boolean (0 : Int32))), (.int (nar .boolean (0 : Int32)))] (.int (0 : Int32)) := Arv.set Ar148 qc148 S148 M148 Hh148 G148 (fits_nar_bool _) W149 15 rfl (Nat.le_of_ble_eq_true rfl)
  obtain ⟨tv, tb, ht1, ht2, ht3⟩ := own_tab _ (own_idx p1).2.2
  have hid := own_idx p1
  obtain ⟨t, ht, hP⟩ := own_P_val p3
  obtain ⟨i, ex, hi1, he1, he2, hx0⟩ := own_l2d q2
  have hlo := own_lo_val ht hP
  have hhi := own_hi_val ht hP
  have hc := own_core hi1 he1 he2 ht hx0 hP hlo hhi
  have sg152 : ∀ target, Steps p.tables e below (T149.setTop (mkF m 198 #[.val (.int p1), .val (.long q2), .second, .val (.int p3), .val (.ref b2), .val (.ref b69), .val (.int (p1 &&& (15 : Int32))), .unset, .unset, .unset, .unset, .unset, .unset, .unset, .unset, .unset, .unset, .unset, .unset] [(.int (p1 &&& (15 : Int32))), (.ref b2)])) target → Steps p.tables e below (T149.setTop (mkF m 186 #[.val (.int p1), .val (.long q2), .second, .val (.int p3), .val (.ref b2), .unset, .unset, .unset, .unset, .unset, .unset, .unset, .unset, .unset, .unset, .unset, .unset, .unset, .unset] [(.ref b69)])) target := by
    intro target kt
    show Steps p.tables e below (T149.setTop (mkF m 186 #[.val (.int p1), .val (.long q2), .second, .val (.int p3), .val (.ref b2), .unset, .unset, .unset, .unset, .unset, .unset, .unset, .unset, .unset, .unset, .unset, .unset, .unset, .unset] [(.ref b69)])) _
    refine XS.astore X149.here hx rfl (hb hby at_186) rfl rfl (l' := #[.val (.int p1), .val (.long q2), .second, .val (.int p3), .val (.ref b2), .val (.ref b69), .unset, .unset, .unset, .unset, .unset, .unset, .unset, .unset, .unset, .unset, .unset, .unset, .unset]) rfl ?_
    show Steps p.tables e below (T149.setTop (mkF m 188 #[.val (.int p1), .val (.long q2), .second, .val (.int p3), .val (.ref b2), .val (.ref b69), .unset, .unset, .unset, .unset, .unset, .unset, .unset, .unset, .unset, .unset, .unset, .unset, .unset] [])) _
    refine XS.iloadN X149.here hx rfl (hb hby at_188) rfl ?_
    show Steps p.tables e below (T149.setTop (mkF m 189 #[.val (.int p1), .val (.long q2), .second, .val (.int p3), .val (.ref b2), .val (.ref b69), .unset, .unset, .unset, .unset, .unset, .unset, .unset, .unset, .unset, .unset, .unset, .unset, .unset] [(.int p1)])) _
    refine XS.bipush X149.here hx rfl (hb hby at_189) ?_
    show Steps p.tables e below (T149.setTop (mkF m 191 #[.val (.int p1), .val (.long q2), .second, .val (.int p3), .val (.ref b2), .val (.ref b69), .unset, .unset, .unset, .unset, .unset, .unset, .unset, .unset, .unset, .unset, .unset, .unset, .unset] [(.int (15 : Int32)), (.int p1)])) _
    refine XS.iand X149.here hx rfl (hb hby at_191) rfl ?_
    show Steps p.tables e below (T149.setTop (mkF m 192 #[.val (.int p1), .val (.long q2), .second, .val (.int p3), .val (.ref b2), .val (.ref b69), .unset, .unset, .unset, .unset, .unset, .unset, .unset, .unset, .unset, .unset, .unset, .unset, .unset] [(.int (p1 &&& (15 : Int32)))])) _
    refine XS.istore X149.here hx rfl (hb hby at_192) rfl (l' := #[.val (.int p1), .val (.long q2), .second, .val (.int p3), .val (.ref b2), .val (.ref b69), .val (.int (p1 &&& (15 : Int32))), .unset, .unset, .unset, .unset, .unset, .unset, .unset, .unset, .unset, .unset, .unset, .unset]) rfl ?_
    show Steps p.tables e below (T149.setTop (mkF m 194 #[.val (.int p1), .val (.long q2), .second, .val (.int p3), .val (.ref b2), .val (.ref b69), .val (.int (p1 &&& (15 : Int32))), .unset, .unset, .unset, .unset, .unset, .unset, .unset, .unset, .unset, .unset, .unset, .unset] [])) _
    refine XS.aload X149.here hx rfl (hb hby at_194) rfl rfl ?_
    show Steps p.tables e below (T149.setTop (mkF m 196 #[.val (.int p1), .val (.long q2), .second, .val (.int p3), .val (.ref b2), .val (.ref b69), .val (.int (p1 &&& (15 : Int32))), .unset, .unset, .unset, .unset, .unset, .unset, .unset, .unset, .unset, .unset, .unset, .unset] [(.ref b2)])) _
    refine XS.iload X149.here hx rfl (hb hby at_196) rfl ?_
    exact kt
  obtain ⟨cl153, Ar153, -, S153, M153, Hh153, -⟩ := id f150
  have hin153 : ¬ ((p1 &&& (15 : Int32)) < 0 ∨ cl153.slots.size ≤ ((p1 &&& (15 : Int32))).toNatClampNeg) := inb_of S153 ⟨hid.1, hid.2.1⟩
  have hat153 : cl153.slots[((p1 &&& (15 : Int32))).toNatClampNeg]? = some (.double tv) := Hh153.at hin153 ht1
  have sg154 : ∀ target, Steps p.tables e below (T149.setTop (mkF m 199 #[.val (.int p1), .val (.long q2), .second, .val (.int p3), .val (.ref b2), .val (.ref b69), .val (.int (p1 &&& (15 : Int32))), .unset, .unset, .unset, .unset, .unset, .unset, .unset, .unset, .unset, .unset, .unset, .unset] [(.double tv)])) target → Steps p.tables e below (T149.setTop (mkF m 198 #[.val (.int p1), .val (.long q2), .second, .val (.int p3), .val (.ref b2), .val (.ref b69), .val (.int (p1 &&& (15 : Int32))), .unset, .unset, .unset, .unset, .unset, .unset, .unset, .unset, .unset, .unset, .unset, .unset] [(.int (p1 &&& (15 : Int32))), (.ref b2)])) target := by
    intro target kt
    show Steps p.tables e below (T149.setTop (mkF m 198 #[.val (.int p1), .val (.long q2), .second, .val (.int p3), .val (.ref b2), .val (.ref b69), .val (.int (p1 &&& (15 : Int32))), .unset, .unset, .unset, .unset, .unset, .unset, .unset, .unset, .unset, .unset, .unset, .unset] [(.int (p1 &&& (15 : Int32))), (.ref b2)])) _
    refine X149.daload hx (j := (p1 &&& (15 : Int32))) (v := (.double tv)) (by rw [e149]; exact Ar153.1) (State.isArrayOf_alike hZ.alike Ar153.2.1) Ar153.2.2 hin153 hat153 (g := (mkF m 198 #[.val (.int p1), .val (.long q2), .second, .val (.int p3), .val (.ref b2), .val (.ref b69), .val (.int (p1 &&& (15 : Int32))), .unset, .unset, .unset, .unset, .unset, .unset, .unset, .unset, .unset, .unset, .unset, .unset] [(.int (p1 &&& (15 : Int32))), (.ref b2)])) rfl rfl (hb hby at_198) _ ?_
    exact kt
  obtain ⟨LL155, X155, N155⟩ := own_pack X149 N149
  obtain ⟨_, _, ⟨T156, L156, k156, n156⟩, -, X156, ⟨Lc156, hQ156, l156, y156, z156⟩, st156⟩ := Jvm.LawKit.callS X155 hx (y := (⟨"com/example/mensura/mensura/DoubleDouble", "expands", "(D)Z"⟩ : MethodName)) hown (mvT hZ (hw _ (List.mem_of_getElem? (i := 16) rfl))) (mvT hZ (hw _ (List.mem_of_getElem? (i := 17) rfl))) (mvT hZ (hw _ (List.mem_of_getElem? (i := 18) rfl))) (mvT hZ (hw _ (List.mem_of_getElem? (i := 19) rfl))) (by decide) (backOf (W := 0) (rm1 l Z a0 hw [] tv h149 n0 Zs149 ) hZ (hw _ (List.mem_of_getElem? (i := 19) rfl)) (hw _ (List.mem_of_getElem? (i := 18) rfl)) (by decide) (by decide)) (g := (mkF m 199 #[.val (.int p1), .val (.long q2), .second, .val (.int p3), .val (.ref b2), .val (.ref b69), .val (.int (p1 &&& (15 : Int32))), .unset, .unset, .unset, .unset, .unset, .unset, .unset, .unset, .unset, .unset, .unset, .unset] [(.double tv)])) rfl (by rw [hml]; rfl) (argsL := [(.double tv)]) (rest := []) (lenOf pd_1 rfl) rfl (by show 2 * 0 + _ ≤ _; exact Nat.le_of_eq rfl) (hb hby at_199) (fun _ _ => ⟨rfl, e149, (by decide : 2 + 0 ≤ _), (by decide : 32 + 0 ≤ _)⟩)
  dsimp only [Pt.U, Pt.locs, Pt.cells, Pt.slots] at X156 l156 y156 z156 st156 hQ156
  subst l156 y156 z156
  obtain ⟨rfl, N156q, c156_0⟩ := hQ156
  have N156 := Fr.app N155 N156q
  have sg157 : ∀ target, Steps p.tables e below (T156.setTop (mkF m 206 #[.val (.int p1), .val (.long q2), .second, .val (.int p3), .val (.ref b2), .val (.ref b69), .val (.int (p1 &&& (15 : Int32))), .unset, .unset, .unset, .unset, .unset, .unset, .unset, .unset, .unset, .unset, .unset, .unset] [(.int (p1 &&& (15 : Int32))), (.ref b69), (.int (own_ex tv))])) target → Steps p.tables e below (T156.setTop (mkF m 202 #[.val (.int p1), .val (.long q2), .second, .val (.int p3), .val (.ref b2), .val (.ref b69), .val (.int (p1 &&& (15 : Int32))), .unset, .unset, .unset, .unset, .unset, .unset, .unset, .unset, .unset, .unset, .unset, .unset] [(.int (own_ex tv))])) target := by
    intro target kt
    show Steps p.tables e below (T156.setTop (mkF m 202 #[.val (.int p1), .val (.long q2), .second, .val (.int p3), .val (.ref b2), .val (.ref b69), .val (.int (p1 &&& (15 : Int32))), .unset, .unset, .unset, .unset, .unset, .unset, .unset, .unset, .unset, .unset, .unset, .unset] [(.int (own_ex tv))])) _
    refine XS.aload X156.here hx rfl (hb hby at_202) rfl rfl ?_
    show Steps p.tables e below (T156.setTop (mkF m 204 #[.val (.int p1), .val (.long q2), .second, .val (.int p3), .val (.ref b2), .val (.ref b69), .val (.int (p1 &&& (15 : Int32))), .unset, .unset, .unset, .unset, .unset, .unset, .unset, .unset, .unset, .unset, .unset, .unset] [(.ref b69), (.int (own_ex tv))])) _
    refine XS.iload X156.here hx rfl (hb hby at_204) rfl ?_
    exact kt
  obtain ⟨cl158, Ar158, -, S158, M158, Hh158, -⟩ := id f151
  have hin158 : ¬ ((p1 &&& (15 : Int32)) < 0 ∨ cl158.slots.size ≤ ((p1 &&& (15 : Int32))).toNatClampNeg) := inb_of S158 ⟨hid.1, hid.2.1⟩
  have hat158 : cl158.slots[((p1 &&& (15 : Int32))).toNatClampNeg]? = some (.int tb) := Hh158.at hin158 ht2
  have sg159 : ∀ target, Steps p.tables e below (T156.setTop (mkF m 258 #[.val (.int p1), .val (.long q2), .second, .val (.int p3), .val (.ref b2), .val (.ref b69), .val (.int (p1 &&& (15 : Int32))), .val (.int (1 : Int32)), .val (.int (own_t p3)), .val (.double (own_P p3)), .second, .val (.double (FP.l2d q2)), .second, .val (.double (own_lo p3)), .second, .val (.double (own_hi p3)), .second, .unset, .unset] [(.double (FP.dmul (FP.l2d q2) (own_lo p3)))])) target → Steps p.tables e below (T156.setTop (mkF m 206 #[.val (.int p1), .val (.long q2), .second, .val (.int p3), .val (.ref b2), .val (.ref b69), .val (.int (p1 &&& (15 : Int32))), .unset, .unset, .unset, .unset, .unset, .unset, .unset, .unset, .unset, .unset, .unset, .unset] [(.int (p1 &&& (15 : Int32))), (.ref b69), (.int (own_ex tv))])) target := by
    intro target kt
    show Steps p.tables e below (T156.setTop (mkF m 206 #[.val (.int p1), .val (.long q2), .second, .val (.int p3), .val (.ref b2), .val (.ref b69), .val (.int (p1 &&& (15 : Int32))), .unset, .unset, .unset, .unset, .unset, .unset, .unset, .unset, .unset, .unset, .unset, .unset] [(.int (p1 &&& (15 : Int32))), (.ref b69), (.int (own_ex tv))])) _
    refine X156.baloadBooleans hx (j := (p1 &&& (15 : Int32))) (v := (.int tb)) (by rw [c156_0]; exact Ar158.1) (State.isArrayOf_alike hZ.alike Ar158.2.1) Ar158.2.2 hin158 hat158 (g := (mkF m 206 #[.val (.int p1), .val (.long q2), .second, .val (.int p3), .val (.ref b2), .val (.ref b69), .val (.int (p1 &&& (15 : Int32))), .unset, .unset, .unset, .unset, .unset, .unset, .unset, .unset, .unset, .unset, .unset, .unset] [(.int (p1 &&& (15 : Int32))), (.ref b69), (.int (own_ex tv))])) rfl rfl (hb hby at_206) _ ?_
    show Steps p.tables e below (T156.setTop (mkF m 207 #[.val (.int p1), .val (.long q2), .second, .val (.int p3), .val (.ref b2), .val (.ref b69), .val (.int (p1 &&& (15 : Int32))), .unset, .unset, .unset, .unset, .unset, .unset, .unset, .unset, .unset, .unset, .unset, .unset] [(.int tb), (.int (own_ex tv))])) _
    refine XS.icmpNo X156.here hx rfl (hb hby at_207) rfl (teq (ht3 : (own_ex tv) = tb)).2 ?_
    show Steps p.tables e below (T156.setTop (mkF m 210 #[.val (.int p1), .val (.long q2), .second, .val (.int p3), .val (.ref b2), .val (.ref b69), .val (.int (p1 &&& (15 : Int32))), .unset, .unset, .unset, .unset, .unset, .unset, .unset, .unset, .unset, .unset, .unset, .unset] [])) _
    refine XS.iconst X156.here hx rfl (hb hby at_210) ?_
    show Steps p.tables e below (T156.setTop (mkF m 211 #[.val (.int p1), .val (.long q2), .second, .val (.int p3), .val (.ref b2), .val (.ref b69), .val (.int (p1 &&& (15 : Int32))), .unset, .unset, .unset, .unset, .unset, .unset, .unset, .unset, .unset, .unset, .unset, .unset] [(.int (1 : Int32))])) _
    refine XS.goto X156.here hx rfl (pc0 := 211) (pc' := 215) rfl (hb hby at_211) (by decide) (by decide) ?_
    show Steps p.tables e below (T156.setTop (mkF m 215 #[.val (.int p1), .val (.long q2), .second, .val (.int p3), .val (.ref b2), .val (.ref b69), .val (.int (p1 &&& (15 : Int32))), .unset, .unset, .unset, .unset, .unset, .unset, .unset, .unset, .unset, .unset, .unset, .unset] [(.int (1 : Int32))])) _
    refine XS.istore X156.here hx rfl (hb hby at_215) rfl (l' := #[.val (.int p1), .val (.long q2), .second, .val (.int p3), .val (.ref b2), .val (.ref b69), .val (.int (p1 &&& (15 : Int32))), .val (.int (1 : Int32)), .unset, .unset, .unset, .unset, .unset, .unset, .unset, .unset, .unset, .unset, .unset]) rfl ?_
    show Steps p.tables e below (T156.setTop (mkF m 217 #[.val (.int p1), .val (.long q2), .second, .val (.int p3), .val (.ref b2), .val (.ref b69), .val (.int (p1 &&& (15 : Int32))), .val (.int (1 : Int32)), .unset, .unset, .unset, .unset, .unset, .unset, .unset, .unset, .unset, .unset, .unset] [])) _
    refine XS.iloadN X156.here hx rfl (hb hby at_217) rfl ?_
    show Steps p.tables e below (T156.setTop (mkF m 218 #[.val (.int p1), .val (.long q2), .second, .val (.int p3), .val (.ref b2), .val (.ref b69), .val (.int (p1 &&& (15 : Int32))), .val (.int (1 : Int32)), .unset, .unset, .unset, .unset, .unset, .unset, .unset, .unset, .unset, .unset, .unset] [(.int p3)])) _
    refine X156.ldcInt hx hown (mvT hZ (hw _ (List.mem_of_getElem? (i := 22) rfl))) (g := (mkF m 218 #[.val (.int p1), .val (.long q2), .second, .val (.int p3), .val (.ref b2), .val (.ref b69), .val (.int (p1 &&& (15 : Int32))), .val (.int (1 : Int32)), .unset, .unset, .unset, .unset, .unset, .unset, .unset, .unset, .unset, .unset, .unset] [(.int p3)])) rfl (hb hby at_218) _ ?_
    show Steps p.tables e below (T156.setTop (mkF m 220 #[.val (.int p1), .val (.long q2), .second, .val (.int p3), .val (.ref b2), .val (.ref b69), .val (.int (p1 &&& (15 : Int32))), .val (.int (1 : Int32)), .unset, .unset, .unset, .unset, .unset, .unset, .unset, .unset, .unset, .unset, .unset] [(.int (2147483647 : Int32)), (.int p3)])) _
    refine XS.iand X156.here hx rfl (hb hby at_220) rfl ?_
    show Steps p.tables e below (T156.setTop (mkF m 221 #[.val (.int p1), .val (.long q2), .second, .val (.int p3), .val (.ref b2), .val (.ref b69), .val (.int (p1 &&& (15 : Int32))), .val (.int (1 : Int32)), .unset, .unset, .unset, .unset, .unset, .unset, .unset, .unset, .unset, .unset, .unset] [(.int (p3 &&& (2147483647 : Int32)))])) _
    refine XS.bipush X156.here hx rfl (hb hby at_221) ?_
    show Steps p.tables e below (T156.setTop (mkF m 223 #[.val (.int p1), .val (.long q2), .second, .val (.int p3), .val (.ref b2), .val (.ref b69), .val (.int (p1 &&& (15 : Int32))), .val (.int (1 : Int32)), .unset, .unset, .unset, .unset, .unset, .unset, .unset, .unset, .unset, .unset, .unset] [(.int (63 : Int32)), (.int (p3 &&& (2147483647 : Int32)))])) _
    refine iremM X156 hx rfl (hb hby at_223) rfl (by decide) ?_
    show Steps p.tables e below (T156.setTop (mkF m 224 #[.val (.int p1), .val (.long q2), .second, .val (.int p3), .val (.ref b2), .val (.ref b69), .val (.int (p1 &&& (15 : Int32))), .val (.int (1 : Int32)), .unset, .unset, .unset, .unset, .unset, .unset, .unset, .unset, .unset, .unset, .unset] [(.int (own_t p3))])) _
    refine XS.istore X156.here hx rfl (hb hby at_224) rfl (l' := #[.val (.int p1), .val (.long q2), .second, .val (.int p3), .val (.ref b2), .val (.ref b69), .val (.int (p1 &&& (15 : Int32))), .val (.int (1 : Int32)), .val (.int (own_t p3)), .unset, .unset, .unset, .unset, .unset, .unset, .unset, .unset, .unset, .unset]) rfl ?_
    show Steps p.tables e below (T156.setTop (mkF m 226 #[.val (.int p1), .val (.long q2), .second, .val (.int p3), .val (.ref b2), .val (.ref b69), .val (.int (p1 &&& (15 : Int32))), .val (.int (1 : Int32)), .val (.int (own_t p3)), .unset, .unset, .unset, .unset, .unset, .unset, .unset, .unset, .unset, .unset] [])) _
    refine XS.lconst X156.here hx rfl (hb hby at_226) ?_
    show Steps p.tables e below (T156.setTop (mkF m 227 #[.val (.int p1), .val (.long q2), .second, .val (.int p3), .val (.ref b2), .val (.ref b69), .val (.int (p1 &&& (15 : Int32))), .val (.int (1 : Int32)), .val (.int (own_t p3)), .unset, .unset, .unset, .unset, .unset, .unset, .unset, .unset, .unset, .unset] [(.long (1 : Int64))])) _
    refine XS.iload X156.here hx rfl (hb hby at_227) rfl ?_
    show Steps p.tables e below (T156.setTop (mkF m 229 #[.val (.int p1), .val (.long q2), .second, .val (.int p3), .val (.ref b2), .val (.ref b69), .val (.int (p1 &&& (15 : Int32))), .val (.int (1 : Int32)), .val (.int (own_t p3)), .unset, .unset, .unset, .unset, .unset, .unset, .unset, .unset, .unset, .unset] [(.int (own_t p3)), (.long (1 : Int64))])) _
    refine XS.lshl X156.here hx rfl (hb hby at_229) rfl ?_
    show Steps p.tables e below (T156.setTop (mkF m 230 #[.val (.int p1), .val (.long q2), .second, .val (.int p3), .val (.ref b2), .val (.ref b69), .val (.int (p1 &&& (15 : Int32))), .val (.int (1 : Int32)), .val (.int (own_t p3)), .unset, .unset, .unset, .unset, .unset, .unset, .unset, .unset, .unset, .unset] [(.long ((1 : Int64) <<< ((own_t p3) &&& 0x3f).toInt64))])) _
    refine XS.l2dS X156.here hx rfl (v := (own_P p3)) (hb hby at_230) rfl rfl ?_
    show Steps p.tables e below (T156.setTop (mkF m 231 #[.val (.int p1), .val (.long q2), .second, .val (.int p3), .val (.ref b2), .val (.ref b69), .val (.int (p1 &&& (15 : Int32))), .val (.int (1 : Int32)), .val (.int (own_t p3)), .unset, .unset, .unset, .unset, .unset, .unset, .unset, .unset, .unset, .unset] [(.double (own_P p3))])) _
    refine XS.dstore X156.here hx rfl (hb hby at_231) rfl (l' := #[.val (.int p1), .val (.long q2), .second, .val (.int p3), .val (.ref b2), .val (.ref b69), .val (.int (p1 &&& (15 : Int32))), .val (.int (1 : Int32)), .val (.int (own_t p3)), .val (.double (own_P p3)), .second, .unset, .unset, .unset, .unset, .unset, .unset, .unset, .unset]) rfl ?_
    show Steps p.tables e below (T156.setTop (mkF m 233 #[.val (.int p1), .val (.long q2), .second, .val (.int p3), .val (.ref b2), .val (.ref b69), .val (.int (p1 &&& (15 : Int32))), .val (.int (1 : Int32)), .val (.int (own_t p3)), .val (.double (own_P p3)), .second, .unset, .unset, .unset, .unset, .unset, .unset, .unset, .unset] [])) _
    refine XS.lloadN X156.here hx rfl (hb hby at_233) rfl ?_
    show Steps p.tables e below (T156.setTop (mkF m 234 #[.val (.int p1), .val (.long q2), .second, .val (.int p3), .val (.ref b2), .val (.ref b69), .val (.int (p1 &&& (15 : Int32))), .val (.int (1 : Int32)), .val (.int (own_t p3)), .val (.double (own_P p3)), .second, .unset, .unset, .unset, .unset, .unset, .unset, .unset, .unset] [(.long q2)])) _
    refine XS.l2dS X156.here hx rfl (v := (FP.l2d q2)) (hb hby at_234) rfl rfl ?_
    show Steps p.tables e below (T156.setTop (mkF m 235 #[.val (.int p1), .val (.long q2), .second, .val (.int p3), .val (.ref b2), .val (.ref b69), .val (.int (p1 &&& (15 : Int32))), .val (.int (1 : Int32)), .val (.int (own_t p3)), .val (.double (own_P p3)), .second, .unset, .unset, .unset, .unset, .unset, .unset, .unset, .unset] [(.double (FP.l2d q2))])) _
    refine XS.dstore X156.here hx rfl (hb hby at_235) rfl (l' := #[.val (.int p1), .val (.long q2), .second, .val (.int p3), .val (.ref b2), .val (.ref b69), .val (.int (p1 &&& (15 : Int32))), .val (.int (1 : Int32)), .val (.int (own_t p3)), .val (.double (own_P p3)), .second, .val (.double (FP.l2d q2)), .second, .unset, .unset, .unset, .unset, .unset, .unset]) rfl ?_
    show Steps p.tables e below (T156.setTop (mkF m 237 #[.val (.int p1), .val (.long q2), .second, .val (.int p3), .val (.ref b2), .val (.ref b69), .val (.int (p1 &&& (15 : Int32))), .val (.int (1 : Int32)), .val (.int (own_t p3)), .val (.double (own_P p3)), .second, .val (.double (FP.l2d q2)), .second, .unset, .unset, .unset, .unset, .unset, .unset] [])) _
    refine X156.ldc2DoubleC hx hown (mvT hZ (hw _ (List.mem_of_getElem? (i := 1) rfl))) (g := (mkF m 237 #[.val (.int p1), .val (.long q2), .second, .val (.int p3), .val (.ref b2), .val (.ref b69), .val (.int (p1 &&& (15 : Int32))), .val (.int (1 : Int32)), .val (.int (own_t p3)), .val (.double (own_P p3)), .second, .val (.double (FP.l2d q2)), .second, .unset, .unset, .unset, .unset, .unset, .unset] [])) rfl (hb hby at_237) _ ?_
    show Steps p.tables e below (T156.setTop (mkF m 240 #[.val (.int p1), .val (.long q2), .second, .val (.int p3), .val (.ref b2), .val (.ref b69), .val (.int (p1 &&& (15 : Int32))), .val (.int (1 : Int32)), .val (.int (own_t p3)), .val (.double (own_P p3)), .second, .val (.double (FP.l2d q2)), .second, .unset, .unset, .unset, .unset, .unset, .unset] [(.double (2355382605114769408 : UInt64))])) _
    refine XS.dload X156.here hx rfl (hb hby at_240) rfl ?_
    show Steps p.tables e below (T156.setTop (mkF m 242 #[.val (.int p1), .val (.long q2), .second, .val (.int p3), .val (.ref b2), .val (.ref b69), .val (.int (p1 &&& (15 : Int32))), .val (.int (1 : Int32)), .val (.int (own_t p3)), .val (.double (own_P p3)), .second, .val (.double (FP.l2d q2)), .second, .unset, .unset, .unset, .unset, .unset, .unset] [(.double (own_P p3)), (.double (2355382605114769408 : UInt64))])) _
    refine XS.ddivS X156.here hx rfl (v := (own_lo p3)) (hb hby at_242) rfl hlo.nn rfl ?_
    show Steps p.tables e below (T156.setTop (mkF m 243 #[.val (.int p1), .val (.long q2), .second, .val (.int p3), .val (.ref b2), .val (.ref b69), .val (.int (p1 &&& (15 : Int32))), .val (.int (1 : Int32)), .val (.int (own_t p3)), .val (.double (own_P p3)), .second, .val (.double (FP.l2d q2)), .second, .unset, .unset, .unset, .unset, .unset, .unset] [(.double (own_lo p3))])) _
    refine XS.dstore X156.here hx rfl (hb hby at_243) rfl (l' := #[.val (.int p1), .val (.long q2), .second, .val (.int p3), .val (.ref b2), .val (.ref b69), .val (.int (p1 &&& (15 : Int32))), .val (.int (1 : Int32)), .val (.int (own_t p3)), .val (.double (own_P p3)), .second, .val (.double (FP.l2d q2)), .second, .val (.double (own_lo p3)), .second, .unset, .unset, .unset, .unset]) rfl ?_
    show Steps p.tables e below (T156.setTop (mkF m 245 #[.val (.int p1), .val (.long q2), .second, .val (.int p3), .val (.ref b2), .val (.ref b69), .val (.int (p1 &&& (15 : Int32))), .val (.int (1 : Int32)), .val (.int (own_t p3)), .val (.double (own_P p3)), .second, .val (.double (FP.l2d q2)), .second, .val (.double (own_lo p3)), .second, .unset, .unset, .unset, .unset] [])) _
    refine X156.ldc2DoubleC hx hown (mvT hZ (hw _ (List.mem_of_getElem? (i := 3) rfl))) (g := (mkF m 245 #[.val (.int p1), .val (.long q2), .second, .val (.int p3), .val (.ref b2), .val (.ref b69), .val (.int (p1 &&& (15 : Int32))), .val (.int (1 : Int32)), .val (.int (own_t p3)), .val (.double (own_P p3)), .second, .val (.double (FP.l2d q2)), .second, .val (.double (own_lo p3)), .second, .unset, .unset, .unset, .unset] [])) rfl (hb hby at_245) _ ?_
    show Steps p.tables e below (T156.setTop (mkF m 248 #[.val (.int p1), .val (.long q2), .second, .val (.int p3), .val (.ref b2), .val (.ref b69), .val (.int (p1 &&& (15 : Int32))), .val (.int (1 : Int32)), .val (.int (own_t p3)), .val (.double (own_P p3)), .second, .val (.double (FP.l2d q2)), .second, .val (.double (own_lo p3)), .second, .unset, .unset, .unset, .unset] [(.double (6858982232485265408 : UInt64))])) _
    refine XS.dload X156.here hx rfl (hb hby at_248) rfl ?_
    show Steps p.tables e below (T156.setTop (mkF m 250 #[.val (.int p1), .val (.long q2), .second, .val (.int p3), .val (.ref b2), .val (.ref b69), .val (.int (p1 &&& (15 : Int32))), .val (.int (1 : Int32)), .val (.int (own_t p3)), .val (.double (own_P p3)), .second, .val (.double (FP.l2d q2)), .second, .val (.double (own_lo p3)), .second, .unset, .unset, .unset, .unset] [(.double (own_P p3)), (.double (6858982232485265408 : UInt64))])) _
    refine XS.ddivS X156.here hx rfl (v := (own_hi p3)) (hb hby at_250) rfl hhi.nn rfl ?_
    show Steps p.tables e below (T156.setTop (mkF m 251 #[.val (.int p1), .val (.long q2), .second, .val (.int p3), .val (.ref b2), .val (.ref b69), .val (.int (p1 &&& (15 : Int32))), .val (.int (1 : Int32)), .val (.int (own_t p3)), .val (.double (own_P p3)), .second, .val (.double (FP.l2d q2)), .second, .val (.double (own_lo p3)), .second, .unset, .unset, .unset, .unset] [(.double (own_hi p3))])) _
    refine XS.dstore X156.here hx rfl (hb hby at_251) rfl (l' := #[.val (.int p1), .val (.long q2), .second, .val (.int p3), .val (.ref b2), .val (.ref b69), .val (.int (p1 &&& (15 : Int32))), .val (.int (1 : Int32)), .val (.int (own_t p3)), .val (.double (own_P p3)), .second, .val (.double (FP.l2d q2)), .second, .val (.double (own_lo p3)), .second, .val (.double (own_hi p3)), .second, .unset, .unset]) rfl ?_
    show Steps p.tables e below (T156.setTop (mkF m 253 #[.val (.int p1), .val (.long q2), .second, .val (.int p3), .val (.ref b2), .val (.ref b69), .val (.int (p1 &&& (15 : Int32))), .val (.int (1 : Int32)), .val (.int (own_t p3)), .val (.double (own_P p3)), .second, .val (.double (FP.l2d q2)), .second, .val (.double (own_lo p3)), .second, .val (.double (own_hi p3)), .second, .unset, .unset] [])) _
    refine XS.dload X156.here hx rfl (hb hby at_253) rfl ?_
    show Steps p.tables e below (T156.setTop (mkF m 255 #[.val (.int p1), .val (.long q2), .second, .val (.int p3), .val (.ref b2), .val (.ref b69), .val (.int (p1 &&& (15 : Int32))), .val (.int (1 : Int32)), .val (.int (own_t p3)), .val (.double (own_P p3)), .second, .val (.double (FP.l2d q2)), .second, .val (.double (own_lo p3)), .second, .val (.double (own_hi p3)), .second, .unset, .unset] [(.double (FP.l2d q2))])) _
    refine XS.dload X156.here hx rfl (hb hby at_255) rfl ?_
    show Steps p.tables e below (T156.setTop (mkF m 257 #[.val (.int p1), .val (.long q2), .second, .val (.int p3), .val (.ref b2), .val (.ref b69), .val (.int (p1 &&& (15 : Int32))), .val (.int (1 : Int32)), .val (.int (own_t p3)), .val (.double (own_P p3)), .second, .val (.double (FP.l2d q2)), .second, .val (.double (own_lo p3)), .second, .val (.double (own_hi p3)), .second, .unset, .unset] [(.double (own_lo p3)), (.double (FP.l2d q2))])) _
    refine XS.dmulS X156.here hx rfl (v := (FP.dmul (FP.l2d q2) (own_lo p3))) (hb hby at_257) rfl hc.1 rfl ?_
    exact kt
  obtain ⟨_, _, ⟨T160, L160, k160, n160⟩, -, X160, ⟨Lc160, hQ160, l160, y160, z160⟩, st160⟩ := Jvm.LawKit.callS X156 hx (y := (⟨"com/example/mensura/mensura/DoubleDouble", "expands", "(D)Z"⟩ : MethodName)) hown (mvT hZ (hw _ (List.mem_of_getElem? (i := 16) rfl))) (mvT hZ (hw _ (List.mem_of_getElem? (i := 17) rfl))) (mvT hZ (hw _ (List.mem_of_getElem? (i := 18) rfl))) (mvT hZ (hw _ (List.mem_of_getElem? (i := 19) rfl))) (by decide) (backOf (W := 0) (rm1 l Z a0 hw [] (FP.dmul (FP.l2d q2) (own_lo p3)) h149 n0 Zs149 ) hZ (hw _ (List.mem_of_getElem? (i := 19) rfl)) (hw _ (List.mem_of_getElem? (i := 18) rfl)) (by decide) (by decide)) (g := (mkF m 258 #[.val (.int p1), .val (.long q2), .second, .val (.int p3), .val (.ref b2), .val (.ref b69), .val (.int (p1 &&& (15 : Int32))), .val (.int (1 : Int32)), .val (.int (own_t p3)), .val (.double (own_P p3)), .second, .val (.double (FP.l2d q2)), .second, .val (.double (own_lo p3)), .second, .val (.double (own_hi p3)), .second, .unset, .unset] [(.double (FP.dmul (FP.l2d q2) (own_lo p3)))])) rfl (by rw [hml]; rfl) (argsL := [(.double (FP.dmul (FP.l2d q2) (own_lo p3)))]) (rest := []) (lenOf pd_1 rfl) rfl (by show 2 * 0 + _ ≤ _; exact Nat.le_of_eq rfl) (hb hby at_258) (fun _ _ => ⟨rfl, c156_0, (by decide : 2 + 0 ≤ _), (by decide : 32 + 0 ≤ _)⟩)
  dsimp only [Pt.U, Pt.locs, Pt.cells, Pt.slots] at X160 l160 y160 z160 st160 hQ160
  subst l160 y160 z160
  obtain ⟨rfl, N160q, c160_0⟩ := hQ160
  have N160 := Fr.app N156 N160q
  have sg161 : ∀ target, Steps p.tables e below (T160.setTop (mkF m 266 #[.val (.int p1), .val (.long q2), .second, .val (.int p3), .val (.ref b2), .val (.ref b69), .val (.int (p1 &&& (15 : Int32))), .val (.int (1 : Int32)), .val (.int (own_t p3)), .val (.double (own_P p3)), .second, .val (.double (FP.l2d q2)), .second, .val (.double (own_lo p3)), .second, .val (.double (own_hi p3)), .second, .unset, .unset] [(.int (cmpValue (FP.dcmp (FP.l2d q2) (own_P p3)) .l)), (.int (own_ex (FP.dmul (FP.l2d q2) (own_lo p3))))])) target → Steps p.tables e below (T160.setTop (mkF m 261 #[.val (.int p1), .val (.long q2), .second, .val (.int p3), .val (.ref b2), .val (.ref b69), .val (.int (p1 &&& (15 : Int32))), .val (.int (1 : Int32)), .val (.int (own_t p3)), .val (.double (own_P p3)), .second, .val (.double (FP.l2d q2)), .second, .val (.double (own_lo p3)), .second, .val (.double (own_hi p3)), .second, .unset, .unset] [(.int (own_ex (FP.dmul (FP.l2d q2) (own_lo p3))))])) target := by
    intro target kt
    show Steps p.tables e below (T160.setTop (mkF m 261 #[.val (.int p1), .val (.long q2), .second, .val (.int p3), .val (.ref b2), .val (.ref b69), .val (.int (p1 &&& (15 : Int32))), .val (.int (1 : Int32)), .val (.int (own_t p3)), .val (.double (own_P p3)), .second, .val (.double (FP.l2d q2)), .second, .val (.double (own_lo p3)), .second, .val (.double (own_hi p3)), .second, .unset, .unset] [(.int (own_ex (FP.dmul (FP.l2d q2) (own_lo p3))))])) _
    refine XS.dload X160.here hx rfl (hb hby at_261) rfl ?_
    show Steps p.tables e below (T160.setTop (mkF m 263 #[.val (.int p1), .val (.long q2), .second, .val (.int p3), .val (.ref b2), .val (.ref b69), .val (.int (p1 &&& (15 : Int32))), .val (.int (1 : Int32)), .val (.int (own_t p3)), .val (.double (own_P p3)), .second, .val (.double (FP.l2d q2)), .second, .val (.double (own_lo p3)), .second, .val (.double (own_hi p3)), .second, .unset, .unset] [(.double (FP.l2d q2)), (.int (own_ex (FP.dmul (FP.l2d q2) (own_lo p3))))])) _
    refine XS.dload X160.here hx rfl (hb hby at_263) rfl ?_
    show Steps p.tables e below (T160.setTop (mkF m 265 #[.val (.int p1), .val (.long q2), .second, .val (.int p3), .val (.ref b2), .val (.ref b69), .val (.int (p1 &&& (15 : Int32))), .val (.int (1 : Int32)), .val (.int (own_t p3)), .val (.double (own_P p3)), .second, .val (.double (FP.l2d q2)), .second, .val (.double (own_lo p3)), .second, .val (.double (own_hi p3)), .second, .unset, .unset] [(.double (own_P p3)), (.double (FP.l2d q2)), (.int (own_ex (FP.dmul (FP.l2d q2) (own_lo p3))))])) _
    refine XS.dcmpS X160.here hx rfl (v := (cmpValue (FP.dcmp (FP.l2d q2) (own_P p3)) .l)) (hb hby at_265) rfl rfl ?_
    exact kt
  obtain ⟨j1, q_j1⟩ : ∃ z : Int32, z = (if (cmpValue (FP.dcmp (FP.l2d q2) (own_P p3)) .l) < (0 : Int32) then (0 : Int32) else (1 : Int32)) := ⟨_, rfl⟩
  have sg164 : ∀ target, Steps p.tables e below (T160.setTop (mkF m 274 #[.val (.int p1), .val (.long q2), .second, .val (.int p3), .val (.ref b2), .val (.ref b69), .val (.int (p1 &&& (15 : Int32))), .val (.int (1 : Int32)), .val (.int (own_t p3)), .val (.double (own_P p3)), .second, .val (.double (FP.l2d q2)), .second, .val (.double (own_lo p3)), .second, .val (.double (own_hi p3)), .second, .unset, .unset] [(.int j1), (.int (own_ex (FP.dmul (FP.l2d q2) (own_lo p3))))])) target → Steps p.tables e below (T160.setTop (mkF m 266 #[.val (.int p1), .val (.long q2), .second, .val (.int p3), .val (.ref b2), .val (.ref b69), .val (.int (p1 &&& (15 : Int32))), .val (.int (1 : Int32)), .val (.int (own_t p3)), .val (.double (own_P p3)), .second, .val (.double (FP.l2d q2)), .second, .val (.double (own_lo p3)), .second, .val (.double (own_hi p3)), .second, .unset, .unset] [(.int (cmpValue (FP.dcmp (FP.l2d q2) (own_P p3)) .l)), (.int (own_ex (FP.dmul (FP.l2d q2) (own_lo p3))))])) target := by
    intro target kt
    by_cases hj163_266 : (cmpValue (FP.dcmp (FP.l2d q2) (own_P p3)) .l) < (0 : Int32)
    · rw [if_pos hj163_266] at q_j1
      rw [q_j1] at kt
      show Steps p.tables e below (T160.setTop (mkF m 266 #[.val (.int p1), .val (.long q2), .second, .val (.int p3), .val (.ref b2), .val (.ref b69), .val (.int (p1 &&& (15 : Int32))), .val (.int (1 : Int32)), .val (.int (own_t p3)), .val (.double (own_P p3)), .second, .val (.double (FP.l2d q2)), .second, .val (.double (own_lo p3)), .second, .val (.double (own_hi p3)), .second, .unset, .unset] [(.int (cmpValue (FP.dcmp (FP.l2d q2) (own_P p3)) .l)), (.int (own_ex (FP.dmul (FP.l2d q2) (own_lo p3))))])) _
      refine XS.ifYes X160.here hx rfl (pc0 := 266) (pc' := 273) rfl (hb hby at_266) rfl ((if0 _ _).trans (tlt (hj163_266 : (cmpValue (FP.dcmp (FP.l2d q2) (own_P p3)) .l) < (0 : Int32))).1) (by decide) (by decide) ?_
      show Steps p.tables e below (T160.setTop (mkF m 273 #[.val (.int p1), .val (.long q2), .second, .val (.int p3), .val (.ref b2), .val (.ref b69), .val (.int (p1 &&& (15 : Int32))), .val (.int (1 : Int32)), .val (.int (own_t p3)), .val (.double (own_P p3)), .second, .val (.double (FP.l2d q2)), .second, .val (.double (own_lo p3)), .second, .val (.double (own_hi p3)), .second, .unset, .unset] [(.int (own_ex (FP.dmul (FP.l2d q2) (own_lo p3))))])) _
      refine XS.iconst X160.here hx rfl (hb hby at_273) ?_
      exact kt
    · rw [if_neg hj163_266] at q_j1
      rw [q_j1] at kt
      show Steps p.tables e below (T160.setTop (mkF m 266 #[.val (.int p1), .val (.long q2), .second, .val (.int p3), .val (.ref b2), .val (.ref b69), .val (.int (p1 &&& (15 : Int32))), .val (.int (1 : Int32)), .val (.int (own_t p3)), .val (.double (own_P p3)), .second, .val (.double (FP.l2d q2)), .second, .val (.double (own_lo p3)), .second, .val (.double (own_hi p3)), .second, .unset, .unset] [(.int (cmpValue (FP.dcmp (FP.l2d q2) (own_P p3)) .l)), (.int (own_ex (FP.dmul (FP.l2d q2) (own_lo p3))))])) _
      refine XS.ifNo X160.here hx rfl (hb hby at_266) rfl ((if0 _ _).trans (flt (hj163_266 : ¬ ((cmpValue (FP.dcmp (FP.l2d q2) (own_P p3)) .l) < (0 : Int32)))).1) ?_
      show Steps p.tables e below (T160.setTop (mkF m 269 #[.val (.int p1), .val (.long q2), .second, .val (.int p3), .val (.ref b2), .val (.ref b69), .val (.int (p1 &&& (15 : Int32))), .val (.int (1 : Int32)), .val (.int (own_t p3)), .val (.double (own_P p3)), .second, .val (.double (FP.l2d q2)), .second, .val (.double (own_lo p3)), .second, .val (.double (own_hi p3)), .second, .unset, .unset] [(.int (own_ex (FP.dmul (FP.l2d q2) (own_lo p3))))])) _
      refine XS.iconst X160.here hx rfl (hb hby at_269) ?_
      show Steps p.tables e below (T160.setTop (mkF m 270 #[.val (.int p1), .val (.long q2), .second, .val (.int p3), .val (.ref b2), .val (.ref b69), .val (.int (p1 &&& (15 : Int32))), .val (.int (1 : Int32)), .val (.int (own_t p3)), .val (.double (own_P p3)), .second, .val (.double (FP.l2d q2)), .second, .val (.double (own_lo p3)), .second, .val (.double (own_hi p3)), .second, .unset, .unset] [(.int (1 : Int32)), (.int (own_ex (FP.dmul (FP.l2d q2) (own_lo p3))))])) _
      refine XS.goto X160.here hx rfl (pc0 := 270) (pc' := 274) rfl (hb hby at_270) (by decide) (by decide) ?_
      exact kt
  have sg165 : ∀ target, Steps p.tables e below (T160.setTop (mkF m 289 #[.val (.int p1), .val (.long q2), .second, .val (.int p3), .val (.ref b2), .val (.ref b69), .val (.int (p1 &&& (15 : Int32))), .val (.int (1 : Int32)), .val (.int (own_t p3)), .val (.double (own_P p3)), .second, .val (.double (FP.l2d q2)), .second, .val (.double (own_lo p3)), .second, .val (.double (own_hi p3)), .second, .val (.int (1 : Int32)), .unset] [(.double (FP.dmul (FP.l2d q2) (own_hi p3)))])) target → Steps p.tables e below (T160.setTop (mkF m 274 #[.val (.int p1), .val (.long q2), .second, .val (.int p3), .val (.ref b2), .val (.ref b69), .val (.int (p1 &&& (15 : Int32))), .val (.int (1 : Int32)), .val (.int (own_t p3)), .val (.double (own_P p3)), .second, .val (.double (FP.l2d q2)), .second, .val (.double (own_lo p3)), .second, .val (.double (own_hi p3)), .second, .unset, .unset] [(.int j1), (.int (own_ex (FP.dmul (FP.l2d q2) (own_lo p3))))])) target := by
    intro target kt
    show Steps p.tables e below (T160.setTop (mkF m 274 #[.val (.int p1), .val (.long q2), .second, .val (.int p3), .val (.ref b2), .val (.ref b69), .val (.int (p1 &&& (15 : Int32))), .val (.int (1 : Int32)), .val (.int (own_t p3)), .val (.double (own_P p3)), .second, .val (.double (FP.l2d q2)), .second, .val (.double (own_lo p3)), .second, .val (.double (own_hi p3)), .second, .unset, .unset] [(.int j1), (.int (own_ex (FP.dmul (FP.l2d q2) (own_lo p3))))])) _
    refine XS.icmpNo X160.here hx rfl (hb hby at_274) rfl (teq (by rw [q_j1]; exact hc.2.2.1 : (own_ex (FP.dmul (FP.l2d q2) (own_lo p3))) = j1)).2 ?_
    show Steps p.tables e below (T160.setTop (mkF m 277 #[.val (.int p1), .val (.long q2), .second, .val (.int p3), .val (.ref b2), .val (.ref b69), .val (.int (p1 &&& (15 : Int32))), .val (.int (1 : Int32)), .val (.int (own_t p3)), .val (.double (own_P p3)), .second, .val (.double (FP.l2d q2)), .second, .val (.double (own_lo p3)), .second, .val (.double (own_hi p3)), .second, .unset, .unset] [])) _
    refine XS.iconst X160.here hx rfl (hb hby at_277) ?_
    show Steps p.tables e below (T160.setTop (mkF m 278 #[.val (.int p1), .val (.long q2), .second, .val (.int p3), .val (.ref b2), .val (.ref b69), .val (.int (p1 &&& (15 : Int32))), .val (.int (1 : Int32)), .val (.int (own_t p3)), .val (.double (own_P p3)), .second, .val (.double (FP.l2d q2)), .second, .val (.double (own_lo p3)), .second, .val (.double (own_hi p3)), .second, .unset, .unset] [(.int (1 : Int32))])) _
    refine XS.goto X160.here hx rfl (pc0 := 278) (pc' := 282) rfl (hb hby at_278) (by decide) (by decide) ?_
    show Steps p.tables e below (T160.setTop (mkF m 282 #[.val (.int p1), .val (.long q2), .second, .val (.int p3), .val (.ref b2), .val (.ref b69), .val (.int (p1 &&& (15 : Int32))), .val (.int (1 : Int32)), .val (.int (own_t p3)), .val (.double (own_P p3)), .second, .val (.double (FP.l2d q2)), .second, .val (.double (own_lo p3)), .second, .val (.double (own_hi p3)), .second, .unset, .unset] [(.int (1 : Int32))])) _
    refine XS.istore X160.here hx rfl (hb hby at_282) rfl (l' := #[.val (.int p1), .val (.long q2), .second, .val (.int p3), .val (.ref b2), .val (.ref b69), .val (.int (p1 &&& (15 : Int32))), .val (.int (1 : Int32)), .val (.int (own_t p3)), .val (.double (own_P p3)), .second, .val (.double (FP.l2d q2)), .second, .val (.double (own_lo p3)), .second, .val (.double (own_hi p3)), .second, .val (.int (1 : Int32)), .unset]) rfl ?_
    show Steps p.tables e below (T160.setTop (mkF m 284 #[.val (.int p1), .val (.long q2), .second, .val (.int p3), .val (.ref b2), .val (.ref b69), .val (.int (p1 &&& (15 : Int32))), .val (.int (1 : Int32)), .val (.int (own_t p3)), .val (.double (own_P p3)), .second, .val (.double (FP.l2d q2)), .second, .val (.double (own_lo p3)), .second, .val (.double (own_hi p3)), .second, .val (.int (1 : Int32)), .unset] [])) _
    refine XS.dload X160.here hx rfl (hb hby at_284) rfl ?_
    show Steps p.tables e below (T160.setTop (mkF m 286 #[.val (.int p1), .val (.long q2), .second, .val (.int p3), .val (.ref b2), .val (.ref b69), .val (.int (p1 &&& (15 : Int32))), .val (.int (1 : Int32)), .val (.int (own_t p3)), .val (.double (own_P p3)), .second, .val (.double (FP.l2d q2)), .second, .val (.double (own_lo p3)), .second, .val (.double (own_hi p3)), .second, .val (.int (1 : Int32)), .unset] [(.double (FP.l2d q2))])) _
    refine XS.dload X160.here hx rfl (hb hby at_286) rfl ?_
    show Steps p.tables e below (T160.setTop (mkF m 288 #[.val (.int p1), .val (.long q2), .second, .val (.int p3), .val (.ref b2), .val (.ref b69), .val (.int (p1 &&& (15 : Int32))), .val (.int (1 : Int32)), .val (.int (own_t p3)), .val (.double (own_P p3)), .second, .val (.double (FP.l2d q2)), .second, .val (.double (own_lo p3)), .second, .val (.double (own_hi p3)), .second, .val (.int (1 : Int32)), .unset] [(.double (own_hi p3)), (.double (FP.l2d q2))])) _
    refine XS.dmulS X160.here hx rfl (v := (FP.dmul (FP.l2d q2) (own_hi p3))) (hb hby at_288) rfl hc.2.1 rfl ?_
    exact kt
  obtain ⟨_, _, ⟨T166, L166, k166, n166⟩, -, X166, ⟨Lc166, hQ166, l166, y166, z166⟩, st166⟩ := Jvm.LawKit.callS X160 hx (y := (⟨"com/example/mensura/mensura/DoubleDouble", "expands", "(D)Z"⟩ : MethodName)) hown (mvT hZ (hw _ (List.mem_of_getElem? (i := 16) rfl))) (mvT hZ (hw _ (List.mem_of_getElem? (i := 17) rfl))) (mvT hZ (hw _ (List.mem_of_getElem? (i := 18) rfl))) (mvT hZ (hw _ (List.mem_of_getElem? (i := 19) rfl))) (by decide) (backOf (W := 0) (rm1 l Z a0 hw [] (FP.dmul (FP.l2d q2) (own_hi p3)) h149 n0 Zs149 ) hZ (hw _ (List.mem_of_getElem? (i := 19) rfl)) (hw _ (List.mem_of_getElem? (i := 18) rfl)) (by decide) (by decide)) (g := (mkF m 289 #[.val (.int p1), .val (.long q2), .second, .val (.int p3), .val (.ref b2), .val (.ref b69), .val (.int (p1 &&& (15 : Int32))), .val (.int (1 : Int32)), .val (.int (own_t p3)), .val (.double (own_P p3)), .second, .val (.double (FP.l2d q2)), .second, .val (.double (own_lo p3)), .second, .val (.double (own_hi p3)), .second, .val (.int (1 : Int32)), .unset] [(.double (FP.dmul (FP.l2d q2) (own_hi p3)))])) rfl (by rw [hml]; rfl) (argsL := [(.double (FP.dmul (FP.l2d q2) (own_hi p3)))]) (rest := []) (lenOf pd_1 rfl) rfl (by show 2 * 0 + _ ≤ _; exact Nat.le_of_eq rfl) (hb hby at_289) (fun _ _ => ⟨rfl, c160_0, (by decide : 2 + 0 ≤ _), (by decide : 32 + 0 ≤ _)⟩)
  dsimp only [Pt.U, Pt.locs, Pt.cells, Pt.slots] at X166 l166 y166 z166 st166 hQ166
  subst l166 y166 z166
  obtain ⟨rfl, N166q, c166_0⟩ := hQ166
  have N166 := Fr.app N160 N166q
  have sg167 : ∀ target, Steps p.tables e below (T166.setTop (mkF m 296 #[.val (.int p1), .val (.long q2), .second, .val (.int p3), .val (.ref b2), .val (.ref b69), .val (.int (p1 &&& (15 : Int32))), .val (.int (1 : Int32)), .val (.int (own_t p3)), .val (.double (own_P p3)), .second, .val (.double (FP.l2d q2)), .second, .val (.double (own_lo p3)), .second, .val (.double (own_hi p3)), .second, .val (.int (1 : Int32)), .unset] [(.int (cmpValue (FP.dcmp (FP.l2d q2) (0 : UInt64)) .l)), (.int (own_ex (FP.dmul (FP.l2d q2) (own_hi p3))))])) target → Steps p.tables e below (T166.setTop (mkF m 292 #[.val (.int p1), .val (.long q2), .second, .val (.int p3), .val (.ref b2), .val (.ref b69), .val (.int (p1 &&& (15 : Int32))), .val (.int (1 : Int32)), .val (.int (own_t p3)), .val (.double (own_P p3)), .second, .val (.double (FP.l2d q2)), .second, .val (.double (own_lo p3)), .second, .val (.double (own_hi p3)), .second, .val (.int (1 : Int32)), .unset] [(.int (own_ex (FP.dmul (FP.l2d q2) (own_hi p3))))])) target := by
    intro target kt
    show Steps p.tables e below (T166.setTop (mkF m 292 #[.val (.int p1), .val (.long q2), .second, .val (.int p3), .val (.ref b2), .val (.ref b69), .val (.int (p1 &&& (15 : Int32))), .val (.int (1 : Int32)), .val (.int (own_t p3)), .val (.double (own_P p3)), .second, .val (.double (FP.l2d q2)), .second, .val (.double (own_lo p3)), .second, .val (.double (own_hi p3)), .second, .val (.int (1 : Int32)), .unset] [(.int (own_ex (FP.dmul (FP.l2d q2) (own_hi p3))))])) _
    refine XS.dload X166.here hx rfl (hb hby at_292) rfl ?_
    show Steps p.tables e below (T166.setTop (mkF m 294 #[.val (.int p1), .val (.long q2), .second, .val (.int p3), .val (.ref b2), .val (.ref b69), .val (.int (p1 &&& (15 : Int32))), .val (.int (1 : Int32)), .val (.int (own_t p3)), .val (.double (own_P p3)), .second, .val (.double (FP.l2d q2)), .second, .val (.double (own_lo p3)), .second, .val (.double (own_hi p3)), .second, .val (.int (1 : Int32)), .unset] [(.double (FP.l2d q2)), (.int (own_ex (FP.dmul (FP.l2d q2) (own_hi p3))))])) _
    refine XS.dconst0 X166.here hx rfl (v := (0 : UInt64)) (hb hby at_294) rfl ?_
    show Steps p.tables e below (T166.setTop (mkF m 295 #[.val (.int p1), .val (.long q2), .second, .val (.int p3), .val (.ref b2), .val (.ref b69), .val (.int (p1 &&& (15 : Int32))), .val (.int (1 : Int32)), .val (.int (own_t p3)), .val (.double (own_P p3)), .second, .val (.double (FP.l2d q2)), .second, .val (.double (own_lo p3)), .second, .val (.double (own_hi p3)), .second, .val (.int (1 : Int32)), .unset] [(.double (0 : UInt64)), (.double (FP.l2d q2)), (.int (own_ex (FP.dmul (FP.l2d q2) (own_hi p3))))])) _
    refine XS.dcmpS X166.here hx rfl (v := (cmpValue (FP.dcmp (FP.l2d q2) (0 : UInt64)) .l)) (hb hby at_295) rfl rfl ?_
    exact kt
  obtain ⟨j2, q_j2⟩ : ∃ z : Int32, z = (if (0 : Int32) < (cmpValue (FP.dcmp (FP.l2d q2) (0 : UInt64)) .l) then (if (0 : Int32) < (cmpValue (FP.dcmp (FP.l2d q2) (own_P p3)) .g) then (0 : Int32) else (1 : Int32)) else (0 : Int32)) := ⟨_, rfl⟩
  have sg171 : ∀ target, Steps p.tables e below (T166.setTop (mkF m 312 #[.val (.int p1), .val (.long q2), .second, .val (.int p3), .val (.ref b2), .val (.ref b69), .val (.int (p1 &&& (15 : Int32))), .val (.int (1 : Int32)), .val (.int (own_t p3)), .val (.double (own_P p3)), .second, .val (.double (FP.l2d q2)), .second, .val (.double (own_lo p3)), .second, .val (.double (own_hi p3)), .second, .val (.int (1 : Int32)), .unset] [(.int j2), (.int (own_ex (FP.dmul (FP.l2d q2) (own_hi p3))))])) target → Steps p.tables e below (T166.setTop (mkF m 296 #[.val (.int p1), .val (.long q2), .second, .val (.int p3), .val (.ref b2), .val (.ref b69), .val (.int (p1 &&& (15 : Int32))), .val (.int (1 : Int32)), .val (.int (own_t p3)), .val (.double (own_P p3)), .second, .val (.double (FP.l2d q2)), .second, .val (.double (own_lo p3)), .second, .val (.double (own_hi p3)), .second, .val (.int (1 : Int32)), .unset] [(.int (cmpValue (FP.dcmp (FP.l2d q2) (0 : UInt64)) .l)), (.int (own_ex (FP.dmul (FP.l2d q2) (own_hi p3))))])) target := by
    intro target kt
    by_cases hj169_296 : (0 : Int32) < (cmpValue (FP.dcmp (FP.l2d q2) (0 : UInt64)) .l)
    · by_cases hj170_304 : (0 : Int32) < (cmpValue (FP.dcmp (FP.l2d q2) (own_P p3)) .g)
      · rw [if_pos hj169_296, if_pos hj170_304] at q_j2
        rw [q_j2] at kt
        show Steps p.tables e below (T166.setTop (mkF m 296 #[.val (.int p1), .val (.long q2), .second, .val (.int p3), .val (.ref b2), .val (.ref b69), .val (.int (p1 &&& (15 : Int32))), .val (.int (1 : Int32)), .val (.int (own_t p3)), .val (.double (own_P p3)), .second, .val (.double (FP.l2d q2)), .second, .val (.double (own_lo p3)), .second, .val (.double (own_hi p3)), .second, .val (.int (1 : Int32)), .unset] [(.int (cmpValue (FP.dcmp (FP.l2d q2) (0 : UInt64)) .l)), (.int (own_ex (FP.dmul (FP.l2d q2) (own_hi p3))))])) _
        refine XS.ifNo X166.here hx rfl (hb hby at_296) rfl ((if0 _ _).trans (tlt (hj169_296 : (0 : Int32) < (cmpValue (FP.dcmp (FP.l2d q2) (0 : UInt64)) .l))).2.2.2) ?_
        show Steps p.tables e below (T166.setTop (mkF m 299 #[.val (.int p1), .val (.long q2), .second, .val (.int p3), .val (.ref b2), .val (.ref b69), .val (.int (p1 &&& (15 : Int32))), .val (.int (1 : Int32)), .val (.int (own_t p3)), .val (.double (own_P p3)), .second, .val (.double (FP.l2d q2)), .second, .val (.double (own_lo p3)), .second, .val (.double (own_hi p3)), .second, .val (.int (1 : Int32)), .unset] [(.int (own_ex (FP.dmul (FP.l2d q2) (own_hi p3))))])) _
        refine XS.dload X166.here hx rfl (hb hby at_299) rfl ?_
        show Steps p.tables e below (T166.setTop (mkF m 301 #[.val (.int p1), .val (.long q2), .second, .val (.int p3), .val (.ref b2), .val (.ref b69), .val (.int (p1 &&& (15 : Int32))), .val (.int (1 : Int32)), .val (.int (own_t p3)), .val (.double (own_P p3)), .second, .val (.double (FP.l2d q2)), .second, .val (.double (own_lo p3)), .second, .val (.double (own_hi p3)), .second, .val (.int (1 : Int32)), .unset] [(.double (FP.l2d q2)), (.int (own_ex (FP.dmul (FP.l2d q2) (own_hi p3))))])) _
        refine XS.dload X166.here hx rfl (hb hby at_301) rfl ?_
        show Steps p.tables e below (T166.setTop (mkF m 303 #[.val (.int p1), .val (.long q2), .second, .val (.int p3), .val (.ref b2), .val (.ref b69), .val (.int (p1 &&& (15 : Int32))), .val (.int (1 : Int32)), .val (.int (own_t p3)), .val (.double (own_P p3)), .second, .val (.double (FP.l2d q2)), .second, .val (.double (own_lo p3)), .second, .val (.double (own_hi p3)), .second, .val (.int (1 : Int32)), .unset] [(.double (own_P p3)), (.double (FP.l2d q2)), (.int (own_ex (FP.dmul (FP.l2d q2) (own_hi p3))))])) _
        refine XS.dcmpS X166.here hx rfl (v := (cmpValue (FP.dcmp (FP.l2d q2) (own_P p3)) .g)) (hb hby at_303) rfl rfl ?_
        show Steps p.tables e below (T166.setTop (mkF m 304 #[.val (.int p1), .val (.long q2), .second, .val (.int p3), .val (.ref b2), .val (.ref b69), .val (.int (p1 &&& (15 : Int32))), .val (.int (1 : Int32)), .val (.int (own_t p3)), .val (.double (own_P p3)), .second, .val (.double (FP.l2d q2)), .second, .val (.double (own_lo p3)), .second, .val (.double (own_hi p3)), .second, .val (.int (1 : Int32)), .unset] [(.int (cmpValue (FP.dcmp (FP.l2d q2) (own_P p3)) .g)), (.int (own_ex (FP.dmul (FP.l2d q2) (own_hi p3))))])) _
        refine XS.ifYes X166.here hx rfl (pc0 := 304) (pc' := 311) rfl (hb hby at_304) rfl ((if0 _ _).trans (tlt (hj170_304 : (0 : Int32) < (cmpValue (FP.dcmp (FP.l2d q2) (own_P p3)) .g))).2.2.1) (by decide) (by decide) ?_
        show Steps p.tables e below (T166.setTop (mkF m 311 #[.val (.int p1), .val (.long q2), .second, .val (.int p3), .val (.ref b2), .val (.ref b69), .val (.int (p1 &&& (15 : Int32))), .val (.int (1 : Int32)), .val (.int (own_t p3)), .val (.double (own_P p3)), .second, .val (.double (FP.l2d q2)), .second, .val (.double (own_lo p3)), .second, .val (.double (own_hi p3)), .second, .val (.int (1 : Int32)), .unset] [(.int (own_ex (FP.dmul (FP.l2d q2) (own_hi p3))))])) _
        refine XS.iconst X166.here hx rfl (hb hby at_311) ?_
        exact kt
      · rw [if_pos hj169_296, if_neg hj170_304] at q_j2
        rw [q_j2] at kt
        show Steps p.tables e below (T166.setTop (mkF m 296 #[.val (.int p1), .val (.long q2), .second, .val (.int p3), .val (.ref b2), .val (.ref b69), .val (.int (p1 &&& (15 : Int32))), .val (.int (1 : Int32)), .val (.int (own_t p3)), .val (.double (own_P p3)), .second, .val (.double (FP.l2d q2)), .second, .val (.double (own_lo p3)), .second, .val (.double (own_hi p3)), .second, .val (.int (1 : Int32)), .unset] [(.int (cmpValue (FP.dcmp (FP.l2d q2) (0 : UInt64)) .l)), (.int (own_ex (FP.dmul (FP.l2d q2) (own_hi p3))))])) _
        refine XS.ifNo X166.here hx rfl (hb hby at_296) rfl ((if0 _ _).trans (tlt (hj169_296 : (0 : Int32) < (cmpValue (FP.dcmp (FP.l2d q2) (0 : UInt64)) .l))).2.2.2) ?_
        show Steps p.tables e below (T166.setTop (mkF m 299 #[.val (.int p1), .val (.long q2), .second, .val (.int p3), .val (.ref b2), .val (.ref b69), .val (.int (p1 &&& (15 : Int32))), .val (.int (1 : Int32)), .val (.int (own_t p3)), .val (.double (own_P p3)), .second, .val (.double (FP.l2d q2)), .second, .val (.double (own_lo p3)), .second, .val (.double (own_hi p3)), .second, .val (.int (1 : Int32)), .unset] [(.int (own_ex (FP.dmul (FP.l2d q2) (own_hi p3))))])) _
        refine XS.dload X166.here hx rfl (hb hby at_299) rfl ?_
        show Steps p.tables e below (T166.setTop (mkF m 301 #[.val (.int p1), .val (.long q2), .second, .val (.int p3), .val (.ref b2), .val (.ref b69), .val (.int (p1 &&& (15 : Int32))), .val (.int (1 : Int32)), .val (.int (own_t p3)), .val (.double (own_P p3)), .second, .val (.double (FP.l2d q2)), .second, .val (.double (own_lo p3)), .second, .val (.double (own_hi p3)), .second, .val (.int (1 : Int32)), .unset] [(.double (FP.l2d q2)), (.int (own_ex (FP.dmul (FP.l2d q2) (own_hi p3))))])) _
        refine XS.dload X166.here hx rfl (hb hby at_301) rfl ?_
        show Steps p.tables e below (T166.setTop (mkF m 303 #[.val (.int p1), .val (.long q2), .second, .val (.int p3), .val (.ref b2), .val (.ref b69), .val (.int (p1 &&& (15 : Int32))), .val (.int (1 : Int32)), .val (.int (own_t p3)), .val (.double (own_P p3)), .second, .val (.double (FP.l2d q2)), .second, .val (.double (own_lo p3)), .second, .val (.double (own_hi p3)), .second, .val (.int (1 : Int32)), .unset] [(.double (own_P p3)), (.double (FP.l2d q2)), (.int (own_ex (FP.dmul (FP.l2d q2) (own_hi p3))))])) _
        refine XS.dcmpS X166.here hx rfl (v := (cmpValue (FP.dcmp (FP.l2d q2) (own_P p3)) .g)) (hb hby at_303) rfl rfl ?_
        show Steps p.tables e below (T166.setTop (mkF m 304 #[.val (.int p1), .val (.long q2), .second, .val (.int p3), .val (.ref b2), .val (.ref b69), .val (.int (p1 &&& (15 : Int32))), .val (.int (1 : Int32)), .val (.int (own_t p3)), .val (.double (own_P p3)), .second, .val (.double (FP.l2d q2)), .second, .val (.double (own_lo p3)), .second, .val (.double (own_hi p3)), .second, .val (.int (1 : Int32)), .unset] [(.int (cmpValue (FP.dcmp (FP.l2d q2) (own_P p3)) .g)), (.int (own_ex (FP.dmul (FP.l2d q2) (own_hi p3))))])) _
        refine XS.ifNo X166.here hx rfl (hb hby at_304) rfl ((if0 _ _).trans (flt (hj170_304 : ¬ ((0 : Int32) < (cmpValue (FP.dcmp (FP.l2d q2) (own_P p3)) .g)))).2.2.1) ?_
        show Steps p.tables e below (T166.setTop (mkF m 307 #[.val (.int p1), .val (.long q2), .second, .val (.int p3), .val (.ref b2), .val (.ref b69), .val (.int (p1 &&& (15 : Int32))), .val (.int (1 : Int32)), .val (.int (own_t p3)), .val (.double (own_P p3)), .second, .val (.double (FP.l2d q2)), .second, .val (.double (own_lo p3)), .second, .val (.double (own_hi p3)), .second, .val (.int (1 : Int32)), .unset] [(.int (own_ex (FP.dmul (FP.l2d q2) (own_hi p3))))])) _
        refine XS.iconst X166.here hx rfl (hb hby at_307) ?_
        show Steps p.tables e below (T166.setTop (mkF m 308 #[.val (.int p1), .val (.long q2), .second, .val (.int p3), .val (.ref b2), .val (.ref b69), .val (.int (p1 &&& (15 : Int32))), .val (.int (1 : Int32)), .val (.int (own_t p3)), .val (.double (own_P p3)), .second, .val (.double (FP.l2d q2)), .second, .val (.double (own_lo p3)), .second, .val (.double (own_hi p3)), .second, .val (.int (1 : Int32)), .unset] [(.int (1 : Int32)), (.int (own_ex (FP.dmul (FP.l2d q2) (own_hi p3))))])) _
        refine XS.goto X166.here hx rfl (pc0 := 308) (pc' := 312) rfl (hb hby at_308) (by decide) (by decide) ?_
        exact kt
    · rw [if_neg hj169_296] at q_j2
      rw [q_j2] at kt
      show Steps p.tables e below (T166.setTop (mkF m 296 #[.val (.int p1), .val (.long q2), .second, .val (.int p3), .val (.ref b2), .val (.ref b69), .val (.int (p1 &&& (15 : Int32))), .val (.int (1 : Int32)), .val (.int (own_t p3)), .val (.double (own_P p3)), .second, .val (.double (FP.l2d q2)), .second, .val (.double (own_lo p3)), .second, .val (.double (own_hi p3)), .second, .val (.int (1 : Int32)), .unset] [(.int (cmpValue (FP.dcmp (FP.l2d q2) (0 : UInt64)) .l)), (.int (own_ex (FP.dmul (FP.l2d q2) (own_hi p3))))])) _
      refine XS.ifYes X166.here hx rfl (pc0 := 296) (pc' := 311) rfl (hb hby at_296) rfl ((if0 _ _).trans (flt (hj169_296 : ¬ ((0 : Int32) < (cmpValue (FP.dcmp (FP.l2d q2) (0 : UInt64)) .l)))).2.2.2) (by decide) (by decide) ?_
      show Steps p.tables e below (T166.setTop (mkF m 311 #[.val (.int p1), .val (.long q2), .second, .val (.int p3), .val (.ref b2), .val (.ref b69), .val (.int (p1 &&& (15 : Int32))), .val (.int (1 : Int32)), .val (.int (own_t p3)), .val (.double (own_P p3)), .second, .val (.double (FP.l2d q2)), .second, .val (.double (own_lo p3)), .second, .val (.double (own_hi p3)), .second, .val (.int (1 : Int32)), .unset] [(.int (own_ex (FP.dmul (FP.l2d q2) (own_hi p3))))])) _
      refine XS.iconst X166.here hx rfl (hb hby at_311) ?_
      exact kt
  have sg172 : ∀ target, Steps p.tables e below (T166.setTop (mkF m 342 #[.val (.int p1), .val (.long q2), .second, .val (.int p3), .val (.ref b2), .val (.ref b69), .val (.int (p1 &&& (15 : Int32))), .val (.int (1 : Int32)), .val (.int (own_t p3)), .val (.double (own_P p3)), .second, .val (.double (FP.l2d q2)), .second, .val (.double (own_lo p3)), .second, .val (.double (own_hi p3)), .second, .val (.int (1 : Int32)), .val (.int (1 : Int32))] [(.int (1 : Int32))])) target → Steps p.tables e below (T166.setTop (mkF m 312 #[.val (.int p1), .val (.long q2), .second, .val (.int p3), .val (.ref b2), .val (.ref b69), .val (.int (p1 &&& (15 : Int32))), .val (.int (1 : Int32)), .val (.int (own_t p3)), .val (.double (own_P p3)), .second, .val (.double (FP.l2d q2)), .second, .val (.double (own_lo p3)), .second, .val (.double (own_hi p3)), .second, .val (.int (1 : Int32)), .unset] [(.int j2), (.int (own_ex (FP.dmul (FP.l2d q2) (own_hi p3))))])) target := by
    intro target kt
    show Steps p.tables e below (T166.setTop (mkF m 312 #[.val (.int p1), .val (.long q2), .second, .val (.int p3), .val (.ref b2), .val (.ref b69), .val (.int (p1 &&& (15 : Int32))), .val (.int (1 : Int32)), .val (.int (own_t p3)), .val (.double (own_P p3)), .second, .val (.double (FP.l2d q2)), .second, .val (.double (own_lo p3)), .second, .val (.double (own_hi p3)), .second, .val (.int (1 : Int32)), .unset] [(.int j2), (.int (own_ex (FP.dmul (FP.l2d q2) (own_hi p3))))])) _
    refine XS.icmpNo X166.here hx rfl (hb hby at_312) rfl (teq (by rw [q_j2]; exact hc.2.2.2 : (own_ex (FP.dmul (FP.l2d q2) (own_hi p3))) = j2)).2 ?_
    show Steps p.tables e below (T166.setTop (mkF m 315 #[.val (.int p1), .val (.long q2), .second, .val (.int p3), .val (.ref b2), .val (.ref b69), .val (.int (p1 &&& (15 : Int32))), .val (.int (1 : Int32)), .val (.int (own_t p3)), .val (.double (own_P p3)), .second, .val (.double (FP.l2d q2)), .second, .val (.double (own_lo p3)), .second, .val (.double (own_hi p3)), .second, .val (.int (1 : Int32)), .unset] [])) _
    refine XS.iconst X166.here hx rfl (hb hby at_315) ?_
    show Steps p.tables e below (T166.setTop (mkF m 316 #[.val (.int p1), .val (.long q2), .second, .val (.int p3), .val (.ref b2), .val (.ref b69), .val (.int (p1 &&& (15 : Int32))), .val (.int (1 : Int32)), .val (.int (own_t p3)), .val (.double (own_P p3)), .second, .val (.double (FP.l2d q2)), .second, .val (.double (own_lo p3)), .second, .val (.double (own_hi p3)), .second, .val (.int (1 : Int32)), .unset] [(.int (1 : Int32))])) _
    refine XS.goto X166.here hx rfl (pc0 := 316) (pc' := 320) rfl (hb hby at_316) (by decide) (by decide) ?_
    show Steps p.tables e below (T166.setTop (mkF m 320 #[.val (.int p1), .val (.long q2), .second, .val (.int p3), .val (.ref b2), .val (.ref b69), .val (.int (p1 &&& (15 : Int32))), .val (.int (1 : Int32)), .val (.int (own_t p3)), .val (.double (own_P p3)), .second, .val (.double (FP.l2d q2)), .second, .val (.double (own_lo p3)), .second, .val (.double (own_hi p3)), .second, .val (.int (1 : Int32)), .unset] [(.int (1 : Int32))])) _
    refine XS.istore X166.here hx rfl (hb hby at_320) rfl (l' := #[.val (.int p1), .val (.long q2), .second, .val (.int p3), .val (.ref b2), .val (.ref b69), .val (.int (p1 &&& (15 : Int32))), .val (.int (1 : Int32)), .val (.int (own_t p3)), .val (.double (own_P p3)), .second, .val (.double (FP.l2d q2)), .second, .val (.double (own_lo p3)), .second, .val (.double (own_hi p3)), .second, .val (.int (1 : Int32)), .val (.int (1 : Int32))]) rfl ?_
    show Steps p.tables e below (T166.setTop (mkF m 322 #[.val (.int p1), .val (.long q2), .second, .val (.int p3), .val (.ref b2), .val (.ref b69), .val (.int (p1 &&& (15 : Int32))), .val (.int (1 : Int32)), .val (.int (own_t p3)), .val (.double (own_P p3)), .second, .val (.double (FP.l2d q2)), .second, .val (.double (own_lo p3)), .second, .val (.double (own_hi p3)), .second, .val (.int (1 : Int32)), .val (.int (1 : Int32))] [])) _
    refine XS.iload X166.here hx rfl (hb hby at_322) rfl ?_
    show Steps p.tables e below (T166.setTop (mkF m 324 #[.val (.int p1), .val (.long q2), .second, .val (.int p3), .val (.ref b2), .val (.ref b69), .val (.int (p1 &&& (15 : Int32))), .val (.int (1 : Int32)), .val (.int (own_t p3)), .val (.double (own_P p3)), .second, .val (.double (FP.l2d q2)), .second, .val (.double (own_lo p3)), .second, .val (.double (own_hi p3)), .second, .val (.int (1 : Int32)), .val (.int (1 : Int32))] [(.int (1 : Int32))])) _
    refine XS.ifNo X166.here hx rfl (hb hby at_324) rfl ((if0 _ _).trans (feq (by decide : ¬ ((1 : Int32) = (0 : Int32)))).1) ?_
    show Steps p.tables e below (T166.setTop (mkF m 327 #[.val (.int p1), .val (.long q2), .second, .val (.int p3), .val (.ref b2), .val (.ref b69), .val (.int (p1 &&& (15 : Int32))), .val (.int (1 : Int32)), .val (.int (own_t p3)), .val (.double (own_P p3)), .second, .val (.double (FP.l2d q2)), .second, .val (.double (own_lo p3)), .second, .val (.double (own_hi p3)), .second, .val (.int (1 : Int32)), .val (.int (1 : Int32))] [])) _
    refine XS.iload X166.here hx rfl (hb hby at_327) rfl ?_
    show Steps p.tables e below (T166.setTop (mkF m 329 #[.val (.int p1), .val (.long q2), .second, .val (.int p3), .val (.ref b2), .val (.ref b69), .val (.int (p1 &&& (15 : Int32))), .val (.int (1 : Int32)), .val (.int (own_t p3)), .val (.double (own_P p3)), .second, .val (.double (FP.l2d q2)), .second, .val (.double (own_lo p3)), .second, .val (.double (own_hi p3)), .second, .val (.int (1 : Int32)), .val (.int (1 : Int32))] [(.int (1 : Int32))])) _
    refine XS.ifNo X166.here hx rfl (hb hby at_329) rfl ((if0 _ _).trans (feq (by decide : ¬ ((1 : Int32) = (0 : Int32)))).1) ?_
    show Steps p.tables e below (T166.setTop (mkF m 332 #[.val (.int p1), .val (.long q2), .second, .val (.int p3), .val (.ref b2), .val (.ref b69), .val (.int (p1 &&& (15 : Int32))), .val (.int (1 : Int32)), .val (.int (own_t p3)), .val (.double (own_P p3)), .second, .val (.double (FP.l2d q2)), .second, .val (.double (own_lo p3)), .second, .val (.double (own_hi p3)), .second, .val (.int (1 : Int32)), .val (.int (1 : Int32))] [])) _
    refine XS.iload X166.here hx rfl (hb hby at_332) rfl ?_
    show Steps p.tables e below (T166.setTop (mkF m 334 #[.val (.int p1), .val (.long q2), .second, .val (.int p3), .val (.ref b2), .val (.ref b69), .val (.int (p1 &&& (15 : Int32))), .val (.int (1 : Int32)), .val (.int (own_t p3)), .val (.double (own_P p3)), .second, .val (.double (FP.l2d q2)), .second, .val (.double (own_lo p3)), .second, .val (.double (own_hi p3)), .second, .val (.int (1 : Int32)), .val (.int (1 : Int32))] [(.int (1 : Int32))])) _
    refine XS.ifNo X166.here hx rfl (hb hby at_334) rfl ((if0 _ _).trans (feq (by decide : ¬ ((1 : Int32) = (0 : Int32)))).1) ?_
    show Steps p.tables e below (T166.setTop (mkF m 337 #[.val (.int p1), .val (.long q2), .second, .val (.int p3), .val (.ref b2), .val (.ref b69), .val (.int (p1 &&& (15 : Int32))), .val (.int (1 : Int32)), .val (.int (own_t p3)), .val (.double (own_P p3)), .second, .val (.double (FP.l2d q2)), .second, .val (.double (own_lo p3)), .second, .val (.double (own_hi p3)), .second, .val (.int (1 : Int32)), .val (.int (1 : Int32))] [])) _
    refine XS.iconst X166.here hx rfl (hb hby at_337) ?_
    show Steps p.tables e below (T166.setTop (mkF m 338 #[.val (.int p1), .val (.long q2), .second, .val (.int p3), .val (.ref b2), .val (.ref b69), .val (.int (p1 &&& (15 : Int32))), .val (.int (1 : Int32)), .val (.int (own_t p3)), .val (.double (own_P p3)), .second, .val (.double (FP.l2d q2)), .second, .val (.double (own_lo p3)), .second, .val (.double (own_hi p3)), .second, .val (.int (1 : Int32)), .val (.int (1 : Int32))] [(.int (1 : Int32))])) _
    refine XS.goto X166.here hx rfl (pc0 := 338) (pc' := 342) rfl (hb hby at_338) (by decide) (by decide) ?_
    exact kt
  obtain ⟨fs, hr, hrun, hended, hW, hsame⟩ := X166.leave (v := some (.int (1 : Int32))) (fun h => by rw [Bd.returns] at h; cases h)
  refine ⟨_, _, pre0 _ ?_, hrun, hended, _, _, rfl, ?_, ⟨_, rfl⟩, hW, hsame.mono (by decide) (by decide)⟩
  · show Steps p.tables e below (s₁.setTop (mkF m 0 #[.val (.int p1), .val (.long q2), .second, .val (.int p3), .unset, .unset, .unset, .unset, .unset, .unset, .unset, .unset, .unset, .unset, .unset, .unset, .unset, .unset, .unset] [])) _
    refine sg1 _ ?_
    refine st2 _ ?_
    refine sg4 _ ?_
    refine st6 _ ?_
    refine sg8 _ ?_
    refine st10 _ ?_
    refine sg12 _ ?_
    refine st14 _ ?_
    refine sg16 _ ?_
    refine st18 _ ?_
    refine sg20 _ ?_
    refine st22 _ ?_
    refine sg24 _ ?_
    refine st26 _ ?_
    refine sg28 _ ?_
    refine st30 _ ?_
    refine sg32 _ ?_
    refine st34 _ ?_
    refine sg36 _ ?_
    refine st38 _ ?_
    refine sg40 _ ?_
    refine st42 _ ?_
    refine sg44 _ ?_
    refine st46 _ ?_
    refine sg48 _ ?_
    refine st50 _ ?_
    refine sg52 _ ?_
    refine st54 _ ?_
    refine sg56 _ ?_
    refine st58 _ ?_
    refine sg60 _ ?_
    refine st62 _ ?_
    refine sg64 _ ?_
    refine st66 _ ?_
    refine sg68 _ ?_
    refine st69 _ ?_
    refine sg72 _ ?_
    refine st74 _ ?_
    refine sg77 _ ?_
    refine st79 _ ?_
    refine sg82 _ ?_
    refine st84 _ ?_
    refine sg87 _ ?_
    refine st89 _ ?_
    refine sg92 _ ?_
    refine st94 _ ?_
    refine sg97 _ ?_
    refine st99 _ ?_
    refine sg102 _ ?_
    refine st104 _ ?_
    refine sg107 _ ?_
    refine st109 _ ?_
    refine sg112 _ ?_
    refine st114 _ ?_
    refine sg117 _ ?_
    refine st119 _ ?_
    refine sg122 _ ?_
    refine st124 _ ?_
    refine sg127 _ ?_
    refine st129 _ ?_
    refine sg132 _ ?_
    refine st134 _ ?_
    refine sg137 _ ?_
    refine st139 _ ?_
    refine sg142 _ ?_
    refine st144 _ ?_
    refine sg147 _ ?_
    refine st149 _ ?_
    refine sg152 _ ?_
    refine sg154 _ ?_
    refine st156 _ ?_
    refine sg157 _ ?_
    refine sg159 _ ?_
    refine st160 _ ?_
    refine sg161 _ ?_
    refine sg164 _ ?_
    refine sg165 _ ?_
    refine st166 _ ?_
    refine sg167 _ ?_
    refine sg171 _ ?_
    refine sg172 _ ?_
    show Steps p.tables e below (T166.setTop (mkF m 342 #[.val (.int p1), .val (.long q2), .second, .val (.int p3), .val (.ref b2), .val (.ref b69), .val (.int (p1 &&& (15 : Int32))), .val (.int (1 : Int32)), .val (.int (own_t p3)), .val (.double (own_P p3)), .second, .val (.double (FP.l2d q2)), .second, .val (.double (own_lo p3)), .second, .val (.double (own_hi p3)), .second, .val (.int (1 : Int32)), .val (.int (1 : Int32))] [(.int (1 : Int32))])) _
    exact retN X166 hx (t := .boolean) Bd.returns (by simp) (hb hby at_342) hr
  · show Q_rm0 Z p1 q2 p3 h0 n0 _ T166.heap _
    rw [c166_0]
    exact ⟨rfl, N166⟩
set_option maxRecDepth 65536 in
set_option maxHeartbeats 40000000 in
theorem comes_1 {Post : Tables → Env → Array Value → State → Outcome → State → Prop} (hpost : ∀ tb e args s v u, (limb_1_1.after args s (.returned v) u = true ∧ limb_1_2.after args s (.returned v) u = true ∧ True) → FrameEnd s (.returned v) u (Jvm.fieldLocs frame_1_writes args s ++ Jvm.arrayLocs frame_1_arrays args s ++ Jvm.staticLocs frame_1_statics s) 16 128 → Post tb e args s (.returned v) u) :
    ArmFor flags0 classFile x code maxLocals ret World_1 tables_1 room_1 Calls_1 rest_1 Pre_1 Post := by
  intro l hfl _ _ p e ha hc hk s m args below hf hA hF happ hP
  obtain ⟨hcalls, hrest, hpre⟩ := hP
  obtain ⟨-, -, -, hnamed, -, -, -, hat⟩ := (Spec.applies_iff hf).mp happ
  obtain ⟨hg, hn⟩ := and_e (Cond.before_iff.mp (show (Jvm.Cond.and given_1 narrow_1).before args s = true from hpre))
  obtain ⟨g1, g2⟩ := and_e hg
  obtain ⟨g3, g4⟩ := and_e g2
  obtain ⟨g5, g6⟩ := and_e g4
  obtain ⟨w0, w1, w2, rfl⟩ : ∃ w0 w1 w2 : Value, args = #[w0, w1, w2] := by
    have hs : args.size = 3 := by simpa [Cond.value, given_1] using g1
    obtain ⟨L⟩ := args
    match L, hs with
    | [w0, w1, w2], _ => exact ⟨w0, w1, w2, rfl⟩
  have hw := fun d (hd : d ∈ tables_1) => atoms_spec (ws := Jvm.Cond.code x code maxLocals ret :: tables_1) hat d (List.mem_cons_of_mem _ hd)
  have hfit : Fit s := fun {y c} hc i hi => by
    obtain ⟨ha, rfl⟩ := Array.getElem?_eq_some_iff.mp hc
    have q := List.all_eq_true.mp ((Array.all_eq_true_iff_forall_mem.mp hF) _ (Array.getElem_mem ha)) i (List.mem_range.mpr hi)
    simpa [Array.getElem?_eq_getElem hi] using q
  obtain ⟨i0, ei0⟩ := is_v g3
  obtain rfl : w0 = (.int i0) := Option.some.inj ei0
  obtain ⟨i1, ei1⟩ := isL_v g5
  obtain rfl : w1 = (.long i1) := Option.some.inj ei1
  obtain ⟨i2, ei2⟩ := is_v g6
  obtain rfl : w2 = (.int i2) := Option.some.inj ei2
  obtain ⟨n, o, h1, h2, h3, _, L, rfl, ⟨rfl, N⟩, hq⟩ := rm0 l s _ hw tables_1 i0 i1 i2 s.heap s.heap.size (Nat.le_refl _)  p e ha hc hk s m _ below hf ((Spec.applies_iff_loose hf).mp happ).1 ⟨rfl, State.Warmed39.refl s, rfl⟩ trivial
  refine ⟨n, _, h1, h2, h3, hpost _ _ _ _ _ _ ⟨Cond.after_iff.mpr rfl, Cond.after_iff.mpr (eq_i res_at (Term.int_eval (1)) rfl), trivial⟩ ⟨hq.1, hq.2.1, (hq.2.2.sift fun y hy => Or.inr (N y hy)).mono (by decide) (by decide)⟩⟩
theorem main_1_1 : Claimed_1_1 := comes_1 fun _ _ _ _ _ _ h hF => ⟨h.1, hF⟩
theorem main_1_2 : Claimed_1_2 := comes_1 fun _ _ _ _ _ _ h hF => ⟨h.2.1, hF⟩
end Jvm.Pilot.@@N@@
namespace Jvm.Pilot.@@N@@
open Jvm Jvm.ClassFile Sem Op Lib Jvm.Free Jvm.Stand Jvm.Pilot.@@N@@.Jvm.D
/-! MADE BY PROGRAM (witnessworld.py) out of the Statement's table words and the real class files: 13 classes; the members and pool entries that the words name. The judged class is class 1, her method 1. -/
namespace start1
open Jvm.ClassFile
def u (s : String) : CpInfo := .utf8 (stringToUtf16 s)
/-- a pool by its gaps: so many unusable entries, then the entry; so many at the end -/
def gap : Nat → List CpInfo → List CpInfo
  | 0, r => r
  | n + 1, r => .unusable :: gap n r
def poolList (es : List (Nat × CpInfo)) (last : Nat) : List CpInfo := es.foldr (fun e r => gap e.1 (e.2 :: r)) (gap last [])
def pool (es : List (Nat × CpInfo)) (last : Nat) : Array CpInfo := ⟨poolList es last⟩
def fileOf (pool : Array CpInfo) (this : Nat) (attrs : Array Attribute := #[]) (ms : Array MethodInfo := #[]) (fl : Nat := 33) (sup : Nat := 0) (ifs : Array Nat := #[]) (fds : Array FieldInfo := #[]) : ClassFile where
  minorVersion := 0
  majorVersion := 65
  constantPool := pool
  accessFlags := fl
  thisClass := this
  superClass := sup
  interfaces := ifs
  fields := fds
  methods := ms
  attributes := attrs
def plain (name : String) (sup : Option ClassId) : Class where
  name := name
  kind := .ordinary
  loader := none
  accessFlags := 33
  super := sup
  interfaces := #[]
  cf := none
  fields := #[]
  methods := #[]
  instanceTypes := #[]
  staticTypes := #[]
  resolved := #[]
  callSites := []
  init := .initialized
  statics := none
  mirror := none

def pool0 : Array CpInfo := pool [(5, u "<init>"), (0, u "()V"), (1, .class_ 10), (1, u "java/lang/Object")] 113

def k0m0 : Method := { name := "<init>", desc := "()V", sig := { parameters := [], returnType := none }, accessFlags := 1, code := none }
/-- java/lang/Object -/
def k0 : Class := { plain "java/lang/Object" none with
  accessFlags := 33
  interfaces := #[]
  cf := some (fileOf pool0 8 #[] #[{ accessFlags := 1, nameIndex := 5, descriptorIndex := 6, attributes := #[] }] 33 0 #[] #[])
  fields := #[]
  methods := #[k0m0]
  instanceTypes := #[]
  staticTypes := #[]
  resolved := Array.replicate 124 none
  statics := none }

def pool1 : Array CpInfo := pool [(2, .class_ 4), (1, u "java/lang/Object"), (0, u "<init>"), (0, u "()V"), (0, .double 2355382605114769408), (1, .double 2355382605114769407), (1, .double 6858982232485265408), (1, .double 6858982232485265409), (1, .double 6858982232485265407), (1, .double 2355382605114769409), (1, .double 9223372036854775808), (1, .double 13830554455654793216), (1, .double 11578754641969545216), (1, .double 9218868437227405311), (1, .double 1), (1, .double 6863485832112635904), (1, .double 2350879005487398912), (1, .double 16082354269340041216), (1, .methodref 36 37), (0, .class_ 38), (0, .nameAndType 39 40), (0, u "com/example/mensura/mensura/DoubleDouble"), (0, u "expands"), (0, u "(D)Z"), (0, .integer 2147483647), (0, .class_ 43), (0, u "com/example/mensura/mensura/DoubleDoubleExpandsPinLaw"), (2, u "law"), (0, u "(IJI)Z")] 7

def k1m0 : Method := { name := "<init>", desc := "()V", sig := { parameters := [], returnType := none }, accessFlags := 1, code := none }
def k1c1 : Code := { maxStack := 5, maxLocals := 19, code := code, exceptionTable := #[], attributes := #[] }
def k1m1 : Method := { name := "law", desc := "(IJI)Z", sig := { parameters := [.int, .long, .int], returnType := some .boolean }, accessFlags := 9, code := some k1c1 }
/-- com/example/mensura/mensura/DoubleDoubleExpandsPinLaw -/
def k1 : Class := { plain "com/example/mensura/mensura/DoubleDoubleExpandsPinLaw" (some 0) with
  accessFlags := 49
  interfaces := #[]
  cf := some (fileOf pool1 42 #[] #[{ accessFlags := 1, nameIndex := 5, descriptorIndex := 6, attributes := #[] }, { accessFlags := 9, nameIndex := 46, descriptorIndex := 47, attributes := #[] }] 49 2 #[] #[])
  fields := #[]
  methods := #[k1m0, k1m1]
  instanceTypes := #[]
  staticTypes := #[]
  resolved := Array.replicate 55 none
  statics := none }

def pool2 : Array CpInfo := pool [(2, .class_ 4), (1, u "java/lang/Object"), (3, .class_ 10), (1, u "com/example/mensura/mensura/DoubleDouble"), (0, u "high"), (0, u "D"), (2, u "low"), (3, .double 2355382605114769408), (1, .double 6858982232485265408), (53, u "ONE"), (0, u "Lcom/example/mensura/mensura/DoubleDouble;"), (0, u "OPERATION_ERROR"), (3, u "MIN_FACTOR"), (0, u "MAX_FACTOR"), (0, u "MIN_PRODUCT"), (0, u "MAX_PRODUCT"), (0, u "EXPANSION_ERROR"), (4, u "expands"), (0, u "(D)Z")] 10

def k2c0 : Code := { maxStack := 4, maxLocals := 2, code := prog_22_method_3_code, exceptionTable := #[], attributes := #[] }
def k2m0 : Method := { name := "expands", desc := "(D)Z", sig := { parameters := [.double], returnType := some .boolean }, accessFlags := 8, code := some k2c0 }
/-- com/example/mensura/mensura/DoubleDouble -/
def k2 : Class := { plain "com/example/mensura/mensura/DoubleDouble" (some 0) with
  accessFlags := 48
  interfaces := #[]
  cf := some (fileOf pool2 8 #[] #[{ accessFlags := 8, nameIndex := 90, descriptorIndex := 91, attributes := #[] }] 48 2 #[] #[{ accessFlags := 24, nameIndex := 75, descriptorIndex := 76, attributes := #[] }, { accessFlags := 24, nameIndex := 77, descriptorIndex := 12, attributes := #[] }, { accessFlags := 26, nameIndex := 81, descriptorIndex := 12, attributes := #[] }, { accessFlags := 26, nameIndex := 82, descriptorIndex := 12, attributes := #[] }, { accessFlags := 26, nameIndex := 83, descriptorIndex := 12, attributes := #[] }, { accessFlags := 26, nameIndex := 84, descriptorIndex := 12, attributes := #[] }, { accessFlags := 26, nameIndex := 85, descriptorIndex := 12, attributes := #[] }, { accessFlags := 18, nameIndex := 11, descriptorIndex := 12, attributes := #[] }, { accessFlags := 18, nameIndex := 15, descriptorIndex := 12, attributes := #[] }])
  fields := #[{ name := "ONE", type := (.object "com/example/mensura/mensura/DoubleDouble"), accessFlags := 24, slot := 0, constantValue := 0 }, { name := "OPERATION_ERROR", type := .double, accessFlags := 24, slot := 1, constantValue := 0 }, { name := "MIN_FACTOR", type := .double, accessFlags := 26, slot := 2, constantValue := 0 }, { name := "MAX_FACTOR", type := .double, accessFlags := 26, slot := 3, constantValue := 0 }, { name := "MIN_PRODUCT", type := .double, accessFlags := 26, slot := 4, constantValue := 0 }, { name := "MAX_PRODUCT", type := .double, accessFlags := 26, slot := 5, constantValue := 0 }, { name := "EXPANSION_ERROR", type := .double, accessFlags := 26, slot := 6, constantValue := 0 }, { name := "high", type := .double, accessFlags := 18, slot := 0, constantValue := 0 }, { name := "low", type := .double, accessFlags := 18, slot := 1, constantValue := 0 }]
  methods := #[k2m0]
  instanceTypes := #[.double, .double]
  staticTypes := #[(.object "com/example/mensura/mensura/DoubleDouble"), .double, .double, .double, .double, .double, .double]
  resolved := Array.replicate 102 none
  statics := none }

def pool3 : Array CpInfo := pool [(1, u "java/lang/Cloneable"), (0, .class_ 1), (0, u "java/lang/Object"), (0, .class_ 3)] 3

/-- java/lang/Cloneable -/
def k3 : Class := { plain "java/lang/Cloneable" (some 0) with
  accessFlags := 1537
  interfaces := #[]
  cf := some (fileOf pool3 2 #[] #[] 1537 4 #[] #[])
  fields := #[]
  methods := #[]
  instanceTypes := #[]
  staticTypes := #[]
  resolved := Array.replicate 8 none
  statics := none }

def pool4 : Array CpInfo := pool [(1, u "java/io/Serializable"), (0, .class_ 1), (0, u "java/lang/Object"), (0, .class_ 3)] 3

/-- java/io/Serializable -/
def k4 : Class := { plain "java/io/Serializable" (some 0) with
  accessFlags := 1537
  interfaces := #[]
  cf := some (fileOf pool4 2 #[] #[] 1537 4 #[] #[])
  fields := #[]
  methods := #[]
  instanceTypes := #[]
  staticTypes := #[]
  resolved := Array.replicate 8 none
  statics := none }

/-- the primitive boolean -/
def k5 : Class := { plain "boolean" none with kind := .primitive 'Z', accessFlags := 0x411 }
/-- [Z -/
def k6 : Class := { plain "[Z" (some 0) with kind := .array 5 .boolean, interfaces := #[3, 4], accessFlags := 1041 }

/-- the primitive byte -/
def k7 : Class := { plain "byte" none with kind := .primitive 'B', accessFlags := 0x411 }
/-- [B -/
def k8 : Class := { plain "[B" (some 0) with kind := .array 7 .byte, interfaces := #[3, 4], accessFlags := 1041 }

/-- the primitive double -/
def k9 : Class := { plain "double" none with kind := .primitive 'D', accessFlags := 0x411 }
/-- [D -/
def k10 : Class := { plain "[D" (some 0) with kind := .array 9 .double, interfaces := #[3, 4], accessFlags := 1041 }

/-- the primitive int -/
def k11 : Class := { plain "int" none with kind := .primitive 'I', accessFlags := 0x411 }
/-- [I -/
def k12 : Class := { plain "[I" (some 0) with kind := .array 11 .int, interfaces := #[3, 4], accessFlags := 1041 }

def heap : Heap := #[]
def classes : Array Class := #[k0, k1, k2, k3, k4, k5, k6, k7, k8, k9, k10, k11, k12]
def interned : List (Array UInt16 × Addr) := []
def slotsUsed : Nat := 0
def theMethod : MethodId := ⟨1, 1⟩
def args0 : Array Value := #[.int 5, .long 7, .int 5]
def aboutOver (below : List Frame) : State where
  vm := { classes := classes, interned := interned.toArray }
  heap := heap
  slotsUsed := slotsUsed
  threads := #[{ frames := .invoking theMethod args0 :: below }]
def below0 : List Frame := [.native { method := ⟨0, 0⟩, args := #[] }]
def about1 : State := aboutOver below0
def p0 : Program := .bare "" "" ""
def e0 : Env := launch0.env 0 0 0
theorem w_frames : about1.frames = Frame.invoking theMethod args0 :: below0 := rfl
set_option maxRecDepth 65536 in
theorem w_args : argsFit about1.vm theMethod args0 = true := by decide +kernel
set_option maxRecDepth 65536 in
theorem w_heap : heapFits about1 = true := by decide +kernel
set_option maxRecDepth 65536 in
theorem w_runnable : about1.curStatus? = some .runnable := by decide +kernel
set_option maxRecDepth 65536 in
theorem w_alone : about1.alone = true := by decide +kernel
set_option maxRecDepth 65536 in
theorem w_named : about1.methodNamed? x = some theMethod := by decide +kernel
set_option maxRecDepth 65536 in
theorem w_hears : about1.hears theMethod below0 = true := by decide +kernel
set_option maxRecDepth 65536 in
theorem w_ripe : about1.ripe theMethod args0 below0 = true := by decide +kernel
theorem w_running : about1.status = .running := rfl
set_option maxRecDepth 65536 in
theorem w_room : about1.hasRoom e0.platform room_1 = true :=
  launch0.hasRoom_least _ room_1 (by decide +kernel) (by decide +kernel) (by decide +kernel) (by decide +kernel) (by decide +kernel) (by decide +kernel)
theorem allAtoms_all (ts : List Jvm.Cond) (a : Array Jvm.Value) (st : Jvm.State) : (allAtoms ts).before a st = ts.all (fun c => c.before a st) := by
  induction ts with
  | nil => rfl
  | cons c t ih =>
    show (Jvm.Cond.and c (allAtoms t)).before a st = _
    rw [Jvm.Cond.before_and, ih, List.all_cons]
def words1 : List Jvm.Cond := Jvm.Cond.code x code maxLocals ret :: tables_1
/-- a 'code' word, met by the world's own term for the bytes: nothing is compared byte by byte -/
theorem code_word {y : MethodName} {bytes : ByteArray} {mx : Nat} {rt : Option FieldType} {a : Array Value} {s : State} {m : MethodId} {meth : Method} {c : Code} (h1 : s.methodNamed? y = some m) (h2 : s.vm.method? m = some meth) (h3 : meth.code = some c) (h4 : c.code = bytes)
    (h5 : (c.maxLocals == mx && c.exceptionTable.isEmpty && decide (c.maxStack ≤ mostOperands) && decide (meth.sig.returnType = rt) && !meth.locks && decide (parseMethodDescriptor y.desc = some meth.sig)) = true) : (Jvm.Cond.code y bytes mx rt).before a s = true := by
  simp only [Bool.and_eq_true, beq_iff_eq, Bool.not_eq_true', decide_eq_true_eq] at h5
  obtain ⟨⟨⟨⟨⟨g1, g2⟩, g3⟩, g4⟩, g5⟩, g6⟩ := h5
  simp [Cond.before, Cond.holds, Cond.value, h1, h2, h3, h4, g1, g2, g3, g4, g5, g6]
def isCode : Jvm.Cond → Bool
  | .code _ _ _ _ => true
  | _ => false
theorem all_split {L : List Jvm.Cond} {P : Jvm.Cond → Bool} (h1 : L.all (fun c => isCode c || P c) = true) (h2 : ∀ c ∈ L.filter isCode, P c = true) : L.all P = true := by
  refine List.all_eq_true.mpr fun c hc => ?_
  have h := List.all_eq_true.mp h1 c hc
  rcases Bool.eq_false_or_eq_true (isCode c) with hi | hi
  · exact h2 c (List.mem_filter.mpr ⟨hc, hi⟩)
  · simpa [hi] using h
set_option maxRecDepth 65536 in
theorem w_c0 : (Jvm.Cond.code x code maxLocals ret).before args0 about1 = true := code_word (m := ⟨1, 1⟩) (meth := k1m1) (c := k1c1) (by decide +kernel) rfl rfl rfl (by decide +kernel)
set_option maxRecDepth 65536 in
theorem w_c1 : (Jvm.Cond.code ({ cls := "com/example/mensura/mensura/DoubleDouble", name := "expands", desc := "(D)Z" } : Jvm.MethodName) prog_22_method_3_code (2 : Nat) (Option.some Jvm.ClassFile.FieldType.boolean)).before args0 about1 = true := code_word (m := ⟨2, 0⟩) (meth := k2m0) (c := k2c0) (by decide +kernel) rfl rfl rfl (by decide +kernel)
def codes1 : List Jvm.Cond := [Jvm.Cond.code x code maxLocals ret, Jvm.Cond.code ({ cls := "com/example/mensura/mensura/DoubleDouble", name := "expands", desc := "(D)Z" } : Jvm.MethodName) prog_22_method_3_code (2 : Nat) (Option.some Jvm.ClassFile.FieldType.boolean)]
set_option maxRecDepth 65536 in
theorem codes_eq : words1.filter isCode = codes1 := rfl
theorem w_codes : ∀ c ∈ words1.filter isCode, c.before args0 about1 = true := by
  rw [codes_eq]
  intro c hc
  simp only [codes1, List.mem_cons, List.not_mem_nil, or_false] at hc
  rcases hc with rfl | rfl
  · exact w_c0
  · exact w_c1
set_option maxRecDepth 65536 in
theorem w_t1 : words1.all (fun c => isCode c || c.before args0 about1) = true := by decide +kernel
theorem w_tables : (allAtoms (Jvm.Cond.code x code maxLocals ret :: tables_1)).before args0 about1 = true := by
  rw [allAtoms_all]
  show words1.all (fun c => c.before args0 about1) = true
  refine all_split ?_ w_codes
  rw [w_t1]
set_option maxRecDepth 65536 in
theorem w_case : (Jvm.Cond.and given_1 narrow_1).before args0 about1 = true := by decide +kernel
theorem w_applies : (headSpec (Jvm.Cond.code x code maxLocals ret :: tables_1) room_1).applies x e0.platform about1 = true :=
  (Spec.applies_iff w_frames).mpr ⟨w_running, w_runnable, w_alone, w_named, w_hears, w_ripe, w_room, w_tables⟩
theorem atStart : AtStart classFile x code maxLocals ret World_1 tables_1 room_1 Calls_1 rest_1 Pre_1 launch0 p0 e0 about1 theMethod args0 below0 :=
  ⟨lists_1, trivial, launch0.admits_env _ _ _, launch0.least_env, fairChoices_fair.cas, fairChoices_fair.clock, w_frames, w_args, w_heap, w_applies, trivial, trivial, w_case⟩
end start1
theorem witness_1 : WitnessClaimed_1 := ⟨start1.p0, start1.e0, start1.about1, start1.theMethod, start1.args0, start1.below0, start1.atStart⟩
end Jvm.Pilot.@@N@@
