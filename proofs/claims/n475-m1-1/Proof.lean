import JvmDerived
import JvmDerived.Pilot.@@N@@Statement
import JvmDerived.Pilot.@@N@@Code
set_option linter.unusedVariables false
set_option linter.unusedSimpArgs false
namespace Jvm.RoadKit
open Sem ClassFile Op Lib Jvm.Stand Jvm.Free Jvm.LawKit
section New
variable {p : Program} {l : Launch} {e : Env} {R : Room} {s : State} {m : MethodId} {args : Array Value} {below : List Frame} {meth : Method} {c : Code} {T : State} {locs : List Loc} {cells slots : Nat}
theorem retI (X : Stand p l e R s m args below meth c T locs cells slots) (hx : p.tables.exec = Jvm.exec) {pc : Nat} {Ls : Array Slot} {z : Int32} {rest : List Value} (hret : meth.sig.returnType = some .int) (hd : decode c.code pc = .ok (.ireturn, 1)) {fs : List Frame}
    (hl : ∀ (f : JFrame) (acts : List Action), f.method = m → f.locked = none → f.entered = [] → (doReturn e (T.setTop f) acts (some (.int z))).1 = T.setFrames fs) : Steps p.tables e below (T.setTop (mkF m pc Ls (.int z :: rest))) (T.setFrames fs) := by
  have hm' : T.vm.method? m = some meth := X.method'
  have hn : narrow .int (.int z) = .int z := rfl
  show Steps p.tables e below (T.setTop { method := m, pc := pc, locals := Ls, stack := _ :: rest, locked := none }) _
  jvm_step X.here [X.here.top, hx, hd, hm', hret, hn]
  first | (intro acts; rw [hl _ acts rfl rfl rfl]) | rw [hl _ _ rfl rfl rfl]
  exact Steps.refl _
end New
end Jvm.RoadKit
namespace Jvm.Pilot.@@N@@.FV
open Jvm.FP.Core
/-- the datum is `i * 2^e` (a zero of either sign is 0) -/
def Val (i e : Int) : Datum → Prop
  | .fin s c q => signed s c * ((2 ^ (q - e).toNat : Nat) : Int) = i * ((2 ^ (e - q).toNat : Nat) : Int)
  | _ => False
theorem p2 (n : Nat) : (0 : Int) < ((2 ^ n : Nat) : Int) := by have := Nat.two_pow_pos n; omega
theorem p2ne (n : Nat) : ((2 ^ n : Nat) : Int) ≠ 0 := by have := p2 n; omega
theorem p2add (a b : Nat) : ((2 ^ (a + b) : Nat) : Int) = ((2 ^ a : Nat) : Int) * ((2 ^ b : Nat) : Int) := by rw [Nat.pow_add, Int.natCast_mul]
theorem units_int (s : Bool) (c : Nat) (q m : Int) : signed s (inUnits c q m) = signed s c * ((2 ^ (q - m).toNat : Nat) : Int) := by
  unfold inUnits; rw [signed_mul]
theorem val_iff {i e m : Int} {s : Bool} {c : Nat} {q : Int} (h1 : m ≤ q) (h2 : m ≤ e) :
    Val i e (.fin s c q) ↔ signed s c * ((2 ^ (q - m).toNat : Nat) : Int) = i * ((2 ^ (e - m).toNat : Nat) : Int) := by
  show signed s c * ((2 ^ (q - e).toNat : Nat) : Int) = i * ((2 ^ (e - q).toNat : Nat) : Int) ↔ _
  by_cases h : e ≤ q
  · rw [show (e - q).toNat = 0 by omega, show (q - m).toNat = (q - e).toNat + (e - m).toNat by omega, p2add, ← Int.mul_assoc]
    constructor
    · intro h3; rw [h3]; simp
    · intro h3; have := Int.eq_of_mul_eq_mul_right (p2ne _) h3; rw [this]; simp
  · rw [show (q - e).toNat = 0 by omega, show (e - m).toNat = (e - q).toNat + (q - m).toNat by omega, p2add, ← Int.mul_assoc]
    constructor
    · intro h3; rw [← h3]; simp
    · intro h3; have := Int.eq_of_mul_eq_mul_right (p2ne _) h3; rw [← this]; simp
theorem val_fin {i e : Int} {d : Datum} (h : Val i e d) : ∃ s c q, d = .fin s c q := by
  cases d with
  | nan => exact h.elim
  | inf => exact h.elim
  | fin s c q => exact ⟨s, c, q, rfl⟩
theorem val_ne_nan {i e : Int} {d : Datum} (h : Val i e d) : d ≠ .nan := by
  obtain ⟨s, c, q, rfl⟩ := val_fin h; exact Datum.noConfusion
theorem val_abs {i e : Int} {s : Bool} {c : Nat} {q : Int} (h : Val i e (.fin s c q)) : c * 2 ^ (q - e).toNat = i.natAbs * 2 ^ (e - q).toNat := by
  have := congrArg Int.natAbs (show signed s c * ((2 ^ (q - e).toNat : Nat) : Int) = i * ((2 ^ (e - q).toNat : Nat) : Int) from h)
  rw [Int.natAbs_mul, Int.natAbs_mul, natAbs_signed, Int.natAbs_natCast, Int.natAbs_natCast] at this
  exact this
theorem val_zero {i e : Int} {s : Bool} {c : Nat} {q : Int} (h : Val i e (.fin s c q)) : c = 0 ↔ i = 0 := by
  have h1 := val_abs h
  have p1 := Nat.two_pow_pos (q - e).toNat
  have p2 := Nat.two_pow_pos (e - q).toNat
  constructor
  · rintro rfl
    rw [Nat.zero_mul] at h1
    have := Nat.mul_eq_zero.mp h1.symm
    omega
  · rintro rfl
    rw [show (0 : Int).natAbs = 0 from rfl, Nat.zero_mul] at h1
    have := Nat.mul_eq_zero.mp h1
    omega
theorem val_sign {i e : Int} {s : Bool} {c : Nat} {q : Int} (h : Val i e (.fin s c q)) (hi : i ≠ 0) : s = decide (i < 0) := by
  have h' : signed s c * ((2 ^ (q - e).toNat : Nat) : Int) = i * ((2 ^ (e - q).toNat : Nat) : Int) := h
  have hc : 0 < c := by have := val_zero h; omega
  have a1 := p2 (q - e).toNat
  have a2 := p2 (e - q).toNat
  have h1 : decide (signed s c < 0) = s := signed_lt_zero s hc
  rw [← h1, decide_eq_decide]
  constructor
  · intro hlt
    have := Int.mul_neg_of_neg_of_pos hlt a1
    rw [h'] at this
    exact Int.lt_of_not_ge fun hge => by have := Int.mul_nonneg hge (Int.le_of_lt a2); omega
  · intro hlt
    have := Int.mul_neg_of_neg_of_pos hlt a2
    rw [← h'] at this
    exact Int.lt_of_not_ge fun hge => by have := Int.mul_nonneg hge (Int.le_of_lt a1); omega
theorem val_signed {i e : Int} {s : Bool} {c : Nat} {q : Int} (h : Val i e (.fin s c q)) : signed s i.natAbs = i := by
  by_cases hi : i = 0
  · rw [hi]; exact signed_zero s
  · rw [val_sign h hi]; unfold signed
    by_cases h : i < 0 <;> simp [h] <;> omega
theorem val_whole {i : Int} {d : Datum} : Val i 0 d ↔ Whole i d := by
  cases d with
  | nan => exact Iff.rfl
  | inf => exact Iff.rfl
  | fin s c q =>
    show signed s c * ((2 ^ (q - 0).toNat : Nat) : Int) = i * ((2 ^ (0 - q).toNat : Nat) : Int) ↔ signed s (c * 2 ^ q.toNat) = i * ((2 ^ (-q).toNat : Nat) : Int)
    rw [signed_mul, show (q - 0).toNat = q.toNat by omega, show (0 - q).toNat = (-q).toNat by omega]
theorem val_shift {i e : Int} {d : Datum} (k : Nat) : Val i e d ↔ Val (i * ((2 ^ k : Nat) : Int)) (e - k) d := by
  cases d with
  | nan => exact Iff.rfl
  | inf => exact Iff.rfl
  | fin s c q =>
    rw [val_iff (m := min q (e - k)) (by omega) (by omega), val_iff (m := min q (e - k)) (by omega) (by omega),
      show (e - min q (e - k)).toNat = k + (e - k - min q (e - k)).toNat by omega, p2add, Int.mul_assoc]
theorem val_zero_any {e e' : Int} {d : Datum} (h : Val 0 e d) : Val 0 e' d := by
  obtain ⟨s, c, q, rfl⟩ := val_fin h
  have := (val_zero h).mpr rfl
  subst this
  show signed s 0 * _ = 0 * _
  rw [signed_zero]; simp
theorem val_ofInt (i : Int) : Val i 0 (ofInt i) := val_whole.mpr (whole_ofInt i)
theorem val_sum {i j e : Int} {x y : Datum} (hx : Val i e x) (hy : Val j e y) : Val (i + j) e (exactSum x y) := by
  obtain ⟨s, c, q, rfl⟩ := val_fin hx
  obtain ⟨t, d, r, rfl⟩ := val_fin hy
  rw [val_iff (m := min (min q r) e) (by omega) (by omega)] at hx hy
  show Val (i + j) e (.fin (sumSign s t (sumUnits s c q t d r (min q r))) (sumUnits s c q t d r (min q r)).natAbs (min q r))
  rw [val_iff (m := min (min q r) e) (by omega) (by omega), signed_sumSign]
  unfold sumUnits
  rw [units_int, units_int, Int.add_mul, Int.add_mul, Int.mul_assoc, Int.mul_assoc, ← p2add, ← p2add,
    show (q - min q r).toNat + (min q r - min (min q r) e).toNat = (q - min (min q r) e).toNat by omega,
    show (r - min q r).toNat + (min q r - min (min q r) e).toNat = (r - min (min q r) e).toNat by omega, hx, hy]
theorem val_neg {i e : Int} {x : Datum} (hx : Val i e x) : Val (-i) e (negate x) := by
  obtain ⟨s, c, q, rfl⟩ := val_fin hx
  have h : signed s c * ((2 ^ (q - e).toNat : Nat) : Int) = i * ((2 ^ (e - q).toNat : Nat) : Int) := hx
  show signed (!s) c * ((2 ^ (q - e).toNat : Nat) : Int) = -i * ((2 ^ (e - q).toNat : Nat) : Int)
  rw [signed_not, Int.neg_mul, Int.neg_mul, h]
theorem val_prod {i j e g : Int} {x y : Datum} (hx : Val i e x) (hy : Val j g y) : Val (i * j) (e + g) (exactProduct x y) := by
  obtain ⟨s, c, q, rfl⟩ := val_fin hx
  obtain ⟨t, d, r, rfl⟩ := val_fin hy
  rw [val_iff (m := min q e) (by omega) (by omega)] at hx
  rw [val_iff (m := min r g) (by omega) (by omega)] at hy
  show Val (i * j) (e + g) (.fin (s != t) (c * d) (q + r))
  rw [val_iff (m := min q e + min r g) (by omega) (by omega), signed_xor,
    show (q + r - (min q e + min r g)).toNat = (q - min q e).toNat + (r - min r g).toNat by omega,
    show (e + g - (min q e + min r g)).toNat = (e - min q e).toNat + (g - min r g).toNat by omega, p2add, p2add]
  calc signed s c * signed t d * (((2 ^ (q - min q e).toNat : Nat) : Int) * ((2 ^ (r - min r g).toNat : Nat) : Int))
      = (signed s c * ((2 ^ (q - min q e).toNat : Nat) : Int)) * (signed t d * ((2 ^ (r - min r g).toNat : Nat) : Int)) := by ac_rfl
    _ = _ := by rw [hx, hy]; ac_rfl
/-- a number of at most p digits, its exponent in range, rounds to itself -/
theorem val_round {f : Fmt} (hf : Good f) {i e : Int} {x : Datum} (hx : Val i e x) (hi : i.natAbs < 2 ^ f.p) (h1 : f.qmin ≤ e) (h2 : e ≤ f.qmax) : Val i e (round f x) := by
  obtain ⟨s, c, q, rfl⟩ := val_fin hx
  have ha := val_abs hx
  have hs := val_signed hx
  have e1 : round f (.fin s c q) = round f (.fin s i.natAbs e) := roundRatio_congr (by decide) (by decide) (by simpa using ha)
  obtain ⟨c', q', h3, h4⟩ := round_exact hf s hi h1 h2
  have hfit := round_fits hf (.fin s i.natAbs e)
  rw [e1]
  rw [h3] at hfit ⊢
  rw [val_iff (m := f.qmin) hfit.2.1 h1, ← units_int, h4, units_int, hs]
theorem val_order {i j e : Int} {x y : Datum} (hx : Val i e x) (hy : Val j e y) : order x y = some (compare i j) := by
  obtain ⟨s, c, q, rfl⟩ := val_fin hx
  obtain ⟨t, d, r, rfl⟩ := val_fin hy
  rw [val_iff (m := min (min q r) e) (by omega) (by omega)] at hx hy
  show some (compare (signed s (inUnits c q (min q r))) (signed t (inUnits d r (min q r)))) = _
  rw [← compare_mul_pos (signed s _) _ _ (p2 (min q r - min (min q r) e).toNat), units_int, units_int, Int.mul_assoc, Int.mul_assoc, ← p2add, ← p2add,
    show (q - min q r).toNat + (min q r - min (min q r) e).toNat = (q - min (min q r) e).toNat by omega,
    show (r - min q r).toNat + (min q r - min (min q r) e).toNat = (r - min (min q r) e).toNat by omega, hx, hy, compare_mul_pos _ _ _ (p2 _)]
theorem scale_eq {X Y P N t : Nat} (h : X * 2 ^ (P + t) = Y * 2 ^ (N + t)) : X * 2 ^ P = Y * 2 ^ N := by
  rw [Nat.pow_add, Nat.pow_add, ← Nat.mul_assoc, ← Nat.mul_assoc] at h
  exact Nat.eq_of_mul_eq_mul_right (Nat.two_pow_pos t) h
theorem ratio_cross {c d n m : Nat} {q r e g : Int} (hx : c * 2 ^ (q - e).toNat = n * 2 ^ (e - q).toNat) (hy : d * 2 ^ (r - g).toNat = m * 2 ^ (g - r).toNat) :
    c * m * 2 ^ ((q - r) - (e - g)).toNat = n * d * 2 ^ ((e - g) - (q - r)).toNat := by
  have e1 : c * m * 2 ^ ((q - e).toNat + (g - r).toNat) = n * d * 2 ^ ((e - q).toNat + (r - g).toNat) := by
    rw [Nat.pow_add, Nat.pow_add]
    calc c * m * (2 ^ (q - e).toNat * 2 ^ (g - r).toNat) = (c * 2 ^ (q - e).toNat) * (m * 2 ^ (g - r).toNat) := by ac_rfl
      _ = (n * 2 ^ (e - q).toNat) * (d * 2 ^ (r - g).toNat) := by rw [hx, hy]
      _ = _ := by ac_rfl
  have k : ((q - e).toNat : Int) + (g - r).toNat - ((e - q).toNat + (r - g).toNat) = (q - r) - (e - g) := by omega
  refine scale_eq (t := min ((q - e).toNat + (g - r).toNat) ((e - q).toNat + (r - g).toNat)) ?_
  rw [show ((q - r) - (e - g)).toNat + min ((q - e).toNat + (g - r).toNat) ((e - q).toNat + (r - g).toNat) = (q - e).toNat + (g - r).toNat by omega,
    show ((e - g) - (q - r)).toNat + min ((q - e).toNat + (g - r).toNat) ((e - q).toNat + (r - g).toNat) = (e - q).toNat + (r - g).toNat by omega]
  exact e1
/-- a quotient is the rounding of the ratio of the two values -/
theorem quot_ratio {f : Fmt} {s t : Bool} {c d : Nat} {q r i j e g : Int} (hx : Val i e (.fin s c q)) (hy : Val j g (.fin t d r)) (hj : j ≠ 0) :
    quotient f (.fin s c q) (.fin t d r) = roundRatio f (s != t) i.natAbs j.natAbs (e - g) := by
  have hd : d ≠ 0 := fun z => hj ((val_zero hy).mp z)
  show (if d = 0 then _ else roundRatio f (s != t) c d (q - r)) = _
  rw [if_neg hd]
  exact roundRatio_congr (by omega) (by omega) (ratio_cross (val_abs hx) (val_abs hy))
theorem val_quot {f : Fmt} (hf : Good f) {i j k e g : Int} {x y : Datum} (hx : Val i e x) (hy : Val j g y) (hj : j ≠ 0) (hk : i = k * j) (hb : k.natAbs < 2 ^ f.p) (h1 : f.qmin ≤ e - g) (h2 : e - g ≤ f.qmax) : Val k (e - g) (quotient f x y) := by
  obtain ⟨s, c, q, rfl⟩ := val_fin hx
  obtain ⟨t, d, r, rfl⟩ := val_fin hy
  rw [quot_ratio hx hy hj]
  have hv : Val k (e - g) (.fin (s != t) k.natAbs (e - g)) := by
    show signed (s != t) k.natAbs * _ = k * _
    congr 1
    by_cases h0 : k = 0
    · rw [h0]; exact signed_zero _
    · have hi : i ≠ 0 := by rw [hk]; exact Int.mul_ne_zero h0 hj
      rw [val_sign hx hi, val_sign hy hj, hk]
      have q : (decide (k * j < 0) != decide (j < 0)) = decide (k < 0) := by
        rcases Int.lt_or_gt_of_ne hj with hj | hj <;> rcases Int.lt_or_gt_of_ne h0 with h0 | h0
        · have := Int.mul_pos_of_neg_of_neg h0 hj
          rw [decide_eq_false (show ¬ k * j < 0 by omega), decide_eq_true hj, decide_eq_true h0]; rfl
        · have := Int.mul_neg_of_pos_of_neg h0 hj
          rw [decide_eq_true this, decide_eq_true hj, decide_eq_false (show ¬ k < 0 by omega)]; rfl
        · have := Int.mul_neg_of_neg_of_pos h0 hj
          rw [decide_eq_true this, decide_eq_false (show ¬ j < 0 by omega), decide_eq_true h0]; rfl
        · have := Int.mul_pos h0 hj
          rw [decide_eq_false (show ¬ k * j < 0 by omega), decide_eq_false (show ¬ j < 0 by omega), decide_eq_false (show ¬ k < 0 by omega)]; rfl
      rw [q]; unfold signed
      by_cases h : k < 0 <;> simp [h] <;> omega
  have e1 : roundRatio f (s != t) i.natAbs j.natAbs (e - g) = round f (.fin (s != t) k.natAbs (e - g)) := by
    refine roundRatio_congr (by omega) (by decide) ?_
    rw [hk, Int.natAbs_mul]; simp
  rw [e1]
  exact val_round hf hv hb h1 h2
/-! on the bits of a double -/
def DV (i e : Int) (a : UInt64) : Prop := Val i e (val64 a)
theorem DV.fin {i e : Int} {a : UInt64} (h : DV i e a) : DFin a := val_fin h
theorem DV.fin64 {i e : Int} {a : UInt64} (h : DV i e a) : Jvm.Free.Fl.Fin64 a := Jvm.Free.Fl.fin64_core.mpr h.fin
theorem DV.nn {i e : Int} {a : UInt64} (h : DV i e a) : Jvm.Free.Fl.NoNaN64 a := h.fin64.noNaN
theorem dv_lit {i e : Int} {a : UInt64} (s : Bool) (c : Nat) (q : Int) (h1 : val64 a = .fin s c q) (h2 : signed s c * ((2 ^ (q - e).toNat : Nat) : Int) = i * ((2 ^ (e - q).toNat : Nat) : Int)) : DV i e a := by
  unfold DV; rw [h1]; exact h2
theorem dv_int {i : Int} {a : UInt64} : DV i 0 a ↔ DInt i a := val_whole
theorem dv_shift {i e : Int} {a : UInt64} (k : Nat) : DV i e a ↔ DV (i * ((2 ^ k : Nat) : Int)) (e - k) a := val_shift k
theorem dv_add {i j e : Int} {a b : UInt64} (ha : DV i e a) (hb : DV j e b) (h : (i + j).natAbs < 2 ^ 53) (h1 : -1074 ≤ e) (h2 : e ≤ 971) : DV (i + j) e (FP.dadd a b) := by
  unfold DV; rw [show FP.dadd a b = dadd a b from rfl, val64_dadd]; exact val_round good_b64 (val_sum ha hb) h h1 h2
theorem dv_sub {i j e : Int} {a b : UInt64} (ha : DV i e a) (hb : DV j e b) (h : (i - j).natAbs < 2 ^ 53) (h1 : -1074 ≤ e) (h2 : e ≤ 971) : DV (i - j) e (FP.dsub a b) := by
  unfold DV; rw [show FP.dsub a b = dsub a b from rfl, val64_dsub]; exact val_round good_b64 (val_sum ha (val_neg hb)) h h1 h2
theorem dv_mul {i j e g : Int} {a b : UInt64} (ha : DV i e a) (hb : DV j g b) (h : (i * j).natAbs < 2 ^ 53) (h1 : -1074 ≤ e + g) (h2 : e + g ≤ 971) : DV (i * j) (e + g) (FP.dmul a b) := by
  unfold DV; rw [show FP.dmul a b = dmul a b from rfl, val64_dmul]; exact val_round good_b64 (val_prod ha hb) h h1 h2
theorem dv_div {i j k e g : Int} {a b : UInt64} (ha : DV i e a) (hb : DV j g b) (hj : j ≠ 0) (hk : i = k * j) (h : k.natAbs < 2 ^ 53) (h1 : -1074 ≤ e - g) (h2 : e - g ≤ 971) : DV k (e - g) (FP.ddiv a b) := by
  unfold DV; rw [show FP.ddiv a b = ddiv a b from rfl, val64_ddiv]; exact val_quot good_b64 ha hb hj hk h h1 h2
theorem dv_cmp {i j e : Int} {a b : UInt64} (ha : DV i e a) (hb : DV j e b) : FP.dcmp a b = some (compare i j) := val_order ha hb
theorem dv_i2d (n : Int32) : DV n.toInt 0 (FP.i2d n) := dv_int.mpr (i2d_int n)
theorem dv_l2d {n : Int64} (h : n.toInt.natAbs ≤ 2 ^ 53) : DV n.toInt 0 (FP.l2d n) := dv_int.mpr (l2d_int h)
/-- what dcmpl and dcmpg push -/
theorem cv_eq {i j e : Int} {a b : UInt64} (ha : DV i e a) (hb : DV j e b) (o : Jvm.ClassFile.CmpOp) (h : i = j) : Jvm.Op.cmpValue (FP.dcmp a b) o = 0 := by
  rw [dv_cmp ha hb, (compare_eq_iff i j).mpr h]; cases o <;> rfl
theorem cv_lt {i j e : Int} {a b : UInt64} (ha : DV i e a) (hb : DV j e b) (o : Jvm.ClassFile.CmpOp) (h : i < j) : Jvm.Op.cmpValue (FP.dcmp a b) o = -1 := by
  rw [dv_cmp ha hb, (compare_lt_iff i j).mpr h]; cases o <;> rfl
theorem cv_gt {i j e : Int} {a b : UInt64} (ha : DV i e a) (hb : DV j e b) (o : Jvm.ClassFile.CmpOp) (h : j < i) : Jvm.Op.cmpValue (FP.dcmp a b) o = 1 := by
  rw [dv_cmp ha hb, (compare_gt_iff i j).mpr h]; cases o <;> rfl
theorem cv_neg {i j e : Int} {a b : UInt64} (ha : DV i e a) (hb : DV j e b) (o : Jvm.ClassFile.CmpOp) : (Jvm.Op.cmpValue (FP.dcmp a b) o < (0 : Int32)) ↔ i < j := by
  rcases Int.lt_trichotomy i j with h | h | h
  · rw [cv_lt ha hb o h]; exact ⟨fun _ => h, fun _ => by decide⟩
  · rw [cv_eq ha hb o h]; exact ⟨fun z => absurd z (by decide), fun z => by omega⟩
  · rw [cv_gt ha hb o h]; exact ⟨fun z => absurd z (by decide), fun z => by omega⟩
theorem cv_pos {i j e : Int} {a b : UInt64} (ha : DV i e a) (hb : DV j e b) (o : Jvm.ClassFile.CmpOp) : ((0 : Int32) < Jvm.Op.cmpValue (FP.dcmp a b) o) ↔ j < i := by
  rcases Int.lt_trichotomy i j with h | h | h
  · rw [cv_lt ha hb o h]; exact ⟨fun z => absurd z (by decide), fun z => by omega⟩
  · rw [cv_eq ha hb o h]; exact ⟨fun z => absurd z (by decide), fun z => by omega⟩
  · rw [cv_gt ha hb o h]; exact ⟨fun _ => h, fun _ => by decide⟩
theorem dv_neg {i e : Int} {a : UInt64} (ha : DV i e a) : DV (-i) e (FP.dneg a) := by
  unfold DV; rw [Jvm.FP.val64_dneg]; exact val_neg ha
end Jvm.Pilot.@@N@@.FV
namespace Jvm.Pilot.@@N@@
open Jvm Jvm.ClassFile Sem Op Lib Jvm.Free Jvm.Stand Jvm.LawKit Jvm.RoadKit Bundle Jvm.Pilot.@@N@@.Jvm.D
/-- a double that is the whole number e, at most N off nought -/
def DB (e : Int) (N : Nat) (v : UInt64) : Prop := Jvm.FP.Core.DInt e v ∧ e.natAbs ≤ N
theorem DB.fin {e : Int} {N : Nat} {v : UInt64} (h : DB e N v) : Jvm.Free.Fl.Fin64 v := (FV.dv_int.mpr h.1).fin64
theorem DB.nn {e : Int} {N : Nat} {v : UInt64} (h : DB e N v) : Jvm.Free.Fl.NoNaN64 v := h.fin.noNaN
theorem db_add {e f : Int} {N M : Nat} {v w : UInt64} (hv : DB e N v) (hw : DB f M w) (hb : N + M ≤ 2 ^ 53) : DB (e + f) (N + M) (FP.dadd v w) := by
  obtain ⟨a1, a2⟩ := hv; obtain ⟨b1, b2⟩ := hw
  exact ⟨Jvm.FP.Core.dadd_int a1 b1 (by omega), by omega⟩
theorem db_sub {e f : Int} {N M : Nat} {v w : UInt64} (hv : DB e N v) (hw : DB f M w) (hb : N + M ≤ 2 ^ 53) : DB (e - f) (N + M) (FP.dsub v w) := by
  obtain ⟨a1, a2⟩ := hv; obtain ⟨b1, b2⟩ := hw
  exact ⟨Jvm.FP.Core.dsub_int a1 b1 (by omega), by omega⟩
theorem db_mul {e f : Int} {N M : Nat} {v w : UInt64} (hv : DB e N v) (hw : DB f M w) (hb : N * M ≤ 2 ^ 53) : DB (e * f) (N * M) (FP.dmul v w) := by
  obtain ⟨a1, a2⟩ := hv; obtain ⟨b1, b2⟩ := hw
  have h : (e * f).natAbs ≤ N * M := by rw [Int.natAbs_mul]; exact Nat.mul_le_mul a2 b2
  exact ⟨Jvm.FP.Core.dmul_int a1 b1 (Nat.le_trans h hb), h⟩
def IB (e : Int) (N : Nat) (a : Int64) : Prop := a.toInt = e ∧ e.natAbs ≤ N
theorem ib_add {e f : Int} {N M : Nat} {a c : Int64} (ha : IB e N a) (hc : IB f M c) (hb : N + M ≤ 2 ^ 62) : IB (e + f) (N + M) (a + c) := by
  obtain ⟨rfl, a2⟩ := ha; obtain ⟨rfl, b2⟩ := hc
  exact ⟨Jvm.FP.Core.int64_add (by omega) (by omega), by omega⟩
theorem ib_sub {e f : Int} {N M : Nat} {a c : Int64} (ha : IB e N a) (hc : IB f M c) (hb : N + M ≤ 2 ^ 62) : IB (e - f) (N + M) (a - c) := by
  obtain ⟨rfl, a2⟩ := ha; obtain ⟨rfl, b2⟩ := hc
  exact ⟨Jvm.FP.Core.int64_sub (by omega) (by omega), by omega⟩
theorem ib_mul {e f : Int} {N M : Nat} {a c : Int64} (ha : IB e N a) (hc : IB f M c) (hb : N * M ≤ 2 ^ 62) : IB (e * f) (N * M) (a * c) := by
  obtain ⟨rfl, a2⟩ := ha; obtain ⟨rfl, b2⟩ := hc
  have h : (a.toInt * c.toInt).natAbs ≤ N * M := by rw [Int.natAbs_mul]; exact Nat.mul_le_mul a2 b2
  exact ⟨Jvm.FP.Core.int64_mul (by omega) (by omega), h⟩
theorem own_k1 : DB 1 1 (4607182418800017408 : UInt64) := ⟨FV.dv_int.mp (FV.dv_lit false 4503599627370496 (-52) (by decide +kernel) (by decide)), by decide⟩
theorem own_k2 : DB 2 2 (4611686018427387904 : UInt64) := ⟨FV.dv_int.mp (FV.dv_lit false 4503599627370496 (-51) (by decide +kernel) (by decide)), by decide⟩
theorem own_k3 : DB 3 3 (4613937818241073152 : UInt64) := ⟨FV.dv_int.mp (FV.dv_lit false 6755399441055744 (-51) (by decide +kernel) (by decide)), by decide⟩
theorem own_k6 : DB 6 6 (4618441417868443648 : UInt64) := ⟨FV.dv_int.mp (FV.dv_lit false 6755399441055744 (-50) (by decide +kernel) (by decide)), by decide⟩
theorem own_k12 : DB 12 12 (4622945017495814144 : UInt64) := ⟨FV.dv_int.mp (FV.dv_lit false 6755399441055744 (-49) (by decide +kernel) (by decide)), by decide⟩
theorem own_k14 : DB 14 14 (4624070917402656768 : UInt64) := ⟨FV.dv_int.mp (FV.dv_lit false 7881299347898368 (-49) (by decide +kernel) (by decide)), by decide⟩
theorem own_k18 : DB 18 18 (4625759767262920704 : UInt64) := ⟨FV.dv_int.mp (FV.dv_lit false 5066549580791808 (-48) (by decide +kernel) (by decide)), by decide⟩
theorem own_k19 : DB 19 19 (4626041242239631360 : UInt64) := ⟨FV.dv_int.mp (FV.dv_lit false 5348024557502464 (-48) (by decide +kernel) (by decide)), by decide⟩
theorem own_k27 : DB 27 27 (4628293042053316608 : UInt64) := ⟨FV.dv_int.mp (FV.dv_lit false 7599824371187712 (-48) (by decide +kernel) (by decide)), by decide⟩
theorem own_k30 : DB 30 30 (4629137466983448576 : UInt64) := ⟨FV.dv_int.mp (FV.dv_lit false 8444249301319680 (-48) (by decide +kernel) (by decide)), by decide⟩
theorem own_k32 : DB 32 32 (4629700416936869888 : UInt64) := ⟨FV.dv_int.mp (FV.dv_lit false 4503599627370496 (-47) (by decide +kernel) (by decide)), by decide⟩
theorem own_k36 : DB 36 36 (4630263366890291200 : UInt64) := ⟨FV.dv_int.mp (FV.dv_lit false 5066549580791808 (-47) (by decide +kernel) (by decide)), by decide⟩
theorem own_k48 : DB 48 48 (4631952216750555136 : UInt64) := ⟨FV.dv_int.mp (FV.dv_lit false 6755399441055744 (-47) (by decide +kernel) (by decide)), by decide⟩
def own_g1 (X Y : UInt64) : UInt64 := FP.dadd X Y
theorem own_g1_d {i j : Int} {X Y : UInt64} (hX : DB i 1024 X) (hY : DB j 1024 Y) : DB (i + j) (1024 + 1024) (own_g1 X Y) := db_add hX hY (by decide)
def own_g2 (X Y : UInt64) : UInt64 := FP.dadd (own_g1 X Y) (4607182418800017408 : UInt64)
theorem own_g2_d {i j : Int} {X Y : UInt64} (hX : DB i 1024 X) (hY : DB j 1024 Y) : DB ((i + j) + 1) ((1024 + 1024) + 1) (own_g2 X Y) := db_add (own_g1_d hX hY) own_k1 (by decide)
def own_g3 (X Y : UInt64) : UInt64 := FP.dmul (4611686018427387904 : UInt64) X
theorem own_g3_d {i j : Int} {X Y : UInt64} (hX : DB i 1024 X) (hY : DB j 1024 Y) : DB (2 * i) (2 * 1024) (own_g3 X Y) := db_mul own_k2 hX (by decide)
def own_g4 (X Y : UInt64) : UInt64 := FP.dmul (4613937818241073152 : UInt64) Y
theorem own_g4_d {i j : Int} {X Y : UInt64} (hX : DB i 1024 X) (hY : DB j 1024 Y) : DB (3 * j) (3 * 1024) (own_g4 X Y) := db_mul own_k3 hY (by decide)
def own_g5 (X Y : UInt64) : UInt64 := FP.dsub (own_g3 X Y) (own_g4 X Y)
theorem own_g5_d {i j : Int} {X Y : UInt64} (hX : DB i 1024 X) (hY : DB j 1024 Y) : DB ((2 * i) - (3 * j)) ((2 * 1024) + (3 * 1024)) (own_g5 X Y) := db_sub (own_g3_d hX hY) (own_g4_d hX hY) (by decide)
def own_g6 (X Y : UInt64) : UInt64 := FP.dmul (own_g2 X Y) (own_g2 X Y)
theorem own_g6_d {i j : Int} {X Y : UInt64} (hX : DB i 1024 X) (hY : DB j 1024 Y) : DB (((i + j) + 1) * ((i + j) + 1)) (((1024 + 1024) + 1) * ((1024 + 1024) + 1)) (own_g6 X Y) := db_mul (own_g2_d hX hY) (own_g2_d hX hY) (by decide)
def own_g7 (X Y : UInt64) : UInt64 := FP.dmul (4624070917402656768 : UInt64) X
theorem own_g7_d {i j : Int} {X Y : UInt64} (hX : DB i 1024 X) (hY : DB j 1024 Y) : DB (14 * i) (14 * 1024) (own_g7 X Y) := db_mul own_k14 hX (by decide)
def own_g8 (X Y : UInt64) : UInt64 := FP.dsub (4626041242239631360 : UInt64) (own_g7 X Y)
theorem own_g8_d {i j : Int} {X Y : UInt64} (hX : DB i 1024 X) (hY : DB j 1024 Y) : DB (19 - (14 * i)) (19 + (14 * 1024)) (own_g8 X Y) := db_sub own_k19 (own_g7_d hX hY) (by decide)
def own_g9 (X Y : UInt64) : UInt64 := FP.dmul (4613937818241073152 : UInt64) X
theorem own_g9_d {i j : Int} {X Y : UInt64} (hX : DB i 1024 X) (hY : DB j 1024 Y) : DB (3 * i) (3 * 1024) (own_g9 X Y) := db_mul own_k3 hX (by decide)
def own_g10 (X Y : UInt64) : UInt64 := FP.dmul (own_g9 X Y) X
theorem own_g10_d {i j : Int} {X Y : UInt64} (hX : DB i 1024 X) (hY : DB j 1024 Y) : DB ((3 * i) * i) ((3 * 1024) * 1024) (own_g10 X Y) := db_mul (own_g9_d hX hY) hX (by decide)
def own_g11 (X Y : UInt64) : UInt64 := FP.dadd (own_g8 X Y) (own_g10 X Y)
theorem own_g11_d {i j : Int} {X Y : UInt64} (hX : DB i 1024 X) (hY : DB j 1024 Y) : DB ((19 - (14 * i)) + ((3 * i) * i)) ((19 + (14 * 1024)) + ((3 * 1024) * 1024)) (own_g11 X Y) := db_add (own_g8_d hX hY) (own_g10_d hX hY) (by decide)
def own_g12 (X Y : UInt64) : UInt64 := FP.dmul (4624070917402656768 : UInt64) Y
theorem own_g12_d {i j : Int} {X Y : UInt64} (hX : DB i 1024 X) (hY : DB j 1024 Y) : DB (14 * j) (14 * 1024) (own_g12 X Y) := db_mul own_k14 hY (by decide)
def own_g13 (X Y : UInt64) : UInt64 := FP.dsub (own_g11 X Y) (own_g12 X Y)
theorem own_g13_d {i j : Int} {X Y : UInt64} (hX : DB i 1024 X) (hY : DB j 1024 Y) : DB (((19 - (14 * i)) + ((3 * i) * i)) - (14 * j)) (((19 + (14 * 1024)) + ((3 * 1024) * 1024)) + (14 * 1024)) (own_g13 X Y) := db_sub (own_g11_d hX hY) (own_g12_d hX hY) (by decide)
def own_g14 (X Y : UInt64) : UInt64 := FP.dmul (4618441417868443648 : UInt64) X
theorem own_g14_d {i j : Int} {X Y : UInt64} (hX : DB i 1024 X) (hY : DB j 1024 Y) : DB (6 * i) (6 * 1024) (own_g14 X Y) := db_mul own_k6 hX (by decide)
def own_g15 (X Y : UInt64) : UInt64 := FP.dmul (own_g14 X Y) Y
theorem own_g15_d {i j : Int} {X Y : UInt64} (hX : DB i 1024 X) (hY : DB j 1024 Y) : DB ((6 * i) * j) ((6 * 1024) * 1024) (own_g15 X Y) := db_mul (own_g14_d hX hY) hY (by decide)
def own_g16 (X Y : UInt64) : UInt64 := FP.dadd (own_g13 X Y) (own_g15 X Y)
theorem own_g16_d {i j : Int} {X Y : UInt64} (hX : DB i 1024 X) (hY : DB j 1024 Y) : DB ((((19 - (14 * i)) + ((3 * i) * i)) - (14 * j)) + ((6 * i) * j)) ((((19 + (14 * 1024)) + ((3 * 1024) * 1024)) + (14 * 1024)) + ((6 * 1024) * 1024)) (own_g16 X Y) := db_add (own_g13_d hX hY) (own_g15_d hX hY) (by decide)
def own_g17 (X Y : UInt64) : UInt64 := FP.dmul (4613937818241073152 : UInt64) Y
theorem own_g17_d {i j : Int} {X Y : UInt64} (hX : DB i 1024 X) (hY : DB j 1024 Y) : DB (3 * j) (3 * 1024) (own_g17 X Y) := db_mul own_k3 hY (by decide)
def own_g18 (X Y : UInt64) : UInt64 := FP.dmul (own_g17 X Y) Y
theorem own_g18_d {i j : Int} {X Y : UInt64} (hX : DB i 1024 X) (hY : DB j 1024 Y) : DB ((3 * j) * j) ((3 * 1024) * 1024) (own_g18 X Y) := db_mul (own_g17_d hX hY) hY (by decide)
def own_g19 (X Y : UInt64) : UInt64 := FP.dadd (own_g16 X Y) (own_g18 X Y)
theorem own_g19_d {i j : Int} {X Y : UInt64} (hX : DB i 1024 X) (hY : DB j 1024 Y) : DB (((((19 - (14 * i)) + ((3 * i) * i)) - (14 * j)) + ((6 * i) * j)) + ((3 * j) * j)) (((((19 + (14 * 1024)) + ((3 * 1024) * 1024)) + (14 * 1024)) + ((6 * 1024) * 1024)) + ((3 * 1024) * 1024)) (own_g19 X Y) := db_add (own_g16_d hX hY) (own_g18_d hX hY) (by decide)
def own_g20 (X Y : UInt64) : UInt64 := FP.dmul (own_g6 X Y) (own_g19 X Y)
theorem own_g20_d {i j : Int} {X Y : UInt64} (hX : DB i 1024 X) (hY : DB j 1024 Y) : DB ((((i + j) + 1) * ((i + j) + 1)) * (((((19 - (14 * i)) + ((3 * i) * i)) - (14 * j)) + ((6 * i) * j)) + ((3 * j) * j))) ((((1024 + 1024) + 1) * ((1024 + 1024) + 1)) * (((((19 + (14 * 1024)) + ((3 * 1024) * 1024)) + (14 * 1024)) + ((6 * 1024) * 1024)) + ((3 * 1024) * 1024))) (own_g20 X Y) := db_mul (own_g6_d hX hY) (own_g19_d hX hY) (by decide)
def own_g21 (X Y : UInt64) : UInt64 := FP.dadd (4607182418800017408 : UInt64) (own_g20 X Y)
theorem own_g21_d {i j : Int} {X Y : UInt64} (hX : DB i 1024 X) (hY : DB j 1024 Y) : DB (1 + ((((i + j) + 1) * ((i + j) + 1)) * (((((19 - (14 * i)) + ((3 * i) * i)) - (14 * j)) + ((6 * i) * j)) + ((3 * j) * j)))) (1 + ((((1024 + 1024) + 1) * ((1024 + 1024) + 1)) * (((((19 + (14 * 1024)) + ((3 * 1024) * 1024)) + (14 * 1024)) + ((6 * 1024) * 1024)) + ((3 * 1024) * 1024)))) (own_g21 X Y) := db_add own_k1 (own_g20_d hX hY) (by decide)
def own_g22 (X Y : UInt64) : UInt64 := FP.dmul (own_g5 X Y) (own_g5 X Y)
theorem own_g22_d {i j : Int} {X Y : UInt64} (hX : DB i 1024 X) (hY : DB j 1024 Y) : DB (((2 * i) - (3 * j)) * ((2 * i) - (3 * j))) (((2 * 1024) + (3 * 1024)) * ((2 * 1024) + (3 * 1024))) (own_g22 X Y) := db_mul (own_g5_d hX hY) (own_g5_d hX hY) (by decide)
def own_g23 (X Y : UInt64) : UInt64 := FP.dmul (4629700416936869888 : UInt64) X
theorem own_g23_d {i j : Int} {X Y : UInt64} (hX : DB i 1024 X) (hY : DB j 1024 Y) : DB (32 * i) (32 * 1024) (own_g23 X Y) := db_mul own_k32 hX (by decide)
def own_g24 (X Y : UInt64) : UInt64 := FP.dsub (4625759767262920704 : UInt64) (own_g23 X Y)
theorem own_g24_d {i j : Int} {X Y : UInt64} (hX : DB i 1024 X) (hY : DB j 1024 Y) : DB (18 - (32 * i)) (18 + (32 * 1024)) (own_g24 X Y) := db_sub own_k18 (own_g23_d hX hY) (by decide)
def own_g25 (X Y : UInt64) : UInt64 := FP.dmul (4622945017495814144 : UInt64) X
theorem own_g25_d {i j : Int} {X Y : UInt64} (hX : DB i 1024 X) (hY : DB j 1024 Y) : DB (12 * i) (12 * 1024) (own_g25 X Y) := db_mul own_k12 hX (by decide)
def own_g26 (X Y : UInt64) : UInt64 := FP.dmul (own_g25 X Y) X
theorem own_g26_d {i j : Int} {X Y : UInt64} (hX : DB i 1024 X) (hY : DB j 1024 Y) : DB ((12 * i) * i) ((12 * 1024) * 1024) (own_g26 X Y) := db_mul (own_g25_d hX hY) hX (by decide)
def own_g27 (X Y : UInt64) : UInt64 := FP.dadd (own_g24 X Y) (own_g26 X Y)
theorem own_g27_d {i j : Int} {X Y : UInt64} (hX : DB i 1024 X) (hY : DB j 1024 Y) : DB ((18 - (32 * i)) + ((12 * i) * i)) ((18 + (32 * 1024)) + ((12 * 1024) * 1024)) (own_g27 X Y) := db_add (own_g24_d hX hY) (own_g26_d hX hY) (by decide)
def own_g28 (X Y : UInt64) : UInt64 := FP.dmul (4631952216750555136 : UInt64) Y
theorem own_g28_d {i j : Int} {X Y : UInt64} (hX : DB i 1024 X) (hY : DB j 1024 Y) : DB (48 * j) (48 * 1024) (own_g28 X Y) := db_mul own_k48 hY (by decide)
def own_g29 (X Y : UInt64) : UInt64 := FP.dadd (own_g27 X Y) (own_g28 X Y)
theorem own_g29_d {i j : Int} {X Y : UInt64} (hX : DB i 1024 X) (hY : DB j 1024 Y) : DB (((18 - (32 * i)) + ((12 * i) * i)) + (48 * j)) (((18 + (32 * 1024)) + ((12 * 1024) * 1024)) + (48 * 1024)) (own_g29 X Y) := db_add (own_g27_d hX hY) (own_g28_d hX hY) (by decide)
def own_g30 (X Y : UInt64) : UInt64 := FP.dmul (4630263366890291200 : UInt64) X
theorem own_g30_d {i j : Int} {X Y : UInt64} (hX : DB i 1024 X) (hY : DB j 1024 Y) : DB (36 * i) (36 * 1024) (own_g30 X Y) := db_mul own_k36 hX (by decide)
def own_g31 (X Y : UInt64) : UInt64 := FP.dmul (own_g30 X Y) Y
theorem own_g31_d {i j : Int} {X Y : UInt64} (hX : DB i 1024 X) (hY : DB j 1024 Y) : DB ((36 * i) * j) ((36 * 1024) * 1024) (own_g31 X Y) := db_mul (own_g30_d hX hY) hY (by decide)
def own_g32 (X Y : UInt64) : UInt64 := FP.dsub (own_g29 X Y) (own_g31 X Y)
theorem own_g32_d {i j : Int} {X Y : UInt64} (hX : DB i 1024 X) (hY : DB j 1024 Y) : DB ((((18 - (32 * i)) + ((12 * i) * i)) + (48 * j)) - ((36 * i) * j)) ((((18 + (32 * 1024)) + ((12 * 1024) * 1024)) + (48 * 1024)) + ((36 * 1024) * 1024)) (own_g32 X Y) := db_sub (own_g29_d hX hY) (own_g31_d hX hY) (by decide)
def own_g33 (X Y : UInt64) : UInt64 := FP.dmul (4628293042053316608 : UInt64) Y
theorem own_g33_d {i j : Int} {X Y : UInt64} (hX : DB i 1024 X) (hY : DB j 1024 Y) : DB (27 * j) (27 * 1024) (own_g33 X Y) := db_mul own_k27 hY (by decide)
def own_g34 (X Y : UInt64) : UInt64 := FP.dmul (own_g33 X Y) Y
theorem own_g34_d {i j : Int} {X Y : UInt64} (hX : DB i 1024 X) (hY : DB j 1024 Y) : DB ((27 * j) * j) ((27 * 1024) * 1024) (own_g34 X Y) := db_mul (own_g33_d hX hY) hY (by decide)
def own_g35 (X Y : UInt64) : UInt64 := FP.dadd (own_g32 X Y) (own_g34 X Y)
theorem own_g35_d {i j : Int} {X Y : UInt64} (hX : DB i 1024 X) (hY : DB j 1024 Y) : DB (((((18 - (32 * i)) + ((12 * i) * i)) + (48 * j)) - ((36 * i) * j)) + ((27 * j) * j)) (((((18 + (32 * 1024)) + ((12 * 1024) * 1024)) + (48 * 1024)) + ((36 * 1024) * 1024)) + ((27 * 1024) * 1024)) (own_g35 X Y) := db_add (own_g32_d hX hY) (own_g34_d hX hY) (by decide)
def own_g36 (X Y : UInt64) : UInt64 := FP.dmul (own_g22 X Y) (own_g35 X Y)
theorem own_g36_d {i j : Int} {X Y : UInt64} (hX : DB i 1024 X) (hY : DB j 1024 Y) : DB ((((2 * i) - (3 * j)) * ((2 * i) - (3 * j))) * (((((18 - (32 * i)) + ((12 * i) * i)) + (48 * j)) - ((36 * i) * j)) + ((27 * j) * j))) ((((2 * 1024) + (3 * 1024)) * ((2 * 1024) + (3 * 1024))) * (((((18 + (32 * 1024)) + ((12 * 1024) * 1024)) + (48 * 1024)) + ((36 * 1024) * 1024)) + ((27 * 1024) * 1024))) (own_g36 X Y) := db_mul (own_g22_d hX hY) (own_g35_d hX hY) (by decide)
def own_g37 (X Y : UInt64) : UInt64 := FP.dadd (4629137466983448576 : UInt64) (own_g36 X Y)
theorem own_g37_d {i j : Int} {X Y : UInt64} (hX : DB i 1024 X) (hY : DB j 1024 Y) : DB (30 + ((((2 * i) - (3 * j)) * ((2 * i) - (3 * j))) * (((((18 - (32 * i)) + ((12 * i) * i)) + (48 * j)) - ((36 * i) * j)) + ((27 * j) * j)))) (30 + ((((2 * 1024) + (3 * 1024)) * ((2 * 1024) + (3 * 1024))) * (((((18 + (32 * 1024)) + ((12 * 1024) * 1024)) + (48 * 1024)) + ((36 * 1024) * 1024)) + ((27 * 1024) * 1024)))) (own_g37 X Y) := db_add own_k30 (own_g36_d hX hY) (by decide)
def own_g38 (X Y : UInt64) : UInt64 := FP.dmul (own_g21 X Y) (own_g37 X Y)
theorem own_g38_n {i j : Int} {X Y : UInt64} (hX : DB i 1024 X) (hY : DB j 1024 Y) : Jvm.Free.Fl.NoNaN64 (own_g38 X Y) := Jvm.Free.Fl.dmul_out (own_g21_d hX hY).fin (own_g37_d hX hY).fin
theorem d1_0 : decode prog_32_method_19_code 0 = .ok (.aload_n 0, 1) := by decide +kernel
theorem d1_1 : decode prog_32_method_19_code 1 = .ok (.iconst 0, 1) := by decide +kernel
theorem d1_2 : decode prog_32_method_19_code 2 = .ok (.daload, 1) := by decide +kernel
theorem d1_3 : decode prog_32_method_19_code 3 = .ok (.dstore_n 1, 1) := by decide +kernel
theorem d1_4 : decode prog_32_method_19_code 4 = .ok (.aload_n 0, 1) := by decide +kernel
theorem d1_5 : decode prog_32_method_19_code 5 = .ok (.iconst 1, 1) := by decide +kernel
theorem d1_6 : decode prog_32_method_19_code 6 = .ok (.daload, 1) := by decide +kernel
theorem d1_7 : decode prog_32_method_19_code 7 = .ok (.dstore_n 3, 1) := by decide +kernel
theorem d1_8 : decode prog_32_method_19_code 8 = .ok (.dload_n 1, 1) := by decide +kernel
theorem d1_9 : decode prog_32_method_19_code 9 = .ok (.dload_n 3, 1) := by decide +kernel
theorem d1_10 : decode prog_32_method_19_code 10 = .ok (.dadd, 1) := by decide +kernel
theorem d1_11 : decode prog_32_method_19_code 11 = .ok (.dconst 1, 1) := by decide +kernel
theorem d1_12 : decode prog_32_method_19_code 12 = .ok (.dadd, 1) := by decide +kernel
theorem d1_13 : decode prog_32_method_19_code 13 = .ok (.dstore 5, 2) := by decide +kernel
theorem d1_15 : decode prog_32_method_19_code 15 = .ok (.ldc2_w 101, 3) := by decide +kernel
theorem d1_18 : decode prog_32_method_19_code 18 = .ok (.dload_n 1, 1) := by decide +kernel
theorem d1_19 : decode prog_32_method_19_code 19 = .ok (.dmul, 1) := by decide +kernel
theorem d1_20 : decode prog_32_method_19_code 20 = .ok (.ldc2_w 91, 3) := by decide +kernel
theorem d1_23 : decode prog_32_method_19_code 23 = .ok (.dload_n 3, 1) := by decide +kernel
theorem d1_24 : decode prog_32_method_19_code 24 = .ok (.dmul, 1) := by decide +kernel
theorem d1_25 : decode prog_32_method_19_code 25 = .ok (.dsub, 1) := by decide +kernel
theorem d1_26 : decode prog_32_method_19_code 26 = .ok (.dstore 7, 2) := by decide +kernel
theorem d1_28 : decode prog_32_method_19_code 28 = .ok (.dconst 1, 1) := by decide +kernel
theorem d1_29 : decode prog_32_method_19_code 29 = .ok (.dload 5, 2) := by decide +kernel
theorem d1_31 : decode prog_32_method_19_code 31 = .ok (.dload 5, 2) := by decide +kernel
theorem d1_33 : decode prog_32_method_19_code 33 = .ok (.dmul, 1) := by decide +kernel
theorem d1_34 : decode prog_32_method_19_code 34 = .ok (.ldc2_w 103, 3) := by decide +kernel
theorem d1_37 : decode prog_32_method_19_code 37 = .ok (.ldc2_w 105, 3) := by decide +kernel
theorem d1_40 : decode prog_32_method_19_code 40 = .ok (.dload_n 1, 1) := by decide +kernel
theorem d1_41 : decode prog_32_method_19_code 41 = .ok (.dmul, 1) := by decide +kernel
theorem d1_42 : decode prog_32_method_19_code 42 = .ok (.dsub, 1) := by decide +kernel
theorem d1_43 : decode prog_32_method_19_code 43 = .ok (.ldc2_w 91, 3) := by decide +kernel
theorem d1_46 : decode prog_32_method_19_code 46 = .ok (.dload_n 1, 1) := by decide +kernel
theorem d1_47 : decode prog_32_method_19_code 47 = .ok (.dmul, 1) := by decide +kernel
theorem d1_48 : decode prog_32_method_19_code 48 = .ok (.dload_n 1, 1) := by decide +kernel
theorem d1_49 : decode prog_32_method_19_code 49 = .ok (.dmul, 1) := by decide +kernel
theorem d1_50 : decode prog_32_method_19_code 50 = .ok (.dadd, 1) := by decide +kernel
theorem d1_51 : decode prog_32_method_19_code 51 = .ok (.ldc2_w 105, 3) := by decide +kernel
theorem d1_54 : decode prog_32_method_19_code 54 = .ok (.dload_n 3, 1) := by decide +kernel
theorem d1_55 : decode prog_32_method_19_code 55 = .ok (.dmul, 1) := by decide +kernel
theorem d1_56 : decode prog_32_method_19_code 56 = .ok (.dsub, 1) := by decide +kernel
theorem d1_57 : decode prog_32_method_19_code 57 = .ok (.ldc2_w 97, 3) := by decide +kernel
theorem d1_60 : decode prog_32_method_19_code 60 = .ok (.dload_n 1, 1) := by decide +kernel
theorem d1_61 : decode prog_32_method_19_code 61 = .ok (.dmul, 1) := by decide +kernel
theorem d1_62 : decode prog_32_method_19_code 62 = .ok (.dload_n 3, 1) := by decide +kernel
theorem d1_63 : decode prog_32_method_19_code 63 = .ok (.dmul, 1) := by decide +kernel
theorem d1_64 : decode prog_32_method_19_code 64 = .ok (.dadd, 1) := by decide +kernel
theorem d1_65 : decode prog_32_method_19_code 65 = .ok (.ldc2_w 91, 3) := by decide +kernel
theorem d1_68 : decode prog_32_method_19_code 68 = .ok (.dload_n 3, 1) := by decide +kernel
theorem d1_69 : decode prog_32_method_19_code 69 = .ok (.dmul, 1) := by decide +kernel
theorem d1_70 : decode prog_32_method_19_code 70 = .ok (.dload_n 3, 1) := by decide +kernel
theorem d1_71 : decode prog_32_method_19_code 71 = .ok (.dmul, 1) := by decide +kernel
theorem d1_72 : decode prog_32_method_19_code 72 = .ok (.dadd, 1) := by decide +kernel
theorem d1_73 : decode prog_32_method_19_code 73 = .ok (.dmul, 1) := by decide +kernel
theorem d1_74 : decode prog_32_method_19_code 74 = .ok (.dadd, 1) := by decide +kernel
theorem d1_75 : decode prog_32_method_19_code 75 = .ok (.dstore 9, 2) := by decide +kernel
theorem d1_77 : decode prog_32_method_19_code 77 = .ok (.ldc2_w 107, 3) := by decide +kernel
theorem d1_80 : decode prog_32_method_19_code 80 = .ok (.dload 7, 2) := by decide +kernel
theorem d1_82 : decode prog_32_method_19_code 82 = .ok (.dload 7, 2) := by decide +kernel
theorem d1_84 : decode prog_32_method_19_code 84 = .ok (.dmul, 1) := by decide +kernel
theorem d1_85 : decode prog_32_method_19_code 85 = .ok (.ldc2_w 109, 3) := by decide +kernel
theorem d1_88 : decode prog_32_method_19_code 88 = .ok (.ldc2_w 111, 3) := by decide +kernel
theorem d1_91 : decode prog_32_method_19_code 91 = .ok (.dload_n 1, 1) := by decide +kernel
theorem d1_92 : decode prog_32_method_19_code 92 = .ok (.dmul, 1) := by decide +kernel
theorem d1_93 : decode prog_32_method_19_code 93 = .ok (.dsub, 1) := by decide +kernel
theorem d1_94 : decode prog_32_method_19_code 94 = .ok (.ldc2_w 113, 3) := by decide +kernel
theorem d1_97 : decode prog_32_method_19_code 97 = .ok (.dload_n 1, 1) := by decide +kernel
theorem d1_98 : decode prog_32_method_19_code 98 = .ok (.dmul, 1) := by decide +kernel
theorem d1_99 : decode prog_32_method_19_code 99 = .ok (.dload_n 1, 1) := by decide +kernel
theorem d1_100 : decode prog_32_method_19_code 100 = .ok (.dmul, 1) := by decide +kernel
theorem d1_101 : decode prog_32_method_19_code 101 = .ok (.dadd, 1) := by decide +kernel
theorem d1_102 : decode prog_32_method_19_code 102 = .ok (.ldc2_w 115, 3) := by decide +kernel
theorem d1_105 : decode prog_32_method_19_code 105 = .ok (.dload_n 3, 1) := by decide +kernel
theorem d1_106 : decode prog_32_method_19_code 106 = .ok (.dmul, 1) := by decide +kernel
theorem d1_107 : decode prog_32_method_19_code 107 = .ok (.dadd, 1) := by decide +kernel
theorem d1_108 : decode prog_32_method_19_code 108 = .ok (.ldc2_w 117, 3) := by decide +kernel
theorem d1_111 : decode prog_32_method_19_code 111 = .ok (.dload_n 1, 1) := by decide +kernel
theorem d1_112 : decode prog_32_method_19_code 112 = .ok (.dmul, 1) := by decide +kernel
theorem d1_113 : decode prog_32_method_19_code 113 = .ok (.dload_n 3, 1) := by decide +kernel
theorem d1_114 : decode prog_32_method_19_code 114 = .ok (.dmul, 1) := by decide +kernel
theorem d1_115 : decode prog_32_method_19_code 115 = .ok (.dsub, 1) := by decide +kernel
theorem d1_116 : decode prog_32_method_19_code 116 = .ok (.ldc2_w 119, 3) := by decide +kernel
theorem d1_119 : decode prog_32_method_19_code 119 = .ok (.dload_n 3, 1) := by decide +kernel
theorem d1_120 : decode prog_32_method_19_code 120 = .ok (.dmul, 1) := by decide +kernel
theorem d1_121 : decode prog_32_method_19_code 121 = .ok (.dload_n 3, 1) := by decide +kernel
theorem d1_122 : decode prog_32_method_19_code 122 = .ok (.dmul, 1) := by decide +kernel
theorem d1_123 : decode prog_32_method_19_code 123 = .ok (.dadd, 1) := by decide +kernel
theorem d1_124 : decode prog_32_method_19_code 124 = .ok (.dmul, 1) := by decide +kernel
theorem d1_125 : decode prog_32_method_19_code 125 = .ok (.dadd, 1) := by decide +kernel
theorem d1_126 : decode prog_32_method_19_code 126 = .ok (.dstore 11, 2) := by decide +kernel
theorem d1_128 : decode prog_32_method_19_code 128 = .ok (.dload 9, 2) := by decide +kernel
theorem d1_130 : decode prog_32_method_19_code 130 = .ok (.dload 11, 2) := by decide +kernel
theorem d1_132 : decode prog_32_method_19_code 132 = .ok (.dmul, 1) := by decide +kernel
theorem d1_133 : decode prog_32_method_19_code 133 = .ok (.dreturn, 1) := by decide +kernel
theorem pn_1 : plainName "com/example/realbreed/realbreed/problems/ClassicSuite" = true := by first | (simp [plainName, overriddenIn]; done) | decide +kernel
theorem ef_rm1 (m : MethodId) (x0 : Addr) : entryFrame m #[(.ref x0)] 13 = mkF m 0 #[.val (.ref x0), .unset, .unset, .unset, .unset, .unset, .unset, .unset, .unset, .unset, .unset, .unset, .unset] [] := by first | (simp [entryFrame, mkF, argsToLocals, Value.category]; done) | rfl
def Q_rm1 (Z : State) (a : Addr) (ka : ClassId) (X : UInt64) (Y : UInt64) (i : Int) (j : Int) (h0 : Heap) (n0 : Nat) (v : Option Value) (h : Heap) (L : List Loc) : Prop := v = some (.double (own_g38 X Y)) ∧ Fr n0 L ∧ h = h0
set_option maxRecDepth 65536 in
set_option maxHeartbeats 40000000 in
theorem rm1 (l : Launch) (Z : State) (a0 : Array Value) (hw : ∀ d ∈ tables_1, d.before a0 Z = true) (ws : List Jvm.Cond) (a : Addr) (ka : ClassId) (X : UInt64) (Y : UInt64) (i : Int) (j : Int) (h0 : Heap) (n0 : Nat) (Z0 : n0 ≤ h0.size) (V_a : Arv Z h0 a ka .double (2 : Int32) [(.double X), (.double Y)] (.double (0 : UInt64))) (hX : DB i 1024 X) (hY : DB j 1024 Y) :
    MetFree l (⟨"com/example/realbreed/realbreed/problems/ClassicSuite", "goldsteinPrice", "([D)D"⟩ : MethodName) (head1 (Jvm.Cond.code (⟨"com/example/realbreed/realbreed/problems/ClassicSuite", "goldsteinPrice", "([D)D"⟩ : MethodName) prog_32_method_19_code 13 (some .double) :: ws) ({ frames := 0, cells := 0, slots := 0, locals := 0 } : Room)) (fun av U => av = #[(.ref a)] ∧ Z.Warmed39 U.vm ∧ U.heap = h0) (fun _ _ _ _ _ => True) (fun _ U o U' => ∃ v L, o = .returned v ∧ Q_rm1 Z a ka X Y i j h0 n0 v U'.heap L ∧ FrameEnd U o U' L ({ frames := 0, cells := 0, slots := 0, locals := 0 } : Room).cells ({ frames := 0, cells := 0, slots := 0, locals := 0 } : Room).slots) := by
  refine MetFree.of_bodySF (plainFor_of_name pn_1) hisR ?_
  intro p e s m args below meth c s₁ Bd hml0 hP hK
  obtain ⟨rfl, hZ, hh⟩ := hP
  have hx := Bd.exec
  have hby := Bd.bytes
  have hml : c.maxLocals = 13 := hml0
  have hown : s.vm.findClass "com/example/realbreed/realbreed/problems/ClassicSuite" = some m.cls := findClass_of_methodNamed Bd.named
  have hnm := (name_of_methodNamed Bd.named Bd.method).1
  have X0 : Stand p l e ({ frames := 0, cells := 0, slots := 0, locals := 0 } : Room) s m #[(.ref a)] below meth c s₁ [] 0 0 := Stand.of_body Bd
  have e0 : s₁.heap = h0 := by rw [← hh, Bd.state]; rfl
  have N0 := Fr.nil n0
  have pre0 : ∀ t, Steps p.tables e below (s₁.setTop (mkF m 0 #[.val (.ref a), .unset, .unset, .unset, .unset, .unset, .unset, .unset, .unset, .unset, .unset, .unset, .unset] [])) t → Steps p.tables e below (s₁.setTop (entryFrame m #[(.ref a)] 13)) t := fun t k => castTop (ef_rm1 m a) k
  have sg1 : ∀ target, Steps p.tables e below (s₁.setTop (mkF m 2 #[.val (.ref a), .unset, .unset, .unset, .unset, .unset, .unset, .unset, .unset, .unset, .unset, .unset, .unset] [(.int (0 : Int32)), (.ref a)])) target → Steps p.tables e below (s₁.setTop (mkF m 0 #[.val (.ref a), .unset, .unset, .unset, .unset, .unset, .unset, .unset, .unset, .unset, .unset, .unset, .unset] [])) target := by
    intro target kt
    show Steps p.tables e below (s₁.setTop (mkF m 0 #[.val (.ref a), .unset, .unset, .unset, .unset, .unset, .unset, .unset, .unset, .unset, .unset, .unset, .unset] [])) _
    refine XS.aloadN X0.here hx rfl (hb hby d1_0) rfl rfl ?_
    show Steps p.tables e below (s₁.setTop (mkF m 1 #[.val (.ref a), .unset, .unset, .unset, .unset, .unset, .unset, .unset, .unset, .unset, .unset, .unset, .unset] [(.ref a)])) _
    refine XS.iconst X0.here hx rfl (hb hby d1_1) ?_
    exact kt
  obtain ⟨cl2, Ar2, -, S2, M2, Hh2, -⟩ := id V_a
  have hin2 : ¬ ((0 : Int32) < 0 ∨ cl2.slots.size ≤ ((0 : Int32)).toNatClampNeg) := inb_of S2 ⟨by decide, by decide⟩
  have hat2 : cl2.slots[((0 : Int32)).toNatClampNeg]? = some (.double X) := Hh2.at hin2 rfl
  have sg3 : ∀ target, Steps p.tables e below (s₁.setTop (mkF m 6 #[.val (.ref a), .val (.double X), .second, .unset, .unset, .unset, .unset, .unset, .unset, .unset, .unset, .unset, .unset] [(.int (1 : Int32)), (.ref a)])) target → Steps p.tables e below (s₁.setTop (mkF m 2 #[.val (.ref a), .unset, .unset, .unset, .unset, .unset, .unset, .unset, .unset, .unset, .unset, .unset, .unset] [(.int (0 : Int32)), (.ref a)])) target := by
    intro target kt
    show Steps p.tables e below (s₁.setTop (mkF m 2 #[.val (.ref a), .unset, .unset, .unset, .unset, .unset, .unset, .unset, .unset, .unset, .unset, .unset, .unset] [(.int (0 : Int32)), (.ref a)])) _
    refine X0.daload hx (j := (0 : Int32)) (v := (.double X)) (by rw [e0]; exact Ar2.1) (State.isArrayOf_alike hZ.alike Ar2.2.1) Ar2.2.2 hin2 hat2 (g := (mkF m 2 #[.val (.ref a), .unset, .unset, .unset, .unset, .unset, .unset, .unset, .unset, .unset, .unset, .unset, .unset] [(.int (0 : Int32)), (.ref a)])) rfl rfl (hb hby d1_2) _ ?_
    show Steps p.tables e below (s₁.setTop (mkF m 3 #[.val (.ref a), .unset, .unset, .unset, .unset, .unset, .unset, .unset, .unset, .unset, .unset, .unset, .unset] [(.double X)])) _
    refine XS.dstoreN X0.here hx rfl (hb hby d1_3) rfl (l' := #[.val (.ref a), .val (.double X), .second, .unset, .unset, .unset, .unset, .unset, .unset, .unset, .unset, .unset, .unset]) rfl ?_
    show Steps p.tables e below (s₁.setTop (mkF m 4 #[.val (.ref a), .val (.double X), .second, .unset, .unset, .unset, .unset, .unset, .unset, .unset, .unset, .unset, .unset] [])) _
    refine XS.aloadN X0.here hx rfl (hb hby d1_4) rfl rfl ?_
    show Steps p.tables e below (s₁.setTop (mkF m 5 #[.val (.ref a), .val (.double X), .second, .unset, .unset, .unset, .unset, .unset, .unset, .unset, .unset, .unset, .unset] [(.ref a)])) _
    refine XS.iconst X0.here hx rfl (hb hby d1_5) ?_
    exact kt
  obtain ⟨cl4, Ar4, -, S4, M4, Hh4, -⟩ := id V_a
  have hin4 : ¬ ((1 : Int32) < 0 ∨ cl4.slots.size ≤ ((1 : Int32)).toNatClampNeg) := inb_of S4 ⟨by decide, by decide⟩
  have hat4 : cl4.slots[((1 : Int32)).toNatClampNeg]? = some (.double Y) := Hh4.at hin4 rfl
  have sg5 : ∀ target, Steps p.tables e below (s₁.setTop (mkF m 133 #[.val (.ref a), .val (.double X), .second, .val (.double Y), .second, .val (.double (own_g2 X Y)), .second, .val (.double (own_g5 X Y)), .second, .val (.double (own_g21 X Y)), .second, .val (.double (own_g37 X Y)), .second] [(.double (own_g38 X Y))])) target → Steps p.tables e below (s₁.setTop (mkF m 6 #[.val (.ref a), .val (.double X), .second, .unset, .unset, .unset, .unset, .unset, .unset, .unset, .unset, .unset, .unset] [(.int (1 : Int32)), (.ref a)])) target := by
    intro target kt
    show Steps p.tables e below (s₁.setTop (mkF m 6 #[.val (.ref a), .val (.double X), .second, .unset, .unset, .unset, .unset, .unset, .unset, .unset, .unset, .unset, .unset] [(.int (1 : Int32)), (.ref a)])) _
    refine X0.daload hx (j := (1 : Int32)) (v := (.double Y)) (by rw [e0]; exact Ar4.1) (State.isArrayOf_alike hZ.alike Ar4.2.1) Ar4.2.2 hin4 hat4 (g := (mkF m 6 #[.val (.ref a), .val (.double X), .second, .unset, .unset, .unset, .unset, .unset, .unset, .unset, .unset, .unset, .unset] [(.int (1 : Int32)), (.ref a)])) rfl rfl (hb hby d1_6) _ ?_
    show Steps p.tables e below (s₁.setTop (mkF m 7 #[.val (.ref a), .val (.double X), .second, .unset, .unset, .unset, .unset, .unset, .unset, .unset, .unset, .unset, .unset] [(.double Y)])) _
    refine XS.dstoreN X0.here hx rfl (hb hby d1_7) rfl (l' := #[.val (.ref a), .val (.double X), .second, .val (.double Y), .second, .unset, .unset, .unset, .unset, .unset, .unset, .unset, .unset]) rfl ?_
    show Steps p.tables e below (s₁.setTop (mkF m 8 #[.val (.ref a), .val (.double X), .second, .val (.double Y), .second, .unset, .unset, .unset, .unset, .unset, .unset, .unset, .unset] [])) _
    refine XS.dloadN X0.here hx rfl (hb hby d1_8) rfl ?_
    show Steps p.tables e below (s₁.setTop (mkF m 9 #[.val (.ref a), .val (.double X), .second, .val (.double Y), .second, .unset, .unset, .unset, .unset, .unset, .unset, .unset, .unset] [(.double X)])) _
    refine XS.dloadN X0.here hx rfl (hb hby d1_9) rfl ?_
    show Steps p.tables e below (s₁.setTop (mkF m 10 #[.val (.ref a), .val (.double X), .second, .val (.double Y), .second, .unset, .unset, .unset, .unset, .unset, .unset, .unset, .unset] [(.double Y), (.double X)])) _
    refine XS.daddS X0.here hx rfl (v := (own_g1 X Y)) (hb hby d1_10) rfl (own_g1_d hX hY).nn rfl ?_
    show Steps p.tables e below (s₁.setTop (mkF m 11 #[.val (.ref a), .val (.double X), .second, .val (.double Y), .second, .unset, .unset, .unset, .unset, .unset, .unset, .unset, .unset] [(.double (own_g1 X Y))])) _
    refine XS.dconst1 X0.here hx rfl (v := (4607182418800017408 : UInt64)) (hb hby d1_11) rfl ?_
    show Steps p.tables e below (s₁.setTop (mkF m 12 #[.val (.ref a), .val (.double X), .second, .val (.double Y), .second, .unset, .unset, .unset, .unset, .unset, .unset, .unset, .unset] [(.double (4607182418800017408 : UInt64)), (.double (own_g1 X Y))])) _
    refine XS.daddS X0.here hx rfl (v := (own_g2 X Y)) (hb hby d1_12) rfl (own_g2_d hX hY).nn rfl ?_
    show Steps p.tables e below (s₁.setTop (mkF m 13 #[.val (.ref a), .val (.double X), .second, .val (.double Y), .second, .unset, .unset, .unset, .unset, .unset, .unset, .unset, .unset] [(.double (own_g2 X Y))])) _
    refine XS.dstore X0.here hx rfl (hb hby d1_13) rfl (l' := #[.val (.ref a), .val (.double X), .second, .val (.double Y), .second, .val (.double (own_g2 X Y)), .second, .unset, .unset, .unset, .unset, .unset, .unset]) rfl ?_
    show Steps p.tables e below (s₁.setTop (mkF m 15 #[.val (.ref a), .val (.double X), .second, .val (.double Y), .second, .val (.double (own_g2 X Y)), .second, .unset, .unset, .unset, .unset, .unset, .unset] [])) _
    refine X0.ldc2DoubleC hx hown (mvT hZ (hw _ (List.mem_of_getElem? (i := 12) rfl))) (g := (mkF m 15 #[.val (.ref a), .val (.double X), .second, .val (.double Y), .second, .val (.double (own_g2 X Y)), .second, .unset, .unset, .unset, .unset, .unset, .unset] [])) rfl (hb hby d1_15) _ ?_
    show Steps p.tables e below (s₁.setTop (mkF m 18 #[.val (.ref a), .val (.double X), .second, .val (.double Y), .second, .val (.double (own_g2 X Y)), .second, .unset, .unset, .unset, .unset, .unset, .unset] [(.double (4611686018427387904 : UInt64))])) _
    refine XS.dloadN X0.here hx rfl (hb hby d1_18) rfl ?_
    show Steps p.tables e below (s₁.setTop (mkF m 19 #[.val (.ref a), .val (.double X), .second, .val (.double Y), .second, .val (.double (own_g2 X Y)), .second, .unset, .unset, .unset, .unset, .unset, .unset] [(.double X), (.double (4611686018427387904 : UInt64))])) _
    refine XS.dmulS X0.here hx rfl (v := (own_g3 X Y)) (hb hby d1_19) rfl (own_g3_d hX hY).nn rfl ?_
    show Steps p.tables e below (s₁.setTop (mkF m 20 #[.val (.ref a), .val (.double X), .second, .val (.double Y), .second, .val (.double (own_g2 X Y)), .second, .unset, .unset, .unset, .unset, .unset, .unset] [(.double (own_g3 X Y))])) _
    refine X0.ldc2DoubleC hx hown (mvT hZ (hw _ (List.mem_of_getElem? (i := 13) rfl))) (g := (mkF m 20 #[.val (.ref a), .val (.double X), .second, .val (.double Y), .second, .val (.double (own_g2 X Y)), .second, .unset, .unset, .unset, .unset, .unset, .unset] [(.double (own_g3 X Y))])) rfl (hb hby d1_20) _ ?_
    show Steps p.tables e below (s₁.setTop (mkF m 23 #[.val (.ref a), .val (.double X), .second, .val (.double Y), .second, .val (.double (own_g2 X Y)), .second, .unset, .unset, .unset, .unset, .unset, .unset] [(.double (4613937818241073152 : UInt64)), (.double (own_g3 X Y))])) _
    refine XS.dloadN X0.here hx rfl (hb hby d1_23) rfl ?_
    show Steps p.tables e below (s₁.setTop (mkF m 24 #[.val (.ref a), .val (.double X), .second, .val (.double Y), .second, .val (.double (own_g2 X Y)), .second, .unset, .unset, .unset, .unset, .unset, .unset] [(.double Y), (.double (4613937818241073152 : UInt64)), (.double (own_g3 X Y))])) _
    refine XS.dmulS X0.here hx rfl (v := (own_g4 X Y)) (hb hby d1_24) rfl (own_g4_d hX hY).nn rfl ?_
    show Steps p.tables e below (s₁.setTop (mkF m 25 #[.val (.ref a), .val (.double X), .second, .val (.double Y), .second, .val (.double (own_g2 X Y)), .second, .unset, .unset, .unset, .unset, .unset, .unset] [(.double (own_g4 X Y)), (.double (own_g3 X Y))])) _
    refine XS.dsubS X0.here hx rfl (v := (own_g5 X Y)) (hb hby d1_25) rfl (own_g5_d hX hY).nn rfl ?_
    show Steps p.tables e below (s₁.setTop (mkF m 26 #[.val (.ref a), .val (.double X), .second, .val (.double Y), .second, .val (.double (own_g2 X Y)), .second, .unset, .unset, .unset, .unset, .unset, .unset] [(.double (own_g5 X Y))])) _
    refine XS.dstore X0.here hx rfl (hb hby d1_26) rfl (l' := #[.val (.ref a), .val (.double X), .second, .val (.double Y), .second, .val (.double (own_g2 X Y)), .second, .val (.double (own_g5 X Y)), .second, .unset, .unset, .unset, .unset]) rfl ?_
    show Steps p.tables e below (s₁.setTop (mkF m 28 #[.val (.ref a), .val (.double X), .second, .val (.double Y), .second, .val (.double (own_g2 X Y)), .second, .val (.double (own_g5 X Y)), .second, .unset, .unset, .unset, .unset] [])) _
    refine XS.dconst1 X0.here hx rfl (v := (4607182418800017408 : UInt64)) (hb hby d1_28) rfl ?_
    show Steps p.tables e below (s₁.setTop (mkF m 29 #[.val (.ref a), .val (.double X), .second, .val (.double Y), .second, .val (.double (own_g2 X Y)), .second, .val (.double (own_g5 X Y)), .second, .unset, .unset, .unset, .unset] [(.double (4607182418800017408 : UInt64))])) _
    refine XS.dload X0.here hx rfl (hb hby d1_29) rfl ?_
    show Steps p.tables e below (s₁.setTop (mkF m 31 #[.val (.ref a), .val (.double X), .second, .val (.double Y), .second, .val (.double (own_g2 X Y)), .second, .val (.double (own_g5 X Y)), .second, .unset, .unset, .unset, .unset] [(.double (own_g2 X Y)), (.double (4607182418800017408 : UInt64))])) _
    refine XS.dload X0.here hx rfl (hb hby d1_31) rfl ?_
    show Steps p.tables e below (s₁.setTop (mkF m 33 #[.val (.ref a), .val (.double X), .second, .val (.double Y), .second, .val (.double (own_g2 X Y)), .second, .val (.double (own_g5 X Y)), .second, .unset, .unset, .unset, .unset] [(.double (own_g2 X Y)), (.double (own_g2 X Y)), (.double (4607182418800017408 : UInt64))])) _
    refine XS.dmulS X0.here hx rfl (v := (own_g6 X Y)) (hb hby d1_33) rfl (own_g6_d hX hY).nn rfl ?_
    show Steps p.tables e below (s₁.setTop (mkF m 34 #[.val (.ref a), .val (.double X), .second, .val (.double Y), .second, .val (.double (own_g2 X Y)), .second, .val (.double (own_g5 X Y)), .second, .unset, .unset, .unset, .unset] [(.double (own_g6 X Y)), (.double (4607182418800017408 : UInt64))])) _
    refine X0.ldc2DoubleC hx hown (mvT hZ (hw _ (List.mem_of_getElem? (i := 14) rfl))) (g := (mkF m 34 #[.val (.ref a), .val (.double X), .second, .val (.double Y), .second, .val (.double (own_g2 X Y)), .second, .val (.double (own_g5 X Y)), .second, .unset, .unset, .unset, .unset] [(.double (own_g6 X Y)), (.double (4607182418800017408 : UInt64))])) rfl (hb hby d1_34) _ ?_
    show Steps p.tables e below (s₁.setTop (mkF m 37 #[.val (.ref a), .val (.double X), .second, .val (.double Y), .second, .val (.double (own_g2 X Y)), .second, .val (.double (own_g5 X Y)), .second, .unset, .unset, .unset, .unset] [(.double (4626041242239631360 : UInt64)), (.double (own_g6 X Y)), (.double (4607182418800017408 : UInt64))])) _
    refine X0.ldc2DoubleC hx hown (mvT hZ (hw _ (List.mem_of_getElem? (i := 15) rfl))) (g := (mkF m 37 #[.val (.ref a), .val (.double X), .second, .val (.double Y), .second, .val (.double (own_g2 X Y)), .second, .val (.double (own_g5 X Y)), .second, .unset, .unset, .unset, .unset] [(.double (4626041242239631360 : UInt64)), (.double (own_g6 X Y)), (.double (4607182418800017408 : UInt64))])) rfl (hb hby d1_37) _ ?_
    show Steps p.tables e below (s₁.setTop (mkF m 40 #[.val (.ref a), .val (.double X), .second, .val (.double Y), .second, .val (.double (own_g2 X Y)), .second, .val (.double (own_g5 X Y)), .second, .unset, .unset, .unset, .unset] [(.double (4624070917402656768 : UInt64)), (.double (4626041242239631360 : UInt64)), (.double (own_g6 X Y)), (.double (4607182418800017408 : UInt64))])) _
    refine XS.dloadN X0.here hx rfl (hb hby d1_40) rfl ?_
    show Steps p.tables e below (s₁.setTop (mkF m 41 #[.val (.ref a), .val (.double X), .second, .val (.double Y), .second, .val (.double (own_g2 X Y)), .second, .val (.double (own_g5 X Y)), .second, .unset, .unset, .unset, .unset] [(.double X), (.double (4624070917402656768 : UInt64)), (.double (4626041242239631360 : UInt64)), (.double (own_g6 X Y)), (.double (4607182418800017408 : UInt64))])) _
    refine XS.dmulS X0.here hx rfl (v := (own_g7 X Y)) (hb hby d1_41) rfl (own_g7_d hX hY).nn rfl ?_
    show Steps p.tables e below (s₁.setTop (mkF m 42 #[.val (.ref a), .val (.double X), .second, .val (.double Y), .second, .val (.double (own_g2 X Y)), .second, .val (.double (own_g5 X Y)), .second, .unset, .unset, .unset, .unset] [(.double (own_g7 X Y)), (.double (4626041242239631360 : UInt64)), (.double (own_g6 X Y)), (.double (4607182418800017408 : UInt64))])) _
    refine XS.dsubS X0.here hx rfl (v := (own_g8 X Y)) (hb hby d1_42) rfl (own_g8_d hX hY).nn rfl ?_
    show Steps p.tables e below (s₁.setTop (mkF m 43 #[.val (.ref a), .val (.double X), .second, .val (.double Y), .second, .val (.double (own_g2 X Y)), .second, .val (.double (own_g5 X Y)), .second, .unset, .unset, .unset, .unset] [(.double (own_g8 X Y)), (.double (own_g6 X Y)), (.double (4607182418800017408 : UInt64))])) _
    refine X0.ldc2DoubleC hx hown (mvT hZ (hw _ (List.mem_of_getElem? (i := 13) rfl))) (g := (mkF m 43 #[.val (.ref a), .val (.double X), .second, .val (.double Y), .second, .val (.double (own_g2 X Y)), .second, .val (.double (own_g5 X Y)), .second, .unset, .unset, .unset, .unset] [(.double (own_g8 X Y)), (.double (own_g6 X Y)), (.double (4607182418800017408 : UInt64))])) rfl (hb hby d1_43) _ ?_
    show Steps p.tables e below (s₁.setTop (mkF m 46 #[.val (.ref a), .val (.double X), .second, .val (.double Y), .second, .val (.double (own_g2 X Y)), .second, .val (.double (own_g5 X Y)), .second, .unset, .unset, .unset, .unset] [(.double (4613937818241073152 : UInt64)), (.double (own_g8 X Y)), (.double (own_g6 X Y)), (.double (4607182418800017408 : UInt64))])) _
    refine XS.dloadN X0.here hx rfl (hb hby d1_46) rfl ?_
    show Steps p.tables e below (s₁.setTop (mkF m 47 #[.val (.ref a), .val (.double X), .second, .val (.double Y), .second, .val (.double (own_g2 X Y)), .second, .val (.double (own_g5 X Y)), .second, .unset, .unset, .unset, .unset] [(.double X), (.double (4613937818241073152 : UInt64)), (.double (own_g8 X Y)), (.double (own_g6 X Y)), (.double (4607182418800017408 : UInt64))])) _
    refine XS.dmulS X0.here hx rfl (v := (own_g9 X Y)) (hb hby d1_47) rfl (own_g9_d hX hY).nn rfl ?_
    show Steps p.tables e below (s₁.setTop (mkF m 48 #[.val (.ref a), .val (.double X), .second, .val (.double Y), .second, .val (.double (own_g2 X Y)), .second, .val (.double (own_g5 X Y)), .second, .unset, .unset, .unset, .unset] [(.double (own_g9 X Y)), (.double (own_g8 X Y)), (.double (own_g6 X Y)), (.double (4607182418800017408 : UInt64))])) _
    refine XS.dloadN X0.here hx rfl (hb hby d1_48) rfl ?_
    show Steps p.tables e below (s₁.setTop (mkF m 49 #[.val (.ref a), .val (.double X), .second, .val (.double Y), .second, .val (.double (own_g2 X Y)), .second, .val (.double (own_g5 X Y)), .second, .unset, .unset, .unset, .unset] [(.double X), (.double (own_g9 X Y)), (.double (own_g8 X Y)), (.double (own_g6 X Y)), (.double (4607182418800017408 : UInt64))])) _
    refine XS.dmulS X0.here hx rfl (v := (own_g10 X Y)) (hb hby d1_49) rfl (own_g10_d hX hY).nn rfl ?_
    show Steps p.tables e below (s₁.setTop (mkF m 50 #[.val (.ref a), .val (.double X), .second, .val (.double Y), .second, .val (.double (own_g2 X Y)), .second, .val (.double (own_g5 X Y)), .second, .unset, .unset, .unset, .unset] [(.double (own_g10 X Y)), (.double (own_g8 X Y)), (.double (own_g6 X Y)), (.double (4607182418800017408 : UInt64))])) _
    refine XS.daddS X0.here hx rfl (v := (own_g11 X Y)) (hb hby d1_50) rfl (own_g11_d hX hY).nn rfl ?_
    show Steps p.tables e below (s₁.setTop (mkF m 51 #[.val (.ref a), .val (.double X), .second, .val (.double Y), .second, .val (.double (own_g2 X Y)), .second, .val (.double (own_g5 X Y)), .second, .unset, .unset, .unset, .unset] [(.double (own_g11 X Y)), (.double (own_g6 X Y)), (.double (4607182418800017408 : UInt64))])) _
    refine X0.ldc2DoubleC hx hown (mvT hZ (hw _ (List.mem_of_getElem? (i := 15) rfl))) (g := (mkF m 51 #[.val (.ref a), .val (.double X), .second, .val (.double Y), .second, .val (.double (own_g2 X Y)), .second, .val (.double (own_g5 X Y)), .second, .unset, .unset, .unset, .unset] [(.double (own_g11 X Y)), (.double (own_g6 X Y)), (.double (4607182418800017408 : UInt64))])) rfl (hb hby d1_51) _ ?_
    show Steps p.tables e below (s₁.setTop (mkF m 54 #[.val (.ref a), .val (.double X), .second, .val (.double Y), .second, .val (.double (own_g2 X Y)), .second, .val (.double (own_g5 X Y)), .second, .unset, .unset, .unset, .unset] [(.double (4624070917402656768 : UInt64)), (.double (own_g11 X Y)), (.double (own_g6 X Y)), (.double (4607182418800017408 : UInt64))])) _
    refine XS.dloadN X0.here hx rfl (hb hby d1_54) rfl ?_
    show Steps p.tables e below (s₁.setTop (mkF m 55 #[.val (.ref a), .val (.double X), .second, .val (.double Y), .second, .val (.double (own_g2 X Y)), .second, .val (.double (own_g5 X Y)), .second, .unset, .unset, .unset, .unset] [(.double Y), (.double (4624070917402656768 : UInt64)), (.double (own_g11 X Y)), (.double (own_g6 X Y)), (.double (4607182418800017408 : UInt64))])) _
    refine XS.dmulS X0.here hx rfl (v := (own_g12 X Y)) (hb hby d1_55) rfl (own_g12_d hX hY).nn rfl ?_
    show Steps p.tables e below (s₁.setTop (mkF m 56 #[.val (.ref a), .val (.double X), .second, .val (.double Y), .second, .val (.double (own_g2 X Y)), .second, .val (.double (own_g5 X Y)), .second, .unset, .unset, .unset, .unset] [(.double (own_g12 X Y)), (.double (own_g11 X Y)), (.double (own_g6 X Y)), (.double (4607182418800017408 : UInt64))])) _
    refine XS.dsubS X0.here hx rfl (v := (own_g13 X Y)) (hb hby d1_56) rfl (own_g13_d hX hY).nn rfl ?_
    show Steps p.tables e below (s₁.setTop (mkF m 57 #[.val (.ref a), .val (.double X), .second, .val (.double Y), .second, .val (.double (own_g2 X Y)), .second, .val (.double (own_g5 X Y)), .second, .unset, .unset, .unset, .unset] [(.double (own_g13 X Y)), (.double (own_g6 X Y)), (.double (4607182418800017408 : UInt64))])) _
    refine X0.ldc2DoubleC hx hown (mvT hZ (hw _ (List.mem_of_getElem? (i := 16) rfl))) (g := (mkF m 57 #[.val (.ref a), .val (.double X), .second, .val (.double Y), .second, .val (.double (own_g2 X Y)), .second, .val (.double (own_g5 X Y)), .second, .unset, .unset, .unset, .unset] [(.double (own_g13 X Y)), (.double (own_g6 X Y)), (.double (4607182418800017408 : UInt64))])) rfl (hb hby d1_57) _ ?_
    show Steps p.tables e below (s₁.setTop (mkF m 60 #[.val (.ref a), .val (.double X), .second, .val (.double Y), .second, .val (.double (own_g2 X Y)), .second, .val (.double (own_g5 X Y)), .second, .unset, .unset, .unset, .unset] [(.double (4618441417868443648 : UInt64)), (.double (own_g13 X Y)), (.double (own_g6 X Y)), (.double (4607182418800017408 : UInt64))])) _
    refine XS.dloadN X0.here hx rfl (hb hby d1_60) rfl ?_
    show Steps p.tables e below (s₁.setTop (mkF m 61 #[.val (.ref a), .val (.double X), .second, .val (.double Y), .second, .val (.double (own_g2 X Y)), .second, .val (.double (own_g5 X Y)), .second, .unset, .unset, .unset, .unset] [(.double X), (.double (4618441417868443648 : UInt64)), (.double (own_g13 X Y)), (.double (own_g6 X Y)), (.double (4607182418800017408 : UInt64))])) _
    refine XS.dmulS X0.here hx rfl (v := (own_g14 X Y)) (hb hby d1_61) rfl (own_g14_d hX hY).nn rfl ?_
    show Steps p.tables e below (s₁.setTop (mkF m 62 #[.val (.ref a), .val (.double X), .second, .val (.double Y), .second, .val (.double (own_g2 X Y)), .second, .val (.double (own_g5 X Y)), .second, .unset, .unset, .unset, .unset] [(.double (own_g14 X Y)), (.double (own_g13 X Y)), (.double (own_g6 X Y)), (.double (4607182418800017408 : UInt64))])) _
    refine XS.dloadN X0.here hx rfl (hb hby d1_62) rfl ?_
    show Steps p.tables e below (s₁.setTop (mkF m 63 #[.val (.ref a), .val (.double X), .second, .val (.double Y), .second, .val (.double (own_g2 X Y)), .second, .val (.double (own_g5 X Y)), .second, .unset, .unset, .unset, .unset] [(.double Y), (.double (own_g14 X Y)), (.double (own_g13 X Y)), (.double (own_g6 X Y)), (.double (4607182418800017408 : UInt64))])) _
    refine XS.dmulS X0.here hx rfl (v := (own_g15 X Y)) (hb hby d1_63) rfl (own_g15_d hX hY).nn rfl ?_
    show Steps p.tables e below (s₁.setTop (mkF m 64 #[.val (.ref a), .val (.double X), .second, .val (.double Y), .second, .val (.double (own_g2 X Y)), .second, .val (.double (own_g5 X Y)), .second, .unset, .unset, .unset, .unset] [(.double (own_g15 X Y)), (.double (own_g13 X Y)), (.double (own_g6 X Y)), (.double (4607182418800017408 : UInt64))])) _
    refine XS.daddS X0.here hx rfl (v := (own_g16 X Y)) (hb hby d1_64) rfl (own_g16_d hX hY).nn rfl ?_
    show Steps p.tables e below (s₁.setTop (mkF m 65 #[.val (.ref a), .val (.double X), .second, .val (.double Y), .second, .val (.double (own_g2 X Y)), .second, .val (.double (own_g5 X Y)), .second, .unset, .unset, .unset, .unset] [(.double (own_g16 X Y)), (.double (own_g6 X Y)), (.double (4607182418800017408 : UInt64))])) _
    refine X0.ldc2DoubleC hx hown (mvT hZ (hw _ (List.mem_of_getElem? (i := 13) rfl))) (g := (mkF m 65 #[.val (.ref a), .val (.double X), .second, .val (.double Y), .second, .val (.double (own_g2 X Y)), .second, .val (.double (own_g5 X Y)), .second, .unset, .unset, .unset, .unset] [(.double (own_g16 X Y)), (.double (own_g6 X Y)), (.double (4607182418800017408 : UInt64))])) rfl (hb hby d1_65) _ ?_
    show Steps p.tables e below (s₁.setTop (mkF m 68 #[.val (.ref a), .val (.double X), .second, .val (.double Y), .second, .val (.double (own_g2 X Y)), .second, .val (.double (own_g5 X Y)), .second, .unset, .unset, .unset, .unset] [(.double (4613937818241073152 : UInt64)), (.double (own_g16 X Y)), (.double (own_g6 X Y)), (.double (4607182418800017408 : UInt64))])) _
    refine XS.dloadN X0.here hx rfl (hb hby d1_68) rfl ?_
    show Steps p.tables e below (s₁.setTop (mkF m 69 #[.val (.ref a), .val (.double X), .second, .val (.double Y), .second, .val (.double (own_g2 X Y)), .second, .val (.double (own_g5 X Y)), .second, .unset, .unset, .unset, .unset] [(.double Y), (.double (4613937818241073152 : UInt64)), (.double (own_g16 X Y)), (.double (own_g6 X Y)), (.double (4607182418800017408 : UInt64))])) _
    refine XS.dmulS X0.here hx rfl (v := (own_g17 X Y)) (hb hby d1_69) rfl (own_g17_d hX hY).nn rfl ?_
    show Steps p.tables e below (s₁.setTop (mkF m 70 #[.val (.ref a), .val (.double X), .second, .val (.double Y), .second, .val (.double (own_g2 X Y)), .second, .val (.double (own_g5 X Y)), .second, .unset, .unset, .unset, .unset] [(.double (own_g17 X Y)), (.double (own_g16 X Y)), (.double (own_g6 X Y)), (.double (4607182418800017408 : UInt64))])) _
    refine XS.dloadN X0.here hx rfl (hb hby d1_70) rfl ?_
    show Steps p.tables e below (s₁.setTop (mkF m 71 #[.val (.ref a), .val (.double X), .second, .val (.double Y), .second, .val (.double (own_g2 X Y)), .second, .val (.double (own_g5 X Y)), .second, .unset, .unset, .unset, .unset] [(.double Y), (.double (own_g17 X Y)), (.double (own_g16 X Y)), (.double (own_g6 X Y)), (.double (4607182418800017408 : UInt64))])) _
    refine XS.dmulS X0.here hx rfl (v := (own_g18 X Y)) (hb hby d1_71) rfl (own_g18_d hX hY).nn rfl ?_
    show Steps p.tables e below (s₁.setTop (mkF m 72 #[.val (.ref a), .val (.double X), .second, .val (.double Y), .second, .val (.double (own_g2 X Y)), .second, .val (.double (own_g5 X Y)), .second, .unset, .unset, .unset, .unset] [(.double (own_g18 X Y)), (.double (own_g16 X Y)), (.double (own_g6 X Y)), (.double (4607182418800017408 : UInt64))])) _
    refine XS.daddS X0.here hx rfl (v := (own_g19 X Y)) (hb hby d1_72) rfl (own_g19_d hX hY).nn rfl ?_
    show Steps p.tables e below (s₁.setTop (mkF m 73 #[.val (.ref a), .val (.double X), .second, .val (.double Y), .second, .val (.double (own_g2 X Y)), .second, .val (.double (own_g5 X Y)), .second, .unset, .unset, .unset, .unset] [(.double (own_g19 X Y)), (.double (own_g6 X Y)), (.double (4607182418800017408 : UInt64))])) _
    refine XS.dmulS X0.here hx rfl (v := (own_g20 X Y)) (hb hby d1_73) rfl (own_g20_d hX hY).nn rfl ?_
    show Steps p.tables e below (s₁.setTop (mkF m 74 #[.val (.ref a), .val (.double X), .second, .val (.double Y), .second, .val (.double (own_g2 X Y)), .second, .val (.double (own_g5 X Y)), .second, .unset, .unset, .unset, .unset] [(.double (own_g20 X Y)), (.double (4607182418800017408 : UInt64))])) _
    refine XS.daddS X0.here hx rfl (v := (own_g21 X Y)) (hb hby d1_74) rfl (own_g21_d hX hY).nn rfl ?_
    show Steps p.tables e below (s₁.setTop (mkF m 75 #[.val (.ref a), .val (.double X), .second, .val (.double Y), .second, .val (.double (own_g2 X Y)), .second, .val (.double (own_g5 X Y)), .second, .unset, .unset, .unset, .unset] [(.double (own_g21 X Y))])) _
    refine XS.dstore X0.here hx rfl (hb hby d1_75) rfl (l' := #[.val (.ref a), .val (.double X), .second, .val (.double Y), .second, .val (.double (own_g2 X Y)), .second, .val (.double (own_g5 X Y)), .second, .val (.double (own_g21 X Y)), .second, .unset, .unset]) rfl ?_
    show Steps p.tables e below (s₁.setTop (mkF m 77 #[.val (.ref a), .val (.double X), .second, .val (.double Y), .second, .val (.double (own_g2 X Y)), .second, .val (.double (own_g5 X Y)), .second, .val (.double (own_g21 X Y)), .second, .unset, .unset] [])) _
    refine X0.ldc2DoubleC hx hown (mvT hZ (hw _ (List.mem_of_getElem? (i := 17) rfl))) (g := (mkF m 77 #[.val (.ref a), .val (.double X), .second, .val (.double Y), .second, .val (.double (own_g2 X Y)), .second, .val (.double (own_g5 X Y)), .second, .val (.double (own_g21 X Y)), .second, .unset, .unset] [])) rfl (hb hby d1_77) _ ?_
    show Steps p.tables e below (s₁.setTop (mkF m 80 #[.val (.ref a), .val (.double X), .second, .val (.double Y), .second, .val (.double (own_g2 X Y)), .second, .val (.double (own_g5 X Y)), .second, .val (.double (own_g21 X Y)), .second, .unset, .unset] [(.double (4629137466983448576 : UInt64))])) _
    refine XS.dload X0.here hx rfl (hb hby d1_80) rfl ?_
    show Steps p.tables e below (s₁.setTop (mkF m 82 #[.val (.ref a), .val (.double X), .second, .val (.double Y), .second, .val (.double (own_g2 X Y)), .second, .val (.double (own_g5 X Y)), .second, .val (.double (own_g21 X Y)), .second, .unset, .unset] [(.double (own_g5 X Y)), (.double (4629137466983448576 : UInt64))])) _
    refine XS.dload X0.here hx rfl (hb hby d1_82) rfl ?_
    show Steps p.tables e below (s₁.setTop (mkF m 84 #[.val (.ref a), .val (.double X), .second, .val (.double Y), .second, .val (.double (own_g2 X Y)), .second, .val (.double (own_g5 X Y)), .second, .val (.double (own_g21 X Y)), .second, .unset, .unset] [(.double (own_g5 X Y)), (.double (own_g5 X Y)), (.double (4629137466983448576 : UInt64))])) _
    refine XS.dmulS X0.here hx rfl (v := (own_g22 X Y)) (hb hby d1_84) rfl (own_g22_d hX hY).nn rfl ?_
    show Steps p.tables e below (s₁.setTop (mkF m 85 #[.val (.ref a), .val (.double X), .second, .val (.double Y), .second, .val (.double (own_g2 X Y)), .second, .val (.double (own_g5 X Y)), .second, .val (.double (own_g21 X Y)), .second, .unset, .unset] [(.double (own_g22 X Y)), (.double (4629137466983448576 : UInt64))])) _
    refine X0.ldc2DoubleC hx hown (mvT hZ (hw _ (List.mem_of_getElem? (i := 18) rfl))) (g := (mkF m 85 #[.val (.ref a), .val (.double X), .second, .val (.double Y), .second, .val (.double (own_g2 X Y)), .second, .val (.double (own_g5 X Y)), .second, .val (.double (own_g21 X Y)), .second, .unset, .unset] [(.double (own_g22 X Y)), (.double (4629137466983448576 : UInt64))])) rfl (hb hby d1_85) _ ?_
    show Steps p.tables e below (s₁.setTop (mkF m 88 #[.val (.ref a), .val (.double X), .second, .val (.double Y), .second, .val (.double (own_g2 X Y)), .second, .val (.double (own_g5 X Y)), .second, .val (.double (own_g21 X Y)), .second, .unset, .unset] [(.double (4625759767262920704 : UInt64)), (.double (own_g22 X Y)), (.double (4629137466983448576 : UInt64))])) _
    refine X0.ldc2DoubleC hx hown (mvT hZ (hw _ (List.mem_of_getElem? (i := 19) rfl))) (g := (mkF m 88 #[.val (.ref a), .val (.double X), .second, .val (.double Y), .second, .val (.double (own_g2 X Y)), .second, .val (.double (own_g5 X Y)), .second, .val (.double (own_g21 X Y)), .second, .unset, .unset] [(.double (4625759767262920704 : UInt64)), (.double (own_g22 X Y)), (.double (4629137466983448576 : UInt64))])) rfl (hb hby d1_88) _ ?_
    show Steps p.tables e below (s₁.setTop (mkF m 91 #[.val (.ref a), .val (.double X), .second, .val (.double Y), .second, .val (.double (own_g2 X Y)), .second, .val (.double (own_g5 X Y)), .second, .val (.double (own_g21 X Y)), .second, .unset, .unset] [(.double (4629700416936869888 : UInt64)), (.double (4625759767262920704 : UInt64)), (.double (own_g22 X Y)), (.double (4629137466983448576 : UInt64))])) _
    refine XS.dloadN X0.here hx rfl (hb hby d1_91) rfl ?_
    show Steps p.tables e below (s₁.setTop (mkF m 92 #[.val (.ref a), .val (.double X), .second, .val (.double Y), .second, .val (.double (own_g2 X Y)), .second, .val (.double (own_g5 X Y)), .second, .val (.double (own_g21 X Y)), .second, .unset, .unset] [(.double X), (.double (4629700416936869888 : UInt64)), (.double (4625759767262920704 : UInt64)), (.double (own_g22 X Y)), (.double (4629137466983448576 : UInt64))])) _
    refine XS.dmulS X0.here hx rfl (v := (own_g23 X Y)) (hb hby d1_92) rfl (own_g23_d hX hY).nn rfl ?_
    show Steps p.tables e below (s₁.setTop (mkF m 93 #[.val (.ref a), .val (.double X), .second, .val (.double Y), .second, .val (.double (own_g2 X Y)), .second, .val (.double (own_g5 X Y)), .second, .val (.double (own_g21 X Y)), .second, .unset, .unset] [(.double (own_g23 X Y)), (.double (4625759767262920704 : UInt64)), (.double (own_g22 X Y)), (.double (4629137466983448576 : UInt64))])) _
    refine XS.dsubS X0.here hx rfl (v := (own_g24 X Y)) (hb hby d1_93) rfl (own_g24_d hX hY).nn rfl ?_
    show Steps p.tables e below (s₁.setTop (mkF m 94 #[.val (.ref a), .val (.double X), .second, .val (.double Y), .second, .val (.double (own_g2 X Y)), .second, .val (.double (own_g5 X Y)), .second, .val (.double (own_g21 X Y)), .second, .unset, .unset] [(.double (own_g24 X Y)), (.double (own_g22 X Y)), (.double (4629137466983448576 : UInt64))])) _
    refine X0.ldc2DoubleC hx hown (mvT hZ (hw _ (List.mem_of_getElem? (i := 20) rfl))) (g := (mkF m 94 #[.val (.ref a), .val (.double X), .second, .val (.double Y), .second, .val (.double (own_g2 X Y)), .second, .val (.double (own_g5 X Y)), .second, .val (.double (own_g21 X Y)), .second, .unset, .unset] [(.double (own_g24 X Y)), (.double (own_g22 X Y)), (.double (4629137466983448576 : UInt64))])) rfl (hb hby d1_94) _ ?_
    show Steps p.tables e below (s₁.setTop (mkF m 97 #[.val (.ref a), .val (.double X), .second, .val (.double Y), .second, .val (.double (own_g2 X Y)), .second, .val (.double (own_g5 X Y)), .second, .val (.double (own_g21 X Y)), .second, .unset, .unset] [(.double (4622945017495814144 : UInt64)), (.double (own_g24 X Y)), (.double (own_g22 X Y)), (.double (4629137466983448576 : UInt64))])) _
    refine XS.dloadN X0.here hx rfl (hb hby d1_97) rfl ?_
    show Steps p.tables e below (s₁.setTop (mkF m 98 #[.val (.ref a), .val (.double X), .second, .val (.double Y), .second, .val (.double (own_g2 X Y)), .second, .val (.double (own_g5 X Y)), .second, .val (.double (own_g21 X Y)), .second, .unset, .unset] [(.double X), (.double (4622945017495814144 : UInt64)), (.double (own_g24 X Y)), (.double (own_g22 X Y)), (.double (4629137466983448576 : UInt64))])) _
    refine XS.dmulS X0.here hx rfl (v := (own_g25 X Y)) (hb hby d1_98) rfl (own_g25_d hX hY).nn rfl ?_
    show Steps p.tables e below (s₁.setTop (mkF m 99 #[.val (.ref a), .val (.double X), .second, .val (.double Y), .second, .val (.double (own_g2 X Y)), .second, .val (.double (own_g5 X Y)), .second, .val (.double (own_g21 X Y)), .second, .unset, .unset] [(.double (own_g25 X Y)), (.double (own_g24 X Y)), (.double (own_g22 X Y)), (.double (4629137466983448576 : UInt64))])) _
    refine XS.dloadN X0.here hx rfl (hb hby d1_99) rfl ?_
    show Steps p.tables e below (s₁.setTop (mkF m 100 #[.val (.ref a), .val (.double X), .second, .val (.double Y), .second, .val (.double (own_g2 X Y)), .second, .val (.double (own_g5 X Y)), .second, .val (.double (own_g21 X Y)), .second, .unset, .unset] [(.double X), (.double (own_g25 X Y)), (.double (own_g24 X Y)), (.double (own_g22 X Y)), (.double (4629137466983448576 : UInt64))])) _
    refine XS.dmulS X0.here hx rfl (v := (own_g26 X Y)) (hb hby d1_100) rfl (own_g26_d hX hY).nn rfl ?_
    show Steps p.tables e below (s₁.setTop (mkF m 101 #[.val (.ref a), .val (.double X), .second, .val (.double Y), .second, .val (.double (own_g2 X Y)), .second, .val (.double (own_g5 X Y)), .second, .val (.double (own_g21 X Y)), .second, .unset, .unset] [(.double (own_g26 X Y)), (.double (own_g24 X Y)), (.double (own_g22 X Y)), (.double (4629137466983448576 : UInt64))])) _
    refine XS.daddS X0.here hx rfl (v := (own_g27 X Y)) (hb hby d1_101) rfl (own_g27_d hX hY).nn rfl ?_
    show Steps p.tables e below (s₁.setTop (mkF m 102 #[.val (.ref a), .val (.double X), .second, .val (.double Y), .second, .val (.double (own_g2 X Y)), .second, .val (.double (own_g5 X Y)), .second, .val (.double (own_g21 X Y)), .second, .unset, .unset] [(.double (own_g27 X Y)), (.double (own_g22 X Y)), (.double (4629137466983448576 : UInt64))])) _
    refine X0.ldc2DoubleC hx hown (mvT hZ (hw _ (List.mem_of_getElem? (i := 21) rfl))) (g := (mkF m 102 #[.val (.ref a), .val (.double X), .second, .val (.double Y), .second, .val (.double (own_g2 X Y)), .second, .val (.double (own_g5 X Y)), .second, .val (.double (own_g21 X Y)), .second, .unset, .unset] [(.double (own_g27 X Y)), (.double (own_g22 X Y)), (.double (4629137466983448576 : UInt64))])) rfl (hb hby d1_102) _ ?_
    show Steps p.tables e below (s₁.setTop (mkF m 105 #[.val (.ref a), .val (.double X), .second, .val (.double Y), .second, .val (.double (own_g2 X Y)), .second, .val (.double (own_g5 X Y)), .second, .val (.double (own_g21 X Y)), .second, .unset, .unset] [(.double (4631952216750555136 : UInt64)), (.double (own_g27 X Y)), (.double (own_g22 X Y)), (.double (4629137466983448576 : UInt64))])) _
    refine XS.dloadN X0.here hx rfl (hb hby d1_105) rfl ?_
    show Steps p.tables e below (s₁.setTop (mkF m 106 #[.val (.ref a), .val (.double X), .second, .val (.double Y), .second, .val (.double (own_g2 X Y)), .second, .val (.double (own_g5 X Y)), .second, .val (.double (own_g21 X Y)), .second, .unset, .unset] [(.double Y), (.double (4631952216750555136 : UInt64)), (.double (own_g27 X Y)), (.double (own_g22 X Y)), (.double (4629137466983448576 : UInt64))])) _
    refine XS.dmulS X0.here hx rfl (v := (own_g28 X Y)) (hb hby d1_106) rfl (own_g28_d hX hY).nn rfl ?_
    show Steps p.tables e below (s₁.setTop (mkF m 107 #[.val (.ref a), .val (.double X), .second, .val (.double Y), .second, .val (.double (own_g2 X Y)), .second, .val (.double (own_g5 X Y)), .second, .val (.double (own_g21 X Y)), .second, .unset, .unset] [(.double (own_g28 X Y)), (.double (own_g27 X Y)), (.double (own_g22 X Y)), (.double (4629137466983448576 : UInt64))])) _
    refine XS.daddS X0.here hx rfl (v := (own_g29 X Y)) (hb hby d1_107) rfl (own_g29_d hX hY).nn rfl ?_
    show Steps p.tables e below (s₁.setTop (mkF m 108 #[.val (.ref a), .val (.double X), .second, .val (.double Y), .second, .val (.double (own_g2 X Y)), .second, .val (.double (own_g5 X Y)), .second, .val (.double (own_g21 X Y)), .second, .unset, .unset] [(.double (own_g29 X Y)), (.double (own_g22 X Y)), (.double (4629137466983448576 : UInt64))])) _
    refine X0.ldc2DoubleC hx hown (mvT hZ (hw _ (List.mem_of_getElem? (i := 22) rfl))) (g := (mkF m 108 #[.val (.ref a), .val (.double X), .second, .val (.double Y), .second, .val (.double (own_g2 X Y)), .second, .val (.double (own_g5 X Y)), .second, .val (.double (own_g21 X Y)), .second, .unset, .unset] [(.double (own_g29 X Y)), (.double (own_g22 X Y)), (.double (4629137466983448576 : UInt64))])) rfl (hb hby d1_108) _ ?_
    show Steps p.tables e below (s₁.setTop (mkF m 111 #[.val (.ref a), .val (.double X), .second, .val (.double Y), .second, .val (.double (own_g2 X Y)), .second, .val (.double (own_g5 X Y)), .second, .val (.double (own_g21 X Y)), .second, .unset, .unset] [(.double (4630263366890291200 : UInt64)), (.double (own_g29 X Y)), (.double (own_g22 X Y)), (.double (4629137466983448576 : UInt64))])) _
    refine XS.dloadN X0.here hx rfl (hb hby d1_111) rfl ?_
    show Steps p.tables e below (s₁.setTop (mkF m 112 #[.val (.ref a), .val (.double X), .second, .val (.double Y), .second, .val (.double (own_g2 X Y)), .second, .val (.double (own_g5 X Y)), .second, .val (.double (own_g21 X Y)), .second, .unset, .unset] [(.double X), (.double (4630263366890291200 : UInt64)), (.double (own_g29 X Y)), (.double (own_g22 X Y)), (.double (4629137466983448576 : UInt64))])) _
    refine XS.dmulS X0.here hx rfl (v := (own_g30 X Y)) (hb hby d1_112) rfl (own_g30_d hX hY).nn rfl ?_
    show Steps p.tables e below (s₁.setTop (mkF m 113 #[.val (.ref a), .val (.double X), .second, .val (.double Y), .second, .val (.double (own_g2 X Y)), .second, .val (.double (own_g5 X Y)), .second, .val (.double (own_g21 X Y)), .second, .unset, .unset] [(.double (own_g30 X Y)), (.double (own_g29 X Y)), (.double (own_g22 X Y)), (.double (4629137466983448576 : UInt64))])) _
    refine XS.dloadN X0.here hx rfl (hb hby d1_113) rfl ?_
    show Steps p.tables e below (s₁.setTop (mkF m 114 #[.val (.ref a), .val (.double X), .second, .val (.double Y), .second, .val (.double (own_g2 X Y)), .second, .val (.double (own_g5 X Y)), .second, .val (.double (own_g21 X Y)), .second, .unset, .unset] [(.double Y), (.double (own_g30 X Y)), (.double (own_g29 X Y)), (.double (own_g22 X Y)), (.double (4629137466983448576 : UInt64))])) _
    refine XS.dmulS X0.here hx rfl (v := (own_g31 X Y)) (hb hby d1_114) rfl (own_g31_d hX hY).nn rfl ?_
    show Steps p.tables e below (s₁.setTop (mkF m 115 #[.val (.ref a), .val (.double X), .second, .val (.double Y), .second, .val (.double (own_g2 X Y)), .second, .val (.double (own_g5 X Y)), .second, .val (.double (own_g21 X Y)), .second, .unset, .unset] [(.double (own_g31 X Y)), (.double (own_g29 X Y)), (.double (own_g22 X Y)), (.double (4629137466983448576 : UInt64))])) _
    refine XS.dsubS X0.here hx rfl (v := (own_g32 X Y)) (hb hby d1_115) rfl (own_g32_d hX hY).nn rfl ?_
    show Steps p.tables e below (s₁.setTop (mkF m 116 #[.val (.ref a), .val (.double X), .second, .val (.double Y), .second, .val (.double (own_g2 X Y)), .second, .val (.double (own_g5 X Y)), .second, .val (.double (own_g21 X Y)), .second, .unset, .unset] [(.double (own_g32 X Y)), (.double (own_g22 X Y)), (.double (4629137466983448576 : UInt64))])) _
    refine X0.ldc2DoubleC hx hown (mvT hZ (hw _ (List.mem_of_getElem? (i := 23) rfl))) (g := (mkF m 116 #[.val (.ref a), .val (.double X), .second, .val (.double Y), .second, .val (.double (own_g2 X Y)), .second, .val (.double (own_g5 X Y)), .second, .val (.double (own_g21 X Y)), .second, .unset, .unset] [(.double (own_g32 X Y)), (.double (own_g22 X Y)), (.double (4629137466983448576 : UInt64))])) rfl (hb hby d1_116) _ ?_
    show Steps p.tables e below (s₁.setTop (mkF m 119 #[.val (.ref a), .val (.double X), .second, .val (.double Y), .second, .val (.double (own_g2 X Y)), .second, .val (.double (own_g5 X Y)), .second, .val (.double (own_g21 X Y)), .second, .unset, .unset] [(.double (4628293042053316608 : UInt64)), (.double (own_g32 X Y)), (.double (own_g22 X Y)), (.double (4629137466983448576 : UInt64))])) _
    refine XS.dloadN X0.here hx rfl (hb hby d1_119) rfl ?_
    show Steps p.tables e below (s₁.setTop (mkF m 120 #[.val (.ref a), .val (.double X), .second, .val (.double Y), .second, .val (.double (own_g2 X Y)), .second, .val (.double (own_g5 X Y)), .second, .val (.double (own_g21 X Y)), .second, .unset, .unset] [(.double Y), (.double (4628293042053316608 : UInt64)), (.double (own_g32 X Y)), (.double (own_g22 X Y)), (.double (4629137466983448576 : UInt64))])) _
    refine XS.dmulS X0.here hx rfl (v := (own_g33 X Y)) (hb hby d1_120) rfl (own_g33_d hX hY).nn rfl ?_
    show Steps p.tables e below (s₁.setTop (mkF m 121 #[.val (.ref a), .val (.double X), .second, .val (.double Y), .second, .val (.double (own_g2 X Y)), .second, .val (.double (own_g5 X Y)), .second, .val (.double (own_g21 X Y)), .second, .unset, .unset] [(.double (own_g33 X Y)), (.double (own_g32 X Y)), (.double (own_g22 X Y)), (.double (4629137466983448576 : UInt64))])) _
    refine XS.dloadN X0.here hx rfl (hb hby d1_121) rfl ?_
    show Steps p.tables e below (s₁.setTop (mkF m 122 #[.val (.ref a), .val (.double X), .second, .val (.double Y), .second, .val (.double (own_g2 X Y)), .second, .val (.double (own_g5 X Y)), .second, .val (.double (own_g21 X Y)), .second, .unset, .unset] [(.double Y), (.double (own_g33 X Y)), (.double (own_g32 X Y)), (.double (own_g22 X Y)), (.double (4629137466983448576 : UInt64))])) _
    refine XS.dmulS X0.here hx rfl (v := (own_g34 X Y)) (hb hby d1_122) rfl (own_g34_d hX hY).nn rfl ?_
    show Steps p.tables e below (s₁.setTop (mkF m 123 #[.val (.ref a), .val (.double X), .second, .val (.double Y), .second, .val (.double (own_g2 X Y)), .second, .val (.double (own_g5 X Y)), .second, .val (.double (own_g21 X Y)), .second, .unset, .unset] [(.double (own_g34 X Y)), (.double (own_g32 X Y)), (.double (own_g22 X Y)), (.double (4629137466983448576 : UInt64))])) _
    refine XS.daddS X0.here hx rfl (v := (own_g35 X Y)) (hb hby d1_123) rfl (own_g35_d hX hY).nn rfl ?_
    show Steps p.tables e below (s₁.setTop (mkF m 124 #[.val (.ref a), .val (.double X), .second, .val (.double Y), .second, .val (.double (own_g2 X Y)), .second, .val (.double (own_g5 X Y)), .second, .val (.double (own_g21 X Y)), .second, .unset, .unset] [(.double (own_g35 X Y)), (.double (own_g22 X Y)), (.double (4629137466983448576 : UInt64))])) _
    refine XS.dmulS X0.here hx rfl (v := (own_g36 X Y)) (hb hby d1_124) rfl (own_g36_d hX hY).nn rfl ?_
    show Steps p.tables e below (s₁.setTop (mkF m 125 #[.val (.ref a), .val (.double X), .second, .val (.double Y), .second, .val (.double (own_g2 X Y)), .second, .val (.double (own_g5 X Y)), .second, .val (.double (own_g21 X Y)), .second, .unset, .unset] [(.double (own_g36 X Y)), (.double (4629137466983448576 : UInt64))])) _
    refine XS.daddS X0.here hx rfl (v := (own_g37 X Y)) (hb hby d1_125) rfl (own_g37_d hX hY).nn rfl ?_
    show Steps p.tables e below (s₁.setTop (mkF m 126 #[.val (.ref a), .val (.double X), .second, .val (.double Y), .second, .val (.double (own_g2 X Y)), .second, .val (.double (own_g5 X Y)), .second, .val (.double (own_g21 X Y)), .second, .unset, .unset] [(.double (own_g37 X Y))])) _
    refine XS.dstore X0.here hx rfl (hb hby d1_126) rfl (l' := #[.val (.ref a), .val (.double X), .second, .val (.double Y), .second, .val (.double (own_g2 X Y)), .second, .val (.double (own_g5 X Y)), .second, .val (.double (own_g21 X Y)), .second, .val (.double (own_g37 X Y)), .second]) rfl ?_
    show Steps p.tables e below (s₁.setTop (mkF m 128 #[.val (.ref a), .val (.double X), .second, .val (.double Y), .second, .val (.double (own_g2 X Y)), .second, .val (.double (own_g5 X Y)), .second, .val (.double (own_g21 X Y)), .second, .val (.double (own_g37 X Y)), .second] [])) _
    refine XS.dload X0.here hx rfl (hb hby d1_128) rfl ?_
    show Steps p.tables e below (s₁.setTop (mkF m 130 #[.val (.ref a), .val (.double X), .second, .val (.double Y), .second, .val (.double (own_g2 X Y)), .second, .val (.double (own_g5 X Y)), .second, .val (.double (own_g21 X Y)), .second, .val (.double (own_g37 X Y)), .second] [(.double (own_g21 X Y))])) _
    refine XS.dload X0.here hx rfl (hb hby d1_130) rfl ?_
    show Steps p.tables e below (s₁.setTop (mkF m 132 #[.val (.ref a), .val (.double X), .second, .val (.double Y), .second, .val (.double (own_g2 X Y)), .second, .val (.double (own_g5 X Y)), .second, .val (.double (own_g21 X Y)), .second, .val (.double (own_g37 X Y)), .second] [(.double (own_g37 X Y)), (.double (own_g21 X Y))])) _
    refine XS.dmulS X0.here hx rfl (v := (own_g38 X Y)) (hb hby d1_132) rfl (own_g38_n hX hY) rfl ?_
    exact kt
  obtain ⟨fs, hr, hrun, hended, hW, hsame⟩ := X0.leave (v := some (.double (own_g38 X Y))) (fun h => by rw [Bd.returns] at h; cases h)
  refine ⟨_, _, pre0 _ ?_, hrun, hended, _, _, rfl, ?_, ⟨_, rfl⟩, hW, hsame.mono (by decide) (by decide)⟩
  · show Steps p.tables e below (s₁.setTop (mkF m 0 #[.val (.ref a), .unset, .unset, .unset, .unset, .unset, .unset, .unset, .unset, .unset, .unset, .unset, .unset] [])) _
    refine sg1 _ ?_
    refine sg3 _ ?_
    refine sg5 _ ?_
    show Steps p.tables e below (s₁.setTop (mkF m 133 #[.val (.ref a), .val (.double X), .second, .val (.double Y), .second, .val (.double (own_g2 X Y)), .second, .val (.double (own_g5 X Y)), .second, .val (.double (own_g21 X Y)), .second, .val (.double (own_g37 X Y)), .second] [(.double (own_g38 X Y))])) _
    exact retOut X0 hx Bd.returns rfl (Or.inr (Or.inr (Or.inl ⟨rfl, rfl, _, rfl⟩))) (hb hby d1_133) hr
  · show Q_rm1 Z a ka X Y i j h0 n0 _ s₁.heap _
    rw [e0]
    exact ⟨rfl, N0, rfl⟩
def own_x (p : Int32) : Int64 := ((p &&& (2047 : Int32)) - (1024 : Int32)).toInt64
theorem own_x_b (p : Int32) : IB (own_x p).toInt 1024 (own_x p) := by
  have h := c_mask p (2047 : Int32) 11 (by decide) (by decide)
  have h1 : 0 ≤ (p &&& (2047 : Int32)).toInt ∧ (p &&& (2047 : Int32)).toInt < 2048 := by
    rw [h]; exact ⟨Int.emod_nonneg _ (by decide), Int.emod_lt_of_pos _ (by decide)⟩
  have h2 : (own_x p).toInt = (p &&& (2047 : Int32)).toInt - 1024 := by
    unfold own_x; rw [Int32.toInt_toInt64, Int32.toInt_sub, show (1024 : Int32).toInt = 1024 by decide]
    exact Int.bmod_eq_of_le (by omega) (by omega)
  exact ⟨rfl, by omega⟩
theorem own_x_d (p : Int32) : DB (own_x p).toInt 1024 (FP.l2d (own_x p)) := by
  have h := own_x_b p
  exact ⟨Jvm.FP.Core.l2d_int (Nat.le_trans h.2 (by decide)), h.2⟩
def own_f (x y : Int64) : Int64 := ((1 : Int64) + ((((x + y) + (1 : Int64)) * ((x + y) + (1 : Int64))) * (((((3 : Int64) * (x + y)) * (x + y)) - ((14 : Int64) * (x + y))) + (19 : Int64))))
def own_dd (x y : Int64) : Int64 := (((2 : Int64) * x) - ((3 : Int64) * y))
def own_s (x y : Int64) : Int64 := ((30 : Int64) + ((own_dd x y * own_dd x y) * (((((3 : Int64) * own_dd x y) * own_dd x y) - ((16 : Int64) * own_dd x y)) + (18 : Int64))))
theorem own_ki (n : Int64) (N : Nat) (h : n.toInt.natAbs ≤ N) : IB n.toInt N n := ⟨rfl, h⟩
theorem own_f_b {x y : Int64} (hx : IB x.toInt 1024 x) (hy : IB y.toInt 1024 y) : ∃ N, N ≤ 2 ^ 53 ∧ IB (1 + (x.toInt + y.toInt + 1) * (x.toInt + y.toInt + 1) * (3 * (x.toInt + y.toInt) * (x.toInt + y.toInt) - 14 * (x.toInt + y.toInt) + 19)) N (own_f x y) := by
  have u := ib_add hx hy (by decide)
  have k1 := own_ki (1 : Int64) 1 (by decide)
  have v := ib_add u k1 (by decide)
  exact ⟨_, by decide, ib_add k1 (ib_mul (ib_mul v v (by decide)) (ib_add (ib_sub (ib_mul (ib_mul (own_ki (3 : Int64) 3 (by decide)) u (by decide)) u (by decide)) (ib_mul (own_ki (14 : Int64) 14 (by decide)) u (by decide)) (by decide)) (own_ki (19 : Int64) 19 (by decide)) (by decide)) (by decide)) (by decide)⟩
theorem own_dd_b {x y : Int64} (hx : IB x.toInt 1024 x) (hy : IB y.toInt 1024 y) : IB (2 * x.toInt - 3 * y.toInt) 5120 (own_dd x y) :=
  ib_sub (ib_mul (own_ki (2 : Int64) 2 (by decide)) hx (by decide)) (ib_mul (own_ki (3 : Int64) 3 (by decide)) hy (by decide)) (by decide)
theorem own_s_b {x y : Int64} (hx : IB x.toInt 1024 x) (hy : IB y.toInt 1024 y) : ∃ N, N ≤ 2 ^ 53 ∧ IB (30 + (2 * x.toInt - 3 * y.toInt) * (2 * x.toInt - 3 * y.toInt) * (3 * (2 * x.toInt - 3 * y.toInt) * (2 * x.toInt - 3 * y.toInt) - 16 * (2 * x.toInt - 3 * y.toInt) + 18)) N (own_s x y) := by
  have d := own_dd_b hx hy
  exact ⟨_, by decide, ib_add (own_ki (30 : Int64) 30 (by decide)) (ib_mul (ib_mul d d (by decide)) (ib_add (ib_sub (ib_mul (ib_mul (own_ki (3 : Int64) 3 (by decide)) d (by decide)) d (by decide)) (ib_mul (own_ki (16 : Int64) 16 (by decide)) d (by decide)) (by decide)) (own_ki (18 : Int64) 18 (by decide)) (by decide)) (by decide)) (by decide)⟩
theorem own_sq (a : Int) : 0 ≤ a * a := by rcases Int.le_total 0 a with h | h; exact Int.mul_nonneg h h; exact Int.mul_nonneg_of_nonpos_of_nonpos h h
theorem own_f_pos (u : Int) : 1 + (u + 1) * (u + 1) * (3 * u * u - 14 * u + 19) ≠ 0 := by
  have h1 := own_sq (3 * u - 7)
  have h2 : (3 * u - 7) * (3 * u - 7) = 9 * (u * u) - 42 * u + 49 := by
    simp only [Int.sub_mul, Int.mul_sub]; rw [show 3 * u * (3 * u) = 9 * (u * u) by rw [Int.mul_assoc, Int.mul_left_comm u 3 u, ← Int.mul_assoc]; omega]; omega
  have h3 : 0 ≤ 3 * u * u - 14 * u + 19 := by rw [Int.mul_assoc]; omega
  have := Int.mul_nonneg (own_sq (u + 1)) h3
  omega
theorem own_s_pos (d : Int) : 30 + d * d * (3 * d * d - 16 * d + 18) ≠ 0 := by
  by_cases h : 0 ≤ 3 * d * d - 16 * d + 18
  · have := Int.mul_nonneg (own_sq d) h; omega
  · have h1 : 1 ≤ d := Int.le_of_not_gt fun q => by
      have a1 : 0 ≤ d * d := own_sq d
      rw [Int.mul_assoc] at h; omega
    have h2 : d ≤ 5 := Int.le_of_not_gt fun q => by
      have a1 : 6 * d ≤ d * d := Int.mul_le_mul_of_nonneg_right (by omega) (by omega)
      rw [Int.mul_assoc] at h; omega
    have : d = 1 ∨ d = 2 ∨ d = 3 ∨ d = 4 ∨ d = 5 := by omega
    rcases this with rfl | rfl | rfl | rfl | rfl <;> decide
theorem own_e1 (i j : Int) : (1 + ((((i + j) + 1) * ((i + j) + 1)) * (((((19 - (14 * i)) + ((3 * i) * i)) - (14 * j)) + ((6 * i) * j)) + ((3 * j) * j)))) = 1 + (i + j + 1) * (i + j + 1) * (3 * (i + j) * (i + j) - 14 * (i + j) + 19) := by
  have : 19 - 14 * i + 3 * i * i - 14 * j + 6 * i * j + 3 * j * j = 3 * (i + j) * (i + j) - 14 * (i + j) + 19 := by
    simp only [Int.mul_add, Int.add_mul]
    rw [show 3 * j * i = 3 * i * j by rw [Int.mul_assoc, Int.mul_comm j i, ← Int.mul_assoc], show 6 * i * j = 3 * i * j + 3 * i * j by rw [show (6 : Int) * i = 3 * i + 3 * i by omega, Int.add_mul]]
    omega
  rw [this]
theorem own_e2 (i j : Int) : (30 + ((((2 * i) - (3 * j)) * ((2 * i) - (3 * j))) * (((((18 - (32 * i)) + ((12 * i) * i)) + (48 * j)) - ((36 * i) * j)) + ((27 * j) * j)))) = 30 + (2 * i - 3 * j) * (2 * i - 3 * j) * (3 * (2 * i - 3 * j) * (2 * i - 3 * j) - 16 * (2 * i - 3 * j) + 18) := by
  have : 18 - 32 * i + 12 * i * i + 48 * j - 36 * i * j + 27 * j * j = 3 * (2 * i - 3 * j) * (2 * i - 3 * j) - 16 * (2 * i - 3 * j) + 18 := by
    have a1 : 12 * i * i = 12 * (i * i) := Int.mul_assoc _ _ _
    have a2 : 36 * i * j = 36 * (i * j) := Int.mul_assoc _ _ _
    have a3 : 27 * j * j = 27 * (j * j) := Int.mul_assoc _ _ _
    have a4 : 3 * (2 * i - 3 * j) * (2 * i - 3 * j) = 12 * (i * i) - 36 * (i * j) + 27 * (j * j) := by
      have b1 : 3 * (2 * i - 3 * j) = 6 * i - 9 * j := by omega
      rw [b1, Int.sub_mul, Int.mul_sub, Int.mul_sub]
      have c1 : 6 * i * (2 * i) = 12 * (i * i) := by rw [Int.mul_assoc, Int.mul_left_comm i 2 i]; omega
      have c2 : 6 * i * (3 * j) = 18 * (i * j) := by rw [Int.mul_assoc, Int.mul_left_comm i 3 j]; omega
      have c3 : 9 * j * (2 * i) = 18 * (i * j) := by rw [Int.mul_assoc, Int.mul_left_comm j 2 i, Int.mul_comm j i]; omega
      have c4 : 9 * j * (3 * j) = 27 * (j * j) := by rw [Int.mul_assoc, Int.mul_left_comm j 3 j]; omega
      rw [c1, c2, c3, c4]; omega
    rw [a1, a2, a3, a4]; omega
  rw [this]
theorem own_law (x y : Int64) (hx : IB x.toInt 1024 x) (hy : IB y.toInt 1024 y) (dx : DB x.toInt 1024 (FP.l2d x)) (dy : DB y.toInt 1024 (FP.l2d y)) : own_g38 (FP.l2d x) (FP.l2d y) = FP.dmul (FP.l2d (own_f x y)) (FP.l2d (own_s x y)) := by
  obtain ⟨N, hN, f1, f2⟩ := own_f_b hx hy
  obtain ⟨M, hM, s1, s2⟩ := own_s_b hx hy
  have g1 := (own_g21_d dx dy).1
  have g2 := (own_g37_d dx dy).1
  rw [own_e1, ← f1] at g1
  rw [own_e2, ← s1] at g2
  have e1 := Jvm.FP.Core.dint_unique (by rw [f1]; exact own_f_pos _) g1 (Jvm.FP.Core.l2d_int (by rw [f1]; omega))
  have e2 := Jvm.FP.Core.dint_unique (by rw [s1]; exact own_s_pos _) g2 (Jvm.FP.Core.l2d_int (by rw [s1]; omega))
  show FP.dmul (own_g21 (FP.l2d x) (FP.l2d y)) (own_g37 (FP.l2d x) (FP.l2d y)) = _
  rw [e1, e2]
theorem pd_1 : parseMethodDescriptor "([D)D" = some ⟨[(.array .double)], some .double⟩ := by decide +kernel
theorem pn_0 : plainName "com/example/realbreed/realbreed/problems/ClassicSuiteGoldsteinPricePinLaw" = true := by first | (simp [plainName, overriddenIn]; done) | decide +kernel
theorem ef_rm0 (m : MethodId) (x0 : Int32) (x1 : Int32) : entryFrame m #[(.int x0), (.int x1)] maxLocals = mkF m 0 #[.val (.int x0), .val (.int x1), .unset, .unset, .unset, .unset, .unset, .unset, .unset, .unset, .unset, .unset, .unset, .unset, .unset, .unset, .unset] [] := by first | (simp [entryFrame, mkF, argsToLocals, Value.category, maxLocals]; done) | rfl
def Q_rm0 (Z : State) (p1 : Int32) (p2 : Int32) (h0 : Heap) (n0 : Nat) (v : Option Value) (h : Heap) (L : List Loc) : Prop := v = some (.int 1) ∧ Fr n0 L
set_option maxRecDepth 65536 in
set_option maxHeartbeats 40000000 in
theorem rm0 (l : Launch) (Z : State) (a0 : Array Value) (hw : ∀ d ∈ tables_1, d.before a0 Z = true) (ws : List Jvm.Cond) (p1 : Int32) (p2 : Int32) (h0 : Heap) (n0 : Nat) (Z0 : n0 ≤ h0.size) :
    MetFree l x (head1 (Jvm.Cond.code x code maxLocals ret :: ws) room_1) (fun av U => av = #[(.int p1), (.int p2)] ∧ Z.Warmed39 U.vm ∧ U.heap = h0) (fun _ _ _ _ _ => True) (fun _ U o U' => ∃ v L, o = .returned v ∧ Q_rm0 Z p1 p2 h0 n0 v U'.heap L ∧ FrameEnd U o U' L room_1.cells room_1.slots) := by
  refine MetFree.of_bodySF (plainFor_of_name pn_0) hisR ?_
  intro p e s m args below meth c s₁ Bd hml0 hP hK
  obtain ⟨rfl, hZ, hh⟩ := hP
  have hx := Bd.exec
  have hby := Bd.bytes
  have hml : c.maxLocals = 17 := hml0
  have hown : s.vm.findClass "com/example/realbreed/realbreed/problems/ClassicSuiteGoldsteinPricePinLaw" = some m.cls := findClass_of_methodNamed Bd.named
  have hnm := (name_of_methodNamed Bd.named Bd.method).1
  have X0 : Stand p l e room_1 s m #[(.int p1), (.int p2)] below meth c s₁ [] 0 0 := Stand.of_body Bd
  have e0 : s₁.heap = h0 := by rw [← hh, Bd.state]; rfl
  have N0 := Fr.nil n0
  have pre0 : ∀ t, Steps p.tables e below (s₁.setTop (mkF m 0 #[.val (.int p1), .val (.int p2), .unset, .unset, .unset, .unset, .unset, .unset, .unset, .unset, .unset, .unset, .unset, .unset, .unset, .unset, .unset] [])) t → Steps p.tables e below (s₁.setTop (entryFrame m #[(.int p1), (.int p2)] maxLocals)) t := fun t k => castTop (ef_rm0 m p1 p2) k
  have sg1 : ∀ target, Steps p.tables e below (s₁.setTop (mkF m 119 #[.val (.int p1), .val (.int p2), .val (.long (own_x p1)), .second, .val (.long (own_x p2)), .second, .val (.long ((own_x p1) + (own_x p2))), .second, .val (.long (own_dd (own_x p1) (own_x p2))), .second, .val (.long (own_f (own_x p1) (own_x p2))), .second, .val (.long (own_s (own_x p1) (own_x p2))), .second, .val (.double (FP.dmul (FP.l2d (own_f (own_x p1) (own_x p2))) (FP.l2d (own_s (own_x p1) (own_x p2))))), .second, .unset] [(.int (2 : Int32))])) target → Steps p.tables e below (s₁.setTop (mkF m 0 #[.val (.int p1), .val (.int p2), .unset, .unset, .unset, .unset, .unset, .unset, .unset, .unset, .unset, .unset, .unset, .unset, .unset, .unset, .unset] [])) target := by
    intro target kt
    show Steps p.tables e below (s₁.setTop (mkF m 0 #[.val (.int p1), .val (.int p2), .unset, .unset, .unset, .unset, .unset, .unset, .unset, .unset, .unset, .unset, .unset, .unset, .unset, .unset, .unset] [])) _
    refine XS.iloadN X0.here hx rfl (hb hby at_0) rfl ?_
    show Steps p.tables e below (s₁.setTop (mkF m 1 #[.val (.int p1), .val (.int p2), .unset, .unset, .unset, .unset, .unset, .unset, .unset, .unset, .unset, .unset, .unset, .unset, .unset, .unset, .unset] [(.int p1)])) _
    refine XS.sipush X0.here hx rfl (hb hby at_1) ?_
    show Steps p.tables e below (s₁.setTop (mkF m 4 #[.val (.int p1), .val (.int p2), .unset, .unset, .unset, .unset, .unset, .unset, .unset, .unset, .unset, .unset, .unset, .unset, .unset, .unset, .unset] [(.int (2047 : Int32)), (.int p1)])) _
    refine XS.iand X0.here hx rfl (hb hby at_4) rfl ?_
    show Steps p.tables e below (s₁.setTop (mkF m 5 #[.val (.int p1), .val (.int p2), .unset, .unset, .unset, .unset, .unset, .unset, .unset, .unset, .unset, .unset, .unset, .unset, .unset, .unset, .unset] [(.int (p1 &&& (2047 : Int32)))])) _
    refine XS.sipush X0.here hx rfl (hb hby at_5) ?_
    show Steps p.tables e below (s₁.setTop (mkF m 8 #[.val (.int p1), .val (.int p2), .unset, .unset, .unset, .unset, .unset, .unset, .unset, .unset, .unset, .unset, .unset, .unset, .unset, .unset, .unset] [(.int (1024 : Int32)), (.int (p1 &&& (2047 : Int32)))])) _
    refine XS.isub X0.here hx rfl (hb hby at_8) rfl ?_
    show Steps p.tables e below (s₁.setTop (mkF m 9 #[.val (.int p1), .val (.int p2), .unset, .unset, .unset, .unset, .unset, .unset, .unset, .unset, .unset, .unset, .unset, .unset, .unset, .unset, .unset] [(.int ((p1 &&& (2047 : Int32)) - (1024 : Int32)))])) _
    refine XS.i2l X0.here hx rfl (hb hby at_9) rfl ?_
    show Steps p.tables e below (s₁.setTop (mkF m 10 #[.val (.int p1), .val (.int p2), .unset, .unset, .unset, .unset, .unset, .unset, .unset, .unset, .unset, .unset, .unset, .unset, .unset, .unset, .unset] [(.long (own_x p1))])) _
    refine XS.lstoreN X0.here hx rfl (hb hby at_10) rfl (l' := #[.val (.int p1), .val (.int p2), .val (.long (own_x p1)), .second, .unset, .unset, .unset, .unset, .unset, .unset, .unset, .unset, .unset, .unset, .unset, .unset, .unset]) rfl ?_
    show Steps p.tables e below (s₁.setTop (mkF m 11 #[.val (.int p1), .val (.int p2), .val (.long (own_x p1)), .second, .unset, .unset, .unset, .unset, .unset, .unset, .unset, .unset, .unset, .unset, .unset, .unset, .unset] [])) _
    refine XS.iloadN X0.here hx rfl (hb hby at_11) rfl ?_
    show Steps p.tables e below (s₁.setTop (mkF m 12 #[.val (.int p1), .val (.int p2), .val (.long (own_x p1)), .second, .unset, .unset, .unset, .unset, .unset, .unset, .unset, .unset, .unset, .unset, .unset, .unset, .unset] [(.int p2)])) _
    refine XS.sipush X0.here hx rfl (hb hby at_12) ?_
    show Steps p.tables e below (s₁.setTop (mkF m 15 #[.val (.int p1), .val (.int p2), .val (.long (own_x p1)), .second, .unset, .unset, .unset, .unset, .unset, .unset, .unset, .unset, .unset, .unset, .unset, .unset, .unset] [(.int (2047 : Int32)), (.int p2)])) _
    refine XS.iand X0.here hx rfl (hb hby at_15) rfl ?_
    show Steps p.tables e below (s₁.setTop (mkF m 16 #[.val (.int p1), .val (.int p2), .val (.long (own_x p1)), .second, .unset, .unset, .unset, .unset, .unset, .unset, .unset, .unset, .unset, .unset, .unset, .unset, .unset] [(.int (p2 &&& (2047 : Int32)))])) _
    refine XS.sipush X0.here hx rfl (hb hby at_16) ?_
    show Steps p.tables e below (s₁.setTop (mkF m 19 #[.val (.int p1), .val (.int p2), .val (.long (own_x p1)), .second, .unset, .unset, .unset, .unset, .unset, .unset, .unset, .unset, .unset, .unset, .unset, .unset, .unset] [(.int (1024 : Int32)), (.int (p2 &&& (2047 : Int32)))])) _
    refine XS.isub X0.here hx rfl (hb hby at_19) rfl ?_
    show Steps p.tables e below (s₁.setTop (mkF m 20 #[.val (.int p1), .val (.int p2), .val (.long (own_x p1)), .second, .unset, .unset, .unset, .unset, .unset, .unset, .unset, .unset, .unset, .unset, .unset, .unset, .unset] [(.int ((p2 &&& (2047 : Int32)) - (1024 : Int32)))])) _
    refine XS.i2l X0.here hx rfl (hb hby at_20) rfl ?_
    show Steps p.tables e below (s₁.setTop (mkF m 21 #[.val (.int p1), .val (.int p2), .val (.long (own_x p1)), .second, .unset, .unset, .unset, .unset, .unset, .unset, .unset, .unset, .unset, .unset, .unset, .unset, .unset] [(.long (own_x p2))])) _
    refine XS.lstore X0.here hx rfl (hb hby at_21) rfl (l' := #[.val (.int p1), .val (.int p2), .val (.long (own_x p1)), .second, .val (.long (own_x p2)), .second, .unset, .unset, .unset, .unset, .unset, .unset, .unset, .unset, .unset, .unset, .unset]) rfl ?_
    show Steps p.tables e below (s₁.setTop (mkF m 23 #[.val (.int p1), .val (.int p2), .val (.long (own_x p1)), .second, .val (.long (own_x p2)), .second, .unset, .unset, .unset, .unset, .unset, .unset, .unset, .unset, .unset, .unset, .unset] [])) _
    refine XS.lloadN X0.here hx rfl (hb hby at_23) rfl ?_
    show Steps p.tables e below (s₁.setTop (mkF m 24 #[.val (.int p1), .val (.int p2), .val (.long (own_x p1)), .second, .val (.long (own_x p2)), .second, .unset, .unset, .unset, .unset, .unset, .unset, .unset, .unset, .unset, .unset, .unset] [(.long (own_x p1))])) _
    refine XS.lload X0.here hx rfl (hb hby at_24) rfl ?_
    show Steps p.tables e below (s₁.setTop (mkF m 26 #[.val (.int p1), .val (.int p2), .val (.long (own_x p1)), .second, .val (.long (own_x p2)), .second, .unset, .unset, .unset, .unset, .unset, .unset, .unset, .unset, .unset, .unset, .unset] [(.long (own_x p2)), (.long (own_x p1))])) _
    refine XS.ladd X0.here hx rfl (hb hby at_26) rfl ?_
    show Steps p.tables e below (s₁.setTop (mkF m 27 #[.val (.int p1), .val (.int p2), .val (.long (own_x p1)), .second, .val (.long (own_x p2)), .second, .unset, .unset, .unset, .unset, .unset, .unset, .unset, .unset, .unset, .unset, .unset] [(.long ((own_x p1) + (own_x p2)))])) _
    refine XS.lstore X0.here hx rfl (hb hby at_27) rfl (l' := #[.val (.int p1), .val (.int p2), .val (.long (own_x p1)), .second, .val (.long (own_x p2)), .second, .val (.long ((own_x p1) + (own_x p2))), .second, .unset, .unset, .unset, .unset, .unset, .unset, .unset, .unset, .unset]) rfl ?_
    show Steps p.tables e below (s₁.setTop (mkF m 29 #[.val (.int p1), .val (.int p2), .val (.long (own_x p1)), .second, .val (.long (own_x p2)), .second, .val (.long ((own_x p1) + (own_x p2))), .second, .unset, .unset, .unset, .unset, .unset, .unset, .unset, .unset, .unset] [])) _
    refine X0.ldc2Long hx hown (mvT hZ (hw _ (List.mem_of_getElem? (i := 0) rfl))) (g := (mkF m 29 #[.val (.int p1), .val (.int p2), .val (.long (own_x p1)), .second, .val (.long (own_x p2)), .second, .val (.long ((own_x p1) + (own_x p2))), .second, .unset, .unset, .unset, .unset, .unset, .unset, .unset, .unset, .unset] [])) rfl (hb hby at_29) _ ?_
    show Steps p.tables e below (s₁.setTop (mkF m 32 #[.val (.int p1), .val (.int p2), .val (.long (own_x p1)), .second, .val (.long (own_x p2)), .second, .val (.long ((own_x p1) + (own_x p2))), .second, .unset, .unset, .unset, .unset, .unset, .unset, .unset, .unset, .unset] [(.long (2 : Int64))])) _
    refine XS.lloadN X0.here hx rfl (hb hby at_32) rfl ?_
    show Steps p.tables e below (s₁.setTop (mkF m 33 #[.val (.int p1), .val (.int p2), .val (.long (own_x p1)), .second, .val (.long (own_x p2)), .second, .val (.long ((own_x p1) + (own_x p2))), .second, .unset, .unset, .unset, .unset, .unset, .unset, .unset, .unset, .unset] [(.long (own_x p1)), (.long (2 : Int64))])) _
    refine XS.lmul X0.here hx rfl (hb hby at_33) rfl ?_
    show Steps p.tables e below (s₁.setTop (mkF m 34 #[.val (.int p1), .val (.int p2), .val (.long (own_x p1)), .second, .val (.long (own_x p2)), .second, .val (.long ((own_x p1) + (own_x p2))), .second, .unset, .unset, .unset, .unset, .unset, .unset, .unset, .unset, .unset] [(.long ((2 : Int64) * (own_x p1)))])) _
    refine X0.ldc2Long hx hown (mvT hZ (hw _ (List.mem_of_getElem? (i := 1) rfl))) (g := (mkF m 34 #[.val (.int p1), .val (.int p2), .val (.long (own_x p1)), .second, .val (.long (own_x p2)), .second, .val (.long ((own_x p1) + (own_x p2))), .second, .unset, .unset, .unset, .unset, .unset, .unset, .unset, .unset, .unset] [(.long ((2 : Int64) * (own_x p1)))])) rfl (hb hby at_34) _ ?_
    show Steps p.tables e below (s₁.setTop (mkF m 37 #[.val (.int p1), .val (.int p2), .val (.long (own_x p1)), .second, .val (.long (own_x p2)), .second, .val (.long ((own_x p1) + (own_x p2))), .second, .unset, .unset, .unset, .unset, .unset, .unset, .unset, .unset, .unset] [(.long (3 : Int64)), (.long ((2 : Int64) * (own_x p1)))])) _
    refine XS.lload X0.here hx rfl (hb hby at_37) rfl ?_
    show Steps p.tables e below (s₁.setTop (mkF m 39 #[.val (.int p1), .val (.int p2), .val (.long (own_x p1)), .second, .val (.long (own_x p2)), .second, .val (.long ((own_x p1) + (own_x p2))), .second, .unset, .unset, .unset, .unset, .unset, .unset, .unset, .unset, .unset] [(.long (own_x p2)), (.long (3 : Int64)), (.long ((2 : Int64) * (own_x p1)))])) _
    refine XS.lmul X0.here hx rfl (hb hby at_39) rfl ?_
    show Steps p.tables e below (s₁.setTop (mkF m 40 #[.val (.int p1), .val (.int p2), .val (.long (own_x p1)), .second, .val (.long (own_x p2)), .second, .val (.long ((own_x p1) + (own_x p2))), .second, .unset, .unset, .unset, .unset, .unset, .unset, .unset, .unset, .unset] [(.long ((3 : Int64) * (own_x p2))), (.long ((2 : Int64) * (own_x p1)))])) _
    refine XS.lsub X0.here hx rfl (hb hby at_40) rfl ?_
    show Steps p.tables e below (s₁.setTop (mkF m 41 #[.val (.int p1), .val (.int p2), .val (.long (own_x p1)), .second, .val (.long (own_x p2)), .second, .val (.long ((own_x p1) + (own_x p2))), .second, .unset, .unset, .unset, .unset, .unset, .unset, .unset, .unset, .unset] [(.long (own_dd (own_x p1) (own_x p2)))])) _
    refine XS.lstore X0.here hx rfl (hb hby at_41) rfl (l' := #[.val (.int p1), .val (.int p2), .val (.long (own_x p1)), .second, .val (.long (own_x p2)), .second, .val (.long ((own_x p1) + (own_x p2))), .second, .val (.long (own_dd (own_x p1) (own_x p2))), .second, .unset, .unset, .unset, .unset, .unset, .unset, .unset]) rfl ?_
    show Steps p.tables e below (s₁.setTop (mkF m 43 #[.val (.int p1), .val (.int p2), .val (.long (own_x p1)), .second, .val (.long (own_x p2)), .second, .val (.long ((own_x p1) + (own_x p2))), .second, .val (.long (own_dd (own_x p1) (own_x p2))), .second, .unset, .unset, .unset, .unset, .unset, .unset, .unset] [])) _
    refine XS.lconst X0.here hx rfl (hb hby at_43) ?_
    show Steps p.tables e below (s₁.setTop (mkF m 44 #[.val (.int p1), .val (.int p2), .val (.long (own_x p1)), .second, .val (.long (own_x p2)), .second, .val (.long ((own_x p1) + (own_x p2))), .second, .val (.long (own_dd (own_x p1) (own_x p2))), .second, .unset, .unset, .unset, .unset, .unset, .unset, .unset] [(.long (1 : Int64))])) _
    refine XS.lload X0.here hx rfl (hb hby at_44) rfl ?_
    show Steps p.tables e below (s₁.setTop (mkF m 46 #[.val (.int p1), .val (.int p2), .val (.long (own_x p1)), .second, .val (.long (own_x p2)), .second, .val (.long ((own_x p1) + (own_x p2))), .second, .val (.long (own_dd (own_x p1) (own_x p2))), .second, .unset, .unset, .unset, .unset, .unset, .unset, .unset] [(.long ((own_x p1) + (own_x p2))), (.long (1 : Int64))])) _
    refine XS.lconst X0.here hx rfl (hb hby at_46) ?_
    show Steps p.tables e below (s₁.setTop (mkF m 47 #[.val (.int p1), .val (.int p2), .val (.long (own_x p1)), .second, .val (.long (own_x p2)), .second, .val (.long ((own_x p1) + (own_x p2))), .second, .val (.long (own_dd (own_x p1) (own_x p2))), .second, .unset, .unset, .unset, .unset, .unset, .unset, .unset] [(.long (1 : Int64)), (.long ((own_x p1) + (own_x p2))), (.long (1 : Int64))])) _
    refine XS.ladd X0.here hx rfl (hb hby at_47) rfl ?_
    show Steps p.tables e below (s₁.setTop (mkF m 48 #[.val (.int p1), .val (.int p2), .val (.long (own_x p1)), .second, .val (.long (own_x p2)), .second, .val (.long ((own_x p1) + (own_x p2))), .second, .val (.long (own_dd (own_x p1) (own_x p2))), .second, .unset, .unset, .unset, .unset, .unset, .unset, .unset] [(.long (((own_x p1) + (own_x p2)) + (1 : Int64))), (.long (1 : Int64))])) _
    refine XS.lload X0.here hx rfl (hb hby at_48) rfl ?_
    show Steps p.tables e below (s₁.setTop (mkF m 50 #[.val (.int p1), .val (.int p2), .val (.long (own_x p1)), .second, .val (.long (own_x p2)), .second, .val (.long ((own_x p1) + (own_x p2))), .second, .val (.long (own_dd (own_x p1) (own_x p2))), .second, .unset, .unset, .unset, .unset, .unset, .unset, .unset] [(.long ((own_x p1) + (own_x p2))), (.long (((own_x p1) + (own_x p2)) + (1 : Int64))), (.long (1 : Int64))])) _
    refine XS.lconst X0.here hx rfl (hb hby at_50) ?_
    show Steps p.tables e below (s₁.setTop (mkF m 51 #[.val (.int p1), .val (.int p2), .val (.long (own_x p1)), .second, .val (.long (own_x p2)), .second, .val (.long ((own_x p1) + (own_x p2))), .second, .val (.long (own_dd (own_x p1) (own_x p2))), .second, .unset, .unset, .unset, .unset, .unset, .unset, .unset] [(.long (1 : Int64)), (.long ((own_x p1) + (own_x p2))), (.long (((own_x p1) + (own_x p2)) + (1 : Int64))), (.long (1 : Int64))])) _
    refine XS.ladd X0.here hx rfl (hb hby at_51) rfl ?_
    show Steps p.tables e below (s₁.setTop (mkF m 52 #[.val (.int p1), .val (.int p2), .val (.long (own_x p1)), .second, .val (.long (own_x p2)), .second, .val (.long ((own_x p1) + (own_x p2))), .second, .val (.long (own_dd (own_x p1) (own_x p2))), .second, .unset, .unset, .unset, .unset, .unset, .unset, .unset] [(.long (((own_x p1) + (own_x p2)) + (1 : Int64))), (.long (((own_x p1) + (own_x p2)) + (1 : Int64))), (.long (1 : Int64))])) _
    refine XS.lmul X0.here hx rfl (hb hby at_52) rfl ?_
    show Steps p.tables e below (s₁.setTop (mkF m 53 #[.val (.int p1), .val (.int p2), .val (.long (own_x p1)), .second, .val (.long (own_x p2)), .second, .val (.long ((own_x p1) + (own_x p2))), .second, .val (.long (own_dd (own_x p1) (own_x p2))), .second, .unset, .unset, .unset, .unset, .unset, .unset, .unset] [(.long ((((own_x p1) + (own_x p2)) + (1 : Int64)) * (((own_x p1) + (own_x p2)) + (1 : Int64)))), (.long (1 : Int64))])) _
    refine X0.ldc2Long hx hown (mvT hZ (hw _ (List.mem_of_getElem? (i := 1) rfl))) (g := (mkF m 53 #[.val (.int p1), .val (.int p2), .val (.long (own_x p1)), .second, .val (.long (own_x p2)), .second, .val (.long ((own_x p1) + (own_x p2))), .second, .val (.long (own_dd (own_x p1) (own_x p2))), .second, .unset, .unset, .unset, .unset, .unset, .unset, .unset] [(.long ((((own_x p1) + (own_x p2)) + (1 : Int64)) * (((own_x p1) + (own_x p2)) + (1 : Int64)))), (.long (1 : Int64))])) rfl (hb hby at_53) _ ?_
    show Steps p.tables e below (s₁.setTop (mkF m 56 #[.val (.int p1), .val (.int p2), .val (.long (own_x p1)), .second, .val (.long (own_x p2)), .second, .val (.long ((own_x p1) + (own_x p2))), .second, .val (.long (own_dd (own_x p1) (own_x p2))), .second, .unset, .unset, .unset, .unset, .unset, .unset, .unset] [(.long (3 : Int64)), (.long ((((own_x p1) + (own_x p2)) + (1 : Int64)) * (((own_x p1) + (own_x p2)) + (1 : Int64)))), (.long (1 : Int64))])) _
    refine XS.lload X0.here hx rfl (hb hby at_56) rfl ?_
    show Steps p.tables e below (s₁.setTop (mkF m 58 #[.val (.int p1), .val (.int p2), .val (.long (own_x p1)), .second, .val (.long (own_x p2)), .second, .val (.long ((own_x p1) + (own_x p2))), .second, .val (.long (own_dd (own_x p1) (own_x p2))), .second, .unset, .unset, .unset, .unset, .unset, .unset, .unset] [(.long ((own_x p1) + (own_x p2))), (.long (3 : Int64)), (.long ((((own_x p1) + (own_x p2)) + (1 : Int64)) * (((own_x p1) + (own_x p2)) + (1 : Int64)))), (.long (1 : Int64))])) _
    refine XS.lmul X0.here hx rfl (hb hby at_58) rfl ?_
    show Steps p.tables e below (s₁.setTop (mkF m 59 #[.val (.int p1), .val (.int p2), .val (.long (own_x p1)), .second, .val (.long (own_x p2)), .second, .val (.long ((own_x p1) + (own_x p2))), .second, .val (.long (own_dd (own_x p1) (own_x p2))), .second, .unset, .unset, .unset, .unset, .unset, .unset, .unset] [(.long ((3 : Int64) * ((own_x p1) + (own_x p2)))), (.long ((((own_x p1) + (own_x p2)) + (1 : Int64)) * (((own_x p1) + (own_x p2)) + (1 : Int64)))), (.long (1 : Int64))])) _
    refine XS.lload X0.here hx rfl (hb hby at_59) rfl ?_
    show Steps p.tables e below (s₁.setTop (mkF m 61 #[.val (.int p1), .val (.int p2), .val (.long (own_x p1)), .second, .val (.long (own_x p2)), .second, .val (.long ((own_x p1) + (own_x p2))), .second, .val (.long (own_dd (own_x p1) (own_x p2))), .second, .unset, .unset, .unset, .unset, .unset, .unset, .unset] [(.long ((own_x p1) + (own_x p2))), (.long ((3 : Int64) * ((own_x p1) + (own_x p2)))), (.long ((((own_x p1) + (own_x p2)) + (1 : Int64)) * (((own_x p1) + (own_x p2)) + (1 : Int64)))), (.long (1 : Int64))])) _
    refine XS.lmul X0.here hx rfl (hb hby at_61) rfl ?_
    show Steps p.tables e below (s₁.setTop (mkF m 62 #[.val (.int p1), .val (.int p2), .val (.long (own_x p1)), .second, .val (.long (own_x p2)), .second, .val (.long ((own_x p1) + (own_x p2))), .second, .val (.long (own_dd (own_x p1) (own_x p2))), .second, .unset, .unset, .unset, .unset, .unset, .unset, .unset] [(.long (((3 : Int64) * ((own_x p1) + (own_x p2))) * ((own_x p1) + (own_x p2)))), (.long ((((own_x p1) + (own_x p2)) + (1 : Int64)) * (((own_x p1) + (own_x p2)) + (1 : Int64)))), (.long (1 : Int64))])) _
    refine X0.ldc2Long hx hown (mvT hZ (hw _ (List.mem_of_getElem? (i := 2) rfl))) (g := (mkF m 62 #[.val (.int p1), .val (.int p2), .val (.long (own_x p1)), .second, .val (.long (own_x p2)), .second, .val (.long ((own_x p1) + (own_x p2))), .second, .val (.long (own_dd (own_x p1) (own_x p2))), .second, .unset, .unset, .unset, .unset, .unset, .unset, .unset] [(.long (((3 : Int64) * ((own_x p1) + (own_x p2))) * ((own_x p1) + (own_x p2)))), (.long ((((own_x p1) + (own_x p2)) + (1 : Int64)) * (((own_x p1) + (own_x p2)) + (1 : Int64)))), (.long (1 : Int64))])) rfl (hb hby at_62) _ ?_
    show Steps p.tables e below (s₁.setTop (mkF m 65 #[.val (.int p1), .val (.int p2), .val (.long (own_x p1)), .second, .val (.long (own_x p2)), .second, .val (.long ((own_x p1) + (own_x p2))), .second, .val (.long (own_dd (own_x p1) (own_x p2))), .second, .unset, .unset, .unset, .unset, .unset, .unset, .unset] [(.long (14 : Int64)), (.long (((3 : Int64) * ((own_x p1) + (own_x p2))) * ((own_x p1) + (own_x p2)))), (.long ((((own_x p1) + (own_x p2)) + (1 : Int64)) * (((own_x p1) + (own_x p2)) + (1 : Int64)))), (.long (1 : Int64))])) _
    refine XS.lload X0.here hx rfl (hb hby at_65) rfl ?_
    show Steps p.tables e below (s₁.setTop (mkF m 67 #[.val (.int p1), .val (.int p2), .val (.long (own_x p1)), .second, .val (.long (own_x p2)), .second, .val (.long ((own_x p1) + (own_x p2))), .second, .val (.long (own_dd (own_x p1) (own_x p2))), .second, .unset, .unset, .unset, .unset, .unset, .unset, .unset] [(.long ((own_x p1) + (own_x p2))), (.long (14 : Int64)), (.long (((3 : Int64) * ((own_x p1) + (own_x p2))) * ((own_x p1) + (own_x p2)))), (.long ((((own_x p1) + (own_x p2)) + (1 : Int64)) * (((own_x p1) + (own_x p2)) + (1 : Int64)))), (.long (1 : Int64))])) _
    refine XS.lmul X0.here hx rfl (hb hby at_67) rfl ?_
    show Steps p.tables e below (s₁.setTop (mkF m 68 #[.val (.int p1), .val (.int p2), .val (.long (own_x p1)), .second, .val (.long (own_x p2)), .second, .val (.long ((own_x p1) + (own_x p2))), .second, .val (.long (own_dd (own_x p1) (own_x p2))), .second, .unset, .unset, .unset, .unset, .unset, .unset, .unset] [(.long ((14 : Int64) * ((own_x p1) + (own_x p2)))), (.long (((3 : Int64) * ((own_x p1) + (own_x p2))) * ((own_x p1) + (own_x p2)))), (.long ((((own_x p1) + (own_x p2)) + (1 : Int64)) * (((own_x p1) + (own_x p2)) + (1 : Int64)))), (.long (1 : Int64))])) _
    refine XS.lsub X0.here hx rfl (hb hby at_68) rfl ?_
    show Steps p.tables e below (s₁.setTop (mkF m 69 #[.val (.int p1), .val (.int p2), .val (.long (own_x p1)), .second, .val (.long (own_x p2)), .second, .val (.long ((own_x p1) + (own_x p2))), .second, .val (.long (own_dd (own_x p1) (own_x p2))), .second, .unset, .unset, .unset, .unset, .unset, .unset, .unset] [(.long ((((3 : Int64) * ((own_x p1) + (own_x p2))) * ((own_x p1) + (own_x p2))) - ((14 : Int64) * ((own_x p1) + (own_x p2))))), (.long ((((own_x p1) + (own_x p2)) + (1 : Int64)) * (((own_x p1) + (own_x p2)) + (1 : Int64)))), (.long (1 : Int64))])) _
    refine X0.ldc2Long hx hown (mvT hZ (hw _ (List.mem_of_getElem? (i := 3) rfl))) (g := (mkF m 69 #[.val (.int p1), .val (.int p2), .val (.long (own_x p1)), .second, .val (.long (own_x p2)), .second, .val (.long ((own_x p1) + (own_x p2))), .second, .val (.long (own_dd (own_x p1) (own_x p2))), .second, .unset, .unset, .unset, .unset, .unset, .unset, .unset] [(.long ((((3 : Int64) * ((own_x p1) + (own_x p2))) * ((own_x p1) + (own_x p2))) - ((14 : Int64) * ((own_x p1) + (own_x p2))))), (.long ((((own_x p1) + (own_x p2)) + (1 : Int64)) * (((own_x p1) + (own_x p2)) + (1 : Int64)))), (.long (1 : Int64))])) rfl (hb hby at_69) _ ?_
    show Steps p.tables e below (s₁.setTop (mkF m 72 #[.val (.int p1), .val (.int p2), .val (.long (own_x p1)), .second, .val (.long (own_x p2)), .second, .val (.long ((own_x p1) + (own_x p2))), .second, .val (.long (own_dd (own_x p1) (own_x p2))), .second, .unset, .unset, .unset, .unset, .unset, .unset, .unset] [(.long (19 : Int64)), (.long ((((3 : Int64) * ((own_x p1) + (own_x p2))) * ((own_x p1) + (own_x p2))) - ((14 : Int64) * ((own_x p1) + (own_x p2))))), (.long ((((own_x p1) + (own_x p2)) + (1 : Int64)) * (((own_x p1) + (own_x p2)) + (1 : Int64)))), (.long (1 : Int64))])) _
    refine XS.ladd X0.here hx rfl (hb hby at_72) rfl ?_
    show Steps p.tables e below (s₁.setTop (mkF m 73 #[.val (.int p1), .val (.int p2), .val (.long (own_x p1)), .second, .val (.long (own_x p2)), .second, .val (.long ((own_x p1) + (own_x p2))), .second, .val (.long (own_dd (own_x p1) (own_x p2))), .second, .unset, .unset, .unset, .unset, .unset, .unset, .unset] [(.long (((((3 : Int64) * ((own_x p1) + (own_x p2))) * ((own_x p1) + (own_x p2))) - ((14 : Int64) * ((own_x p1) + (own_x p2)))) + (19 : Int64))), (.long ((((own_x p1) + (own_x p2)) + (1 : Int64)) * (((own_x p1) + (own_x p2)) + (1 : Int64)))), (.long (1 : Int64))])) _
    refine XS.lmul X0.here hx rfl (hb hby at_73) rfl ?_
    show Steps p.tables e below (s₁.setTop (mkF m 74 #[.val (.int p1), .val (.int p2), .val (.long (own_x p1)), .second, .val (.long (own_x p2)), .second, .val (.long ((own_x p1) + (own_x p2))), .second, .val (.long (own_dd (own_x p1) (own_x p2))), .second, .unset, .unset, .unset, .unset, .unset, .unset, .unset] [(.long (((((own_x p1) + (own_x p2)) + (1 : Int64)) * (((own_x p1) + (own_x p2)) + (1 : Int64))) * (((((3 : Int64) * ((own_x p1) + (own_x p2))) * ((own_x p1) + (own_x p2))) - ((14 : Int64) * ((own_x p1) + (own_x p2)))) + (19 : Int64)))), (.long (1 : Int64))])) _
    refine XS.ladd X0.here hx rfl (hb hby at_74) rfl ?_
    show Steps p.tables e below (s₁.setTop (mkF m 75 #[.val (.int p1), .val (.int p2), .val (.long (own_x p1)), .second, .val (.long (own_x p2)), .second, .val (.long ((own_x p1) + (own_x p2))), .second, .val (.long (own_dd (own_x p1) (own_x p2))), .second, .unset, .unset, .unset, .unset, .unset, .unset, .unset] [(.long (own_f (own_x p1) (own_x p2)))])) _
    refine XS.lstore X0.here hx rfl (hb hby at_75) rfl (l' := #[.val (.int p1), .val (.int p2), .val (.long (own_x p1)), .second, .val (.long (own_x p2)), .second, .val (.long ((own_x p1) + (own_x p2))), .second, .val (.long (own_dd (own_x p1) (own_x p2))), .second, .val (.long (own_f (own_x p1) (own_x p2))), .second, .unset, .unset, .unset, .unset, .unset]) rfl ?_
    show Steps p.tables e below (s₁.setTop (mkF m 77 #[.val (.int p1), .val (.int p2), .val (.long (own_x p1)), .second, .val (.long (own_x p2)), .second, .val (.long ((own_x p1) + (own_x p2))), .second, .val (.long (own_dd (own_x p1) (own_x p2))), .second, .val (.long (own_f (own_x p1) (own_x p2))), .second, .unset, .unset, .unset, .unset, .unset] [])) _
    refine X0.ldc2Long hx hown (mvT hZ (hw _ (List.mem_of_getElem? (i := 4) rfl))) (g := (mkF m 77 #[.val (.int p1), .val (.int p2), .val (.long (own_x p1)), .second, .val (.long (own_x p2)), .second, .val (.long ((own_x p1) + (own_x p2))), .second, .val (.long (own_dd (own_x p1) (own_x p2))), .second, .val (.long (own_f (own_x p1) (own_x p2))), .second, .unset, .unset, .unset, .unset, .unset] [])) rfl (hb hby at_77) _ ?_
    show Steps p.tables e below (s₁.setTop (mkF m 80 #[.val (.int p1), .val (.int p2), .val (.long (own_x p1)), .second, .val (.long (own_x p2)), .second, .val (.long ((own_x p1) + (own_x p2))), .second, .val (.long (own_dd (own_x p1) (own_x p2))), .second, .val (.long (own_f (own_x p1) (own_x p2))), .second, .unset, .unset, .unset, .unset, .unset] [(.long (30 : Int64))])) _
    refine XS.lload X0.here hx rfl (hb hby at_80) rfl ?_
    show Steps p.tables e below (s₁.setTop (mkF m 82 #[.val (.int p1), .val (.int p2), .val (.long (own_x p1)), .second, .val (.long (own_x p2)), .second, .val (.long ((own_x p1) + (own_x p2))), .second, .val (.long (own_dd (own_x p1) (own_x p2))), .second, .val (.long (own_f (own_x p1) (own_x p2))), .second, .unset, .unset, .unset, .unset, .unset] [(.long (own_dd (own_x p1) (own_x p2))), (.long (30 : Int64))])) _
    refine XS.lload X0.here hx rfl (hb hby at_82) rfl ?_
    show Steps p.tables e below (s₁.setTop (mkF m 84 #[.val (.int p1), .val (.int p2), .val (.long (own_x p1)), .second, .val (.long (own_x p2)), .second, .val (.long ((own_x p1) + (own_x p2))), .second, .val (.long (own_dd (own_x p1) (own_x p2))), .second, .val (.long (own_f (own_x p1) (own_x p2))), .second, .unset, .unset, .unset, .unset, .unset] [(.long (own_dd (own_x p1) (own_x p2))), (.long (own_dd (own_x p1) (own_x p2))), (.long (30 : Int64))])) _
    refine XS.lmul X0.here hx rfl (hb hby at_84) rfl ?_
    show Steps p.tables e below (s₁.setTop (mkF m 85 #[.val (.int p1), .val (.int p2), .val (.long (own_x p1)), .second, .val (.long (own_x p2)), .second, .val (.long ((own_x p1) + (own_x p2))), .second, .val (.long (own_dd (own_x p1) (own_x p2))), .second, .val (.long (own_f (own_x p1) (own_x p2))), .second, .unset, .unset, .unset, .unset, .unset] [(.long ((own_dd (own_x p1) (own_x p2)) * (own_dd (own_x p1) (own_x p2)))), (.long (30 : Int64))])) _
    refine X0.ldc2Long hx hown (mvT hZ (hw _ (List.mem_of_getElem? (i := 1) rfl))) (g := (mkF m 85 #[.val (.int p1), .val (.int p2), .val (.long (own_x p1)), .second, .val (.long (own_x p2)), .second, .val (.long ((own_x p1) + (own_x p2))), .second, .val (.long (own_dd (own_x p1) (own_x p2))), .second, .val (.long (own_f (own_x p1) (own_x p2))), .second, .unset, .unset, .unset, .unset, .unset] [(.long ((own_dd (own_x p1) (own_x p2)) * (own_dd (own_x p1) (own_x p2)))), (.long (30 : Int64))])) rfl (hb hby at_85) _ ?_
    show Steps p.tables e below (s₁.setTop (mkF m 88 #[.val (.int p1), .val (.int p2), .val (.long (own_x p1)), .second, .val (.long (own_x p2)), .second, .val (.long ((own_x p1) + (own_x p2))), .second, .val (.long (own_dd (own_x p1) (own_x p2))), .second, .val (.long (own_f (own_x p1) (own_x p2))), .second, .unset, .unset, .unset, .unset, .unset] [(.long (3 : Int64)), (.long ((own_dd (own_x p1) (own_x p2)) * (own_dd (own_x p1) (own_x p2)))), (.long (30 : Int64))])) _
    refine XS.lload X0.here hx rfl (hb hby at_88) rfl ?_
    show Steps p.tables e below (s₁.setTop (mkF m 90 #[.val (.int p1), .val (.int p2), .val (.long (own_x p1)), .second, .val (.long (own_x p2)), .second, .val (.long ((own_x p1) + (own_x p2))), .second, .val (.long (own_dd (own_x p1) (own_x p2))), .second, .val (.long (own_f (own_x p1) (own_x p2))), .second, .unset, .unset, .unset, .unset, .unset] [(.long (own_dd (own_x p1) (own_x p2))), (.long (3 : Int64)), (.long ((own_dd (own_x p1) (own_x p2)) * (own_dd (own_x p1) (own_x p2)))), (.long (30 : Int64))])) _
    refine XS.lmul X0.here hx rfl (hb hby at_90) rfl ?_
    show Steps p.tables e below (s₁.setTop (mkF m 91 #[.val (.int p1), .val (.int p2), .val (.long (own_x p1)), .second, .val (.long (own_x p2)), .second, .val (.long ((own_x p1) + (own_x p2))), .second, .val (.long (own_dd (own_x p1) (own_x p2))), .second, .val (.long (own_f (own_x p1) (own_x p2))), .second, .unset, .unset, .unset, .unset, .unset] [(.long ((3 : Int64) * (own_dd (own_x p1) (own_x p2)))), (.long ((own_dd (own_x p1) (own_x p2)) * (own_dd (own_x p1) (own_x p2)))), (.long (30 : Int64))])) _
    refine XS.lload X0.here hx rfl (hb hby at_91) rfl ?_
    show Steps p.tables e below (s₁.setTop (mkF m 93 #[.val (.int p1), .val (.int p2), .val (.long (own_x p1)), .second, .val (.long (own_x p2)), .second, .val (.long ((own_x p1) + (own_x p2))), .second, .val (.long (own_dd (own_x p1) (own_x p2))), .second, .val (.long (own_f (own_x p1) (own_x p2))), .second, .unset, .unset, .unset, .unset, .unset] [(.long (own_dd (own_x p1) (own_x p2))), (.long ((3 : Int64) * (own_dd (own_x p1) (own_x p2)))), (.long ((own_dd (own_x p1) (own_x p2)) * (own_dd (own_x p1) (own_x p2)))), (.long (30 : Int64))])) _
    refine XS.lmul X0.here hx rfl (hb hby at_93) rfl ?_
    show Steps p.tables e below (s₁.setTop (mkF m 94 #[.val (.int p1), .val (.int p2), .val (.long (own_x p1)), .second, .val (.long (own_x p2)), .second, .val (.long ((own_x p1) + (own_x p2))), .second, .val (.long (own_dd (own_x p1) (own_x p2))), .second, .val (.long (own_f (own_x p1) (own_x p2))), .second, .unset, .unset, .unset, .unset, .unset] [(.long (((3 : Int64) * (own_dd (own_x p1) (own_x p2))) * (own_dd (own_x p1) (own_x p2)))), (.long ((own_dd (own_x p1) (own_x p2)) * (own_dd (own_x p1) (own_x p2)))), (.long (30 : Int64))])) _
    refine X0.ldc2Long hx hown (mvT hZ (hw _ (List.mem_of_getElem? (i := 5) rfl))) (g := (mkF m 94 #[.val (.int p1), .val (.int p2), .val (.long (own_x p1)), .second, .val (.long (own_x p2)), .second, .val (.long ((own_x p1) + (own_x p2))), .second, .val (.long (own_dd (own_x p1) (own_x p2))), .second, .val (.long (own_f (own_x p1) (own_x p2))), .second, .unset, .unset, .unset, .unset, .unset] [(.long (((3 : Int64) * (own_dd (own_x p1) (own_x p2))) * (own_dd (own_x p1) (own_x p2)))), (.long ((own_dd (own_x p1) (own_x p2)) * (own_dd (own_x p1) (own_x p2)))), (.long (30 : Int64))])) rfl (hb hby at_94) _ ?_
    show Steps p.tables e below (s₁.setTop (mkF m 97 #[.val (.int p1), .val (.int p2), .val (.long (own_x p1)), .second, .val (.long (own_x p2)), .second, .val (.long ((own_x p1) + (own_x p2))), .second, .val (.long (own_dd (own_x p1) (own_x p2))), .second, .val (.long (own_f (own_x p1) (own_x p2))), .second, .unset, .unset, .unset, .unset, .unset] [(.long (16 : Int64)), (.long (((3 : Int64) * (own_dd (own_x p1) (own_x p2))) * (own_dd (own_x p1) (own_x p2)))), (.long ((own_dd (own_x p1) (own_x p2)) * (own_dd (own_x p1) (own_x p2)))), (.long (30 : Int64))])) _
    refine XS.lload X0.here hx rfl (hb hby at_97) rfl ?_
    show Steps p.tables e below (s₁.setTop (mkF m 99 #[.val (.int p1), .val (.int p2), .val (.long (own_x p1)), .second, .val (.long (own_x p2)), .second, .val (.long ((own_x p1) + (own_x p2))), .second, .val (.long (own_dd (own_x p1) (own_x p2))), .second, .val (.long (own_f (own_x p1) (own_x p2))), .second, .unset, .unset, .unset, .unset, .unset] [(.long (own_dd (own_x p1) (own_x p2))), (.long (16 : Int64)), (.long (((3 : Int64) * (own_dd (own_x p1) (own_x p2))) * (own_dd (own_x p1) (own_x p2)))), (.long ((own_dd (own_x p1) (own_x p2)) * (own_dd (own_x p1) (own_x p2)))), (.long (30 : Int64))])) _
    refine XS.lmul X0.here hx rfl (hb hby at_99) rfl ?_
    show Steps p.tables e below (s₁.setTop (mkF m 100 #[.val (.int p1), .val (.int p2), .val (.long (own_x p1)), .second, .val (.long (own_x p2)), .second, .val (.long ((own_x p1) + (own_x p2))), .second, .val (.long (own_dd (own_x p1) (own_x p2))), .second, .val (.long (own_f (own_x p1) (own_x p2))), .second, .unset, .unset, .unset, .unset, .unset] [(.long ((16 : Int64) * (own_dd (own_x p1) (own_x p2)))), (.long (((3 : Int64) * (own_dd (own_x p1) (own_x p2))) * (own_dd (own_x p1) (own_x p2)))), (.long ((own_dd (own_x p1) (own_x p2)) * (own_dd (own_x p1) (own_x p2)))), (.long (30 : Int64))])) _
    refine XS.lsub X0.here hx rfl (hb hby at_100) rfl ?_
    show Steps p.tables e below (s₁.setTop (mkF m 101 #[.val (.int p1), .val (.int p2), .val (.long (own_x p1)), .second, .val (.long (own_x p2)), .second, .val (.long ((own_x p1) + (own_x p2))), .second, .val (.long (own_dd (own_x p1) (own_x p2))), .second, .val (.long (own_f (own_x p1) (own_x p2))), .second, .unset, .unset, .unset, .unset, .unset] [(.long ((((3 : Int64) * (own_dd (own_x p1) (own_x p2))) * (own_dd (own_x p1) (own_x p2))) - ((16 : Int64) * (own_dd (own_x p1) (own_x p2))))), (.long ((own_dd (own_x p1) (own_x p2)) * (own_dd (own_x p1) (own_x p2)))), (.long (30 : Int64))])) _
    refine X0.ldc2Long hx hown (mvT hZ (hw _ (List.mem_of_getElem? (i := 6) rfl))) (g := (mkF m 101 #[.val (.int p1), .val (.int p2), .val (.long (own_x p1)), .second, .val (.long (own_x p2)), .second, .val (.long ((own_x p1) + (own_x p2))), .second, .val (.long (own_dd (own_x p1) (own_x p2))), .second, .val (.long (own_f (own_x p1) (own_x p2))), .second, .unset, .unset, .unset, .unset, .unset] [(.long ((((3 : Int64) * (own_dd (own_x p1) (own_x p2))) * (own_dd (own_x p1) (own_x p2))) - ((16 : Int64) * (own_dd (own_x p1) (own_x p2))))), (.long ((own_dd (own_x p1) (own_x p2)) * (own_dd (own_x p1) (own_x p2)))), (.long (30 : Int64))])) rfl (hb hby at_101) _ ?_
    show Steps p.tables e below (s₁.setTop (mkF m 104 #[.val (.int p1), .val (.int p2), .val (.long (own_x p1)), .second, .val (.long (own_x p2)), .second, .val (.long ((own_x p1) + (own_x p2))), .second, .val (.long (own_dd (own_x p1) (own_x p2))), .second, .val (.long (own_f (own_x p1) (own_x p2))), .second, .unset, .unset, .unset, .unset, .unset] [(.long (18 : Int64)), (.long ((((3 : Int64) * (own_dd (own_x p1) (own_x p2))) * (own_dd (own_x p1) (own_x p2))) - ((16 : Int64) * (own_dd (own_x p1) (own_x p2))))), (.long ((own_dd (own_x p1) (own_x p2)) * (own_dd (own_x p1) (own_x p2)))), (.long (30 : Int64))])) _
    refine XS.ladd X0.here hx rfl (hb hby at_104) rfl ?_
    show Steps p.tables e below (s₁.setTop (mkF m 105 #[.val (.int p1), .val (.int p2), .val (.long (own_x p1)), .second, .val (.long (own_x p2)), .second, .val (.long ((own_x p1) + (own_x p2))), .second, .val (.long (own_dd (own_x p1) (own_x p2))), .second, .val (.long (own_f (own_x p1) (own_x p2))), .second, .unset, .unset, .unset, .unset, .unset] [(.long (((((3 : Int64) * (own_dd (own_x p1) (own_x p2))) * (own_dd (own_x p1) (own_x p2))) - ((16 : Int64) * (own_dd (own_x p1) (own_x p2)))) + (18 : Int64))), (.long ((own_dd (own_x p1) (own_x p2)) * (own_dd (own_x p1) (own_x p2)))), (.long (30 : Int64))])) _
    refine XS.lmul X0.here hx rfl (hb hby at_105) rfl ?_
    show Steps p.tables e below (s₁.setTop (mkF m 106 #[.val (.int p1), .val (.int p2), .val (.long (own_x p1)), .second, .val (.long (own_x p2)), .second, .val (.long ((own_x p1) + (own_x p2))), .second, .val (.long (own_dd (own_x p1) (own_x p2))), .second, .val (.long (own_f (own_x p1) (own_x p2))), .second, .unset, .unset, .unset, .unset, .unset] [(.long (((own_dd (own_x p1) (own_x p2)) * (own_dd (own_x p1) (own_x p2))) * (((((3 : Int64) * (own_dd (own_x p1) (own_x p2))) * (own_dd (own_x p1) (own_x p2))) - ((16 : Int64) * (own_dd (own_x p1) (own_x p2)))) + (18 : Int64)))), (.long (30 : Int64))])) _
    refine XS.ladd X0.here hx rfl (hb hby at_106) rfl ?_
    show Steps p.tables e below (s₁.setTop (mkF m 107 #[.val (.int p1), .val (.int p2), .val (.long (own_x p1)), .second, .val (.long (own_x p2)), .second, .val (.long ((own_x p1) + (own_x p2))), .second, .val (.long (own_dd (own_x p1) (own_x p2))), .second, .val (.long (own_f (own_x p1) (own_x p2))), .second, .unset, .unset, .unset, .unset, .unset] [(.long (own_s (own_x p1) (own_x p2)))])) _
    refine XS.lstore X0.here hx rfl (hb hby at_107) rfl (l' := #[.val (.int p1), .val (.int p2), .val (.long (own_x p1)), .second, .val (.long (own_x p2)), .second, .val (.long ((own_x p1) + (own_x p2))), .second, .val (.long (own_dd (own_x p1) (own_x p2))), .second, .val (.long (own_f (own_x p1) (own_x p2))), .second, .val (.long (own_s (own_x p1) (own_x p2))), .second, .unset, .unset, .unset]) rfl ?_
    show Steps p.tables e below (s₁.setTop (mkF m 109 #[.val (.int p1), .val (.int p2), .val (.long (own_x p1)), .second, .val (.long (own_x p2)), .second, .val (.long ((own_x p1) + (own_x p2))), .second, .val (.long (own_dd (own_x p1) (own_x p2))), .second, .val (.long (own_f (own_x p1) (own_x p2))), .second, .val (.long (own_s (own_x p1) (own_x p2))), .second, .unset, .unset, .unset] [])) _
    refine XS.lload X0.here hx rfl (hb hby at_109) rfl ?_
    show Steps p.tables e below (s₁.setTop (mkF m 111 #[.val (.int p1), .val (.int p2), .val (.long (own_x p1)), .second, .val (.long (own_x p2)), .second, .val (.long ((own_x p1) + (own_x p2))), .second, .val (.long (own_dd (own_x p1) (own_x p2))), .second, .val (.long (own_f (own_x p1) (own_x p2))), .second, .val (.long (own_s (own_x p1) (own_x p2))), .second, .unset, .unset, .unset] [(.long (own_f (own_x p1) (own_x p2)))])) _
    refine XS.l2dS X0.here hx rfl (v := (FP.l2d (own_f (own_x p1) (own_x p2)))) (hb hby at_111) rfl rfl ?_
    show Steps p.tables e below (s₁.setTop (mkF m 112 #[.val (.int p1), .val (.int p2), .val (.long (own_x p1)), .second, .val (.long (own_x p2)), .second, .val (.long ((own_x p1) + (own_x p2))), .second, .val (.long (own_dd (own_x p1) (own_x p2))), .second, .val (.long (own_f (own_x p1) (own_x p2))), .second, .val (.long (own_s (own_x p1) (own_x p2))), .second, .unset, .unset, .unset] [(.double (FP.l2d (own_f (own_x p1) (own_x p2))))])) _
    refine XS.lload X0.here hx rfl (hb hby at_112) rfl ?_
    show Steps p.tables e below (s₁.setTop (mkF m 114 #[.val (.int p1), .val (.int p2), .val (.long (own_x p1)), .second, .val (.long (own_x p2)), .second, .val (.long ((own_x p1) + (own_x p2))), .second, .val (.long (own_dd (own_x p1) (own_x p2))), .second, .val (.long (own_f (own_x p1) (own_x p2))), .second, .val (.long (own_s (own_x p1) (own_x p2))), .second, .unset, .unset, .unset] [(.long (own_s (own_x p1) (own_x p2))), (.double (FP.l2d (own_f (own_x p1) (own_x p2))))])) _
    refine XS.l2dS X0.here hx rfl (v := (FP.l2d (own_s (own_x p1) (own_x p2)))) (hb hby at_114) rfl rfl ?_
    show Steps p.tables e below (s₁.setTop (mkF m 115 #[.val (.int p1), .val (.int p2), .val (.long (own_x p1)), .second, .val (.long (own_x p2)), .second, .val (.long ((own_x p1) + (own_x p2))), .second, .val (.long (own_dd (own_x p1) (own_x p2))), .second, .val (.long (own_f (own_x p1) (own_x p2))), .second, .val (.long (own_s (own_x p1) (own_x p2))), .second, .unset, .unset, .unset] [(.double (FP.l2d (own_s (own_x p1) (own_x p2)))), (.double (FP.l2d (own_f (own_x p1) (own_x p2))))])) _
    refine XS.dmulS X0.here hx rfl (v := (FP.dmul (FP.l2d (own_f (own_x p1) (own_x p2))) (FP.l2d (own_s (own_x p1) (own_x p2))))) (hb hby at_115) rfl (Jvm.Free.Fl.dmul_out (Jvm.Free.Fl.l2d_fin _) (Jvm.Free.Fl.l2d_fin _)) rfl ?_
    show Steps p.tables e below (s₁.setTop (mkF m 116 #[.val (.int p1), .val (.int p2), .val (.long (own_x p1)), .second, .val (.long (own_x p2)), .second, .val (.long ((own_x p1) + (own_x p2))), .second, .val (.long (own_dd (own_x p1) (own_x p2))), .second, .val (.long (own_f (own_x p1) (own_x p2))), .second, .val (.long (own_s (own_x p1) (own_x p2))), .second, .unset, .unset, .unset] [(.double (FP.dmul (FP.l2d (own_f (own_x p1) (own_x p2))) (FP.l2d (own_s (own_x p1) (own_x p2)))))])) _
    refine XS.dstore X0.here hx rfl (hb hby at_116) rfl (l' := #[.val (.int p1), .val (.int p2), .val (.long (own_x p1)), .second, .val (.long (own_x p2)), .second, .val (.long ((own_x p1) + (own_x p2))), .second, .val (.long (own_dd (own_x p1) (own_x p2))), .second, .val (.long (own_f (own_x p1) (own_x p2))), .second, .val (.long (own_s (own_x p1) (own_x p2))), .second, .val (.double (FP.dmul (FP.l2d (own_f (own_x p1) (own_x p2))) (FP.l2d (own_s (own_x p1) (own_x p2))))), .second, .unset]) rfl ?_
    show Steps p.tables e below (s₁.setTop (mkF m 118 #[.val (.int p1), .val (.int p2), .val (.long (own_x p1)), .second, .val (.long (own_x p2)), .second, .val (.long ((own_x p1) + (own_x p2))), .second, .val (.long (own_dd (own_x p1) (own_x p2))), .second, .val (.long (own_f (own_x p1) (own_x p2))), .second, .val (.long (own_s (own_x p1) (own_x p2))), .second, .val (.double (FP.dmul (FP.l2d (own_f (own_x p1) (own_x p2))) (FP.l2d (own_s (own_x p1) (own_x p2))))), .second, .unset] [])) _
    refine XS.iconst X0.here hx rfl (hb hby at_118) ?_
    exact kt
  obtain ⟨T2, h2, k2, X2, e2, E2, A2, st2⟩ := newP X0 hx hZ (hw _ (List.mem_of_getElem? (i := 7) rfl)) e0 (g := (mkF m 119 #[.val (.int p1), .val (.int p2), .val (.long (own_x p1)), .second, .val (.long (own_x p2)), .second, .val (.long ((own_x p1) + (own_x p2))), .second, .val (.long (own_dd (own_x p1) (own_x p2))), .second, .val (.long (own_f (own_x p1) (own_x p2))), .second, .val (.long (own_s (own_x p1) (own_x p2))), .second, .val (.double (FP.dmul (FP.l2d (own_f (own_x p1) (own_x p2))) (FP.l2d (own_s (own_x p1) (own_x p2))))), .second, .unset] [(.int (2 : Int32))])) rfl (hb hby at_119) rfl (by decide) (cap := 2) (by decide) (by decide) (by decide) (by decide)
  obtain ⟨b2, g2⟩ : ∃ z, z = h0.size := ⟨_, rfl⟩
  rw [← g2] at A2 st2
  have g_b2 : n0 ≤ b2 := Nat.le_trans Z0 (Nat.le_of_eq g2.symm)
  have Zs2 : n0 ≤ h2.size := Nat.le_trans Z0 E2.1
  have f3 : Arv Z h2 b2 k2 .double (2 : Int32) [(.double (0 : UInt64)), (.double (0 : UInt64))] (.double (0 : UInt64)) := (Arv.new A2 (by decide)).pad (pad_rep [] (.double (0 : UInt64)) 2)
  have sg4 : ∀ target, Steps p.tables e below (T2.setTop (mkF m 128 #[.val (.int p1), .val (.int p2), .val (.long (own_x p1)), .second, .val (.long (own_x p2)), .second, .val (.long ((own_x p1) + (own_x p2))), .second, .val (.long (own_dd (own_x p1) (own_x p2))), .second, .val (.long (own_f (own_x p1) (own_x p2))), .second, .val (.long (own_s (own_x p1) (own_x p2))), .second, .val (.double (FP.dmul (FP.l2d (own_f (own_x p1) (own_x p2))) (FP.l2d (own_s (own_x p1) (own_x p2))))), .second, .val (.ref b2)] [(.double (FP.l2d (own_x p1))), (.int (0 : Int32)), (.ref b2)])) target → Steps p.tables e below (T2.setTop (mkF m 121 #[.val (.int p1), .val (.int p2), .val (.long (own_x p1)), .second, .val (.long (own_x p2)), .second, .val (.long ((own_x p1) + (own_x p2))), .second, .val (.long (own_dd (own_x p1) (own_x p2))), .second, .val (.long (own_f (own_x p1) (own_x p2))), .second, .val (.long (own_s (own_x p1) (own_x p2))), .second, .val (.double (FP.dmul (FP.l2d (own_f (own_x p1) (own_x p2))) (FP.l2d (own_s (own_x p1) (own_x p2))))), .second, .unset] [(.ref b2)])) target := by
    intro target kt
    show Steps p.tables e below (T2.setTop (mkF m 121 #[.val (.int p1), .val (.int p2), .val (.long (own_x p1)), .second, .val (.long (own_x p2)), .second, .val (.long ((own_x p1) + (own_x p2))), .second, .val (.long (own_dd (own_x p1) (own_x p2))), .second, .val (.long (own_f (own_x p1) (own_x p2))), .second, .val (.long (own_s (own_x p1) (own_x p2))), .second, .val (.double (FP.dmul (FP.l2d (own_f (own_x p1) (own_x p2))) (FP.l2d (own_s (own_x p1) (own_x p2))))), .second, .unset] [(.ref b2)])) _
    refine XS.astore X2.here hx rfl (hb hby at_121) rfl rfl (l' := #[.val (.int p1), .val (.int p2), .val (.long (own_x p1)), .second, .val (.long (own_x p2)), .second, .val (.long ((own_x p1) + (own_x p2))), .second, .val (.long (own_dd (own_x p1) (own_x p2))), .second, .val (.long (own_f (own_x p1) (own_x p2))), .second, .val (.long (own_s (own_x p1) (own_x p2))), .second, .val (.double (FP.dmul (FP.l2d (own_f (own_x p1) (own_x p2))) (FP.l2d (own_s (own_x p1) (own_x p2))))), .second, .val (.ref b2)]) rfl ?_
    show Steps p.tables e below (T2.setTop (mkF m 123 #[.val (.int p1), .val (.int p2), .val (.long (own_x p1)), .second, .val (.long (own_x p2)), .second, .val (.long ((own_x p1) + (own_x p2))), .second, .val (.long (own_dd (own_x p1) (own_x p2))), .second, .val (.long (own_f (own_x p1) (own_x p2))), .second, .val (.long (own_s (own_x p1) (own_x p2))), .second, .val (.double (FP.dmul (FP.l2d (own_f (own_x p1) (own_x p2))) (FP.l2d (own_s (own_x p1) (own_x p2))))), .second, .val (.ref b2)] [])) _
    refine XS.aload X2.here hx rfl (hb hby at_123) rfl rfl ?_
    show Steps p.tables e below (T2.setTop (mkF m 125 #[.val (.int p1), .val (.int p2), .val (.long (own_x p1)), .second, .val (.long (own_x p2)), .second, .val (.long ((own_x p1) + (own_x p2))), .second, .val (.long (own_dd (own_x p1) (own_x p2))), .second, .val (.long (own_f (own_x p1) (own_x p2))), .second, .val (.long (own_s (own_x p1) (own_x p2))), .second, .val (.double (FP.dmul (FP.l2d (own_f (own_x p1) (own_x p2))) (FP.l2d (own_s (own_x p1) (own_x p2))))), .second, .val (.ref b2)] [(.ref b2)])) _
    refine XS.iconst X2.here hx rfl (hb hby at_125) ?_
    show Steps p.tables e below (T2.setTop (mkF m 126 #[.val (.int p1), .val (.int p2), .val (.long (own_x p1)), .second, .val (.long (own_x p2)), .second, .val (.long ((own_x p1) + (own_x p2))), .second, .val (.long (own_dd (own_x p1) (own_x p2))), .second, .val (.long (own_f (own_x p1) (own_x p2))), .second, .val (.long (own_s (own_x p1) (own_x p2))), .second, .val (.double (FP.dmul (FP.l2d (own_f (own_x p1) (own_x p2))) (FP.l2d (own_s (own_x p1) (own_x p2))))), .second, .val (.ref b2)] [(.int (0 : Int32)), (.ref b2)])) _
    refine XS.lloadN X2.here hx rfl (hb hby at_126) rfl ?_
    show Steps p.tables e below (T2.setTop (mkF m 127 #[.val (.int p1), .val (.int p2), .val (.long (own_x p1)), .second, .val (.long (own_x p2)), .second, .val (.long ((own_x p1) + (own_x p2))), .second, .val (.long (own_dd (own_x p1) (own_x p2))), .second, .val (.long (own_f (own_x p1) (own_x p2))), .second, .val (.long (own_s (own_x p1) (own_x p2))), .second, .val (.double (FP.dmul (FP.l2d (own_f (own_x p1) (own_x p2))) (FP.l2d (own_s (own_x p1) (own_x p2))))), .second, .val (.ref b2)] [(.long (own_x p1)), (.int (0 : Int32)), (.ref b2)])) _
    refine XS.l2dS X2.here hx rfl (v := (FP.l2d (own_x p1))) (hb hby at_127) rfl rfl ?_
    exact kt
  obtain ⟨cl5, Ar5, qc5, S5, M5, Hh5, G5⟩ := id f3
  have hin5 : ¬ ((0 : Int32) < 0 ∨ cl5.slots.size ≤ ((0 : Int32)).toNatClampNeg) := inb_of S5 ⟨by decide, by decide⟩
  obtain ⟨T6, h6, X6, e6, W6, st6⟩ := stD X2 hx hZ e2 Ar5 (j := (0 : Int32)) hin5 (g := (mkF m 128 #[.val (.int p1), .val (.int p2), .val (.long (own_x p1)), .second, .val (.long (own_x p2)), .second, .val (.long ((own_x p1) + (own_x p2))), .second, .val (.long (own_dd (own_x p1) (own_x p2))), .second, .val (.long (own_f (own_x p1) (own_x p2))), .second, .val (.long (own_s (own_x p1) (own_x p2))), .second, .val (.double (FP.dmul (FP.l2d (own_f (own_x p1) (own_x p2))) (FP.l2d (own_s (own_x p1) (own_x p2))))), .second, .val (.ref b2)] [(.double (FP.l2d (own_x p1))), (.int (0 : Int32)), (.ref b2)])) rfl rfl (hb hby at_128)
  have N6 := Fr.snoc X6 N0 g_b2
  have Zs6 : n0 ≤ h6.size := by rw [W6.size]; exact Zs2
  have f7 : Arv Z h6 b2 k2 .double (2 : Int32) [(.double (FP.l2d (own_x p1))), (.double (0 : UInt64))] (.double (0 : UInt64)) := Arv.set Ar5 qc5 S5 M5 Hh5 G5 rfl W6 0 rfl (Nat.le_of_ble_eq_true rfl)
  have sg8 : ∀ target, Steps p.tables e below (T6.setTop (mkF m 135 #[.val (.int p1), .val (.int p2), .val (.long (own_x p1)), .second, .val (.long (own_x p2)), .second, .val (.long ((own_x p1) + (own_x p2))), .second, .val (.long (own_dd (own_x p1) (own_x p2))), .second, .val (.long (own_f (own_x p1) (own_x p2))), .second, .val (.long (own_s (own_x p1) (own_x p2))), .second, .val (.double (FP.dmul (FP.l2d (own_f (own_x p1) (own_x p2))) (FP.l2d (own_s (own_x p1) (own_x p2))))), .second, .val (.ref b2)] [(.double (FP.l2d (own_x p2))), (.int (1 : Int32)), (.ref b2)])) target → Steps p.tables e below (T6.setTop (mkF m 129 #[.val (.int p1), .val (.int p2), .val (.long (own_x p1)), .second, .val (.long (own_x p2)), .second, .val (.long ((own_x p1) + (own_x p2))), .second, .val (.long (own_dd (own_x p1) (own_x p2))), .second, .val (.long (own_f (own_x p1) (own_x p2))), .second, .val (.long (own_s (own_x p1) (own_x p2))), .second, .val (.double (FP.dmul (FP.l2d (own_f (own_x p1) (own_x p2))) (FP.l2d (own_s (own_x p1) (own_x p2))))), .second, .val (.ref b2)] [])) target := by
    intro target kt
    show Steps p.tables e below (T6.setTop (mkF m 129 #[.val (.int p1), .val (.int p2), .val (.long (own_x p1)), .second, .val (.long (own_x p2)), .second, .val (.long ((own_x p1) + (own_x p2))), .second, .val (.long (own_dd (own_x p1) (own_x p2))), .second, .val (.long (own_f (own_x p1) (own_x p2))), .second, .val (.long (own_s (own_x p1) (own_x p2))), .second, .val (.double (FP.dmul (FP.l2d (own_f (own_x p1) (own_x p2))) (FP.l2d (own_s (own_x p1) (own_x p2))))), .second, .val (.ref b2)] [])) _
    refine XS.aload X6.here hx rfl (hb hby at_129) rfl rfl ?_
    show Steps p.tables e below (T6.setTop (mkF m 131 #[.val (.int p1), .val (.int p2), .val (.long (own_x p1)), .second, .val (.long (own_x p2)), .second, .val (.long ((own_x p1) + (own_x p2))), .second, .val (.long (own_dd (own_x p1) (own_x p2))), .second, .val (.long (own_f (own_x p1) (own_x p2))), .second, .val (.long (own_s (own_x p1) (own_x p2))), .second, .val (.double (FP.dmul (FP.l2d (own_f (own_x p1) (own_x p2))) (FP.l2d (own_s (own_x p1) (own_x p2))))), .second, .val (.ref b2)] [(.ref b2)])) _
    refine XS.iconst X6.here hx rfl (hb hby at_131) ?_
    show Steps p.tables e below (T6.setTop (mkF m 132 #[.val (.int p1), .val (.int p2), .val (.long (own_x p1)), .second, .val (.long (own_x p2)), .second, .val (.long ((own_x p1) + (own_x p2))), .second, .val (.long (own_dd (own_x p1) (own_x p2))), .second, .val (.long (own_f (own_x p1) (own_x p2))), .second, .val (.long (own_s (own_x p1) (own_x p2))), .second, .val (.double (FP.dmul (FP.l2d (own_f (own_x p1) (own_x p2))) (FP.l2d (own_s (own_x p1) (own_x p2))))), .second, .val (.ref b2)] [(.int (1 : Int32)), (.ref b2)])) _
    refine XS.lload X6.here hx rfl (hb hby at_132) rfl ?_
    show Steps p.tables e below (T6.setTop (mkF m 134 #[.val (.int p1), .val (.int p2), .val (.long (own_x p1)), .second, .val (.long (own_x p2)), .second, .val (.long ((own_x p1) + (own_x p2))), .second, .val (.long (own_dd (own_x p1) (own_x p2))), .second, .val (.long (own_f (own_x p1) (own_x p2))), .second, .val (.long (own_s (own_x p1) (own_x p2))), .second, .val (.double (FP.dmul (FP.l2d (own_f (own_x p1) (own_x p2))) (FP.l2d (own_s (own_x p1) (own_x p2))))), .second, .val (.ref b2)] [(.long (own_x p2)), (.int (1 : Int32)), (.ref b2)])) _
    refine XS.l2dS X6.here hx rfl (v := (FP.l2d (own_x p2))) (hb hby at_134) rfl rfl ?_
    exact kt
  obtain ⟨cl9, Ar9, qc9, S9, M9, Hh9, G9⟩ := id f7
  have hin9 : ¬ ((1 : Int32) < 0 ∨ cl9.slots.size ≤ ((1 : Int32)).toNatClampNeg) := inb_of S9 ⟨by decide, by decide⟩
  obtain ⟨T10, h10, X10, e10, W10, st10⟩ := stD X6 hx hZ e6 Ar9 (j := (1 : Int32)) hin9 (g := (mkF m 135 #[.val (.int p1), .val (.int p2), .val (.long (own_x p1)), .second, .val (.long (own_x p2)), .second, .val (.long ((own_x p1) + (own_x p2))), .second, .val (.long (own_dd (own_x p1) (own_x p2))), .second, .val (.long (own_f (own_x p1) (own_x p2))), .second, .val (.long (own_s (own_x p1) (own_x p2))), .second, .val (.double (FP.dmul (FP.l2d (own_f (own_x p1) (own_x p2))) (FP.l2d (own_s (own_x p1) (own_x p2))))), .second, .val (.ref b2)] [(.double (FP.l2d (own_x p2))), (.int (1 : Int32)), (.ref b2)])) rfl rfl (hb hby at_135)
  have N10 := Fr.snoc X10 N6 g_b2
  have Zs10 : n0 ≤ h10.size := by rw [W10.size]; exact Zs6
  have f11 : Arv Z h10 b2 k2 .double (2 : Int32) [(.double (FP.l2d (own_x p1))), (.double (FP.l2d (own_x p2)))] (.double (0 : UInt64)) := Arv.set Ar9 qc9 S9 M9 Hh9 G9 rfl W10 1 rfl (Nat.le_of_ble_eq_true rfl)
  have sg12 : ∀ target, Steps p.tables e below (T10.setTop (mkF m 138 #[.val (.int p1), .val (.int p2), .val (.long (own_x p1)), .second, .val (.long (own_x p2)), .second, .val (.long ((own_x p1) + (own_x p2))), .second, .val (.long (own_dd (own_x p1) (own_x p2))), .second, .val (.long (own_f (own_x p1) (own_x p2))), .second, .val (.long (own_s (own_x p1) (own_x p2))), .second, .val (.double (FP.dmul (FP.l2d (own_f (own_x p1) (own_x p2))) (FP.l2d (own_s (own_x p1) (own_x p2))))), .second, .val (.ref b2)] [(.ref b2)])) target → Steps p.tables e below (T10.setTop (mkF m 136 #[.val (.int p1), .val (.int p2), .val (.long (own_x p1)), .second, .val (.long (own_x p2)), .second, .val (.long ((own_x p1) + (own_x p2))), .second, .val (.long (own_dd (own_x p1) (own_x p2))), .second, .val (.long (own_f (own_x p1) (own_x p2))), .second, .val (.long (own_s (own_x p1) (own_x p2))), .second, .val (.double (FP.dmul (FP.l2d (own_f (own_x p1) (own_x p2))) (FP.l2d (own_s (own_x p1) (own_x p2))))), .second, .val (.ref b2)] [])) target := by
    intro target kt
    show Steps p.tables e below (T10.setTop (mkF m 136 #[.val (.int p1), .val (.int p2), .val (.long (own_x p1)), .second, .val (.long (own_x p2)), .second, .val (.long ((own_x p1) + (own_x p2))), .second, .val (.long (own_dd (own_x p1) (own_x p2))), .second, .val (.long (own_f (own_x p1) (own_x p2))), .second, .val (.long (own_s (own_x p1) (own_x p2))), .second, .val (.double (FP.dmul (FP.l2d (own_f (own_x p1) (own_x p2))) (FP.l2d (own_s (own_x p1) (own_x p2))))), .second, .val (.ref b2)] [])) _
    refine XS.aload X10.here hx rfl (hb hby at_136) rfl rfl ?_
    exact kt
  obtain ⟨_, _, ⟨T13, L13, k13, n13⟩, -, X13, ⟨Lc13, hQ13, l13, y13, z13⟩, st13⟩ := Jvm.LawKit.callS X10 hx (y := (⟨"com/example/realbreed/realbreed/problems/ClassicSuite", "goldsteinPrice", "([D)D"⟩ : MethodName)) hown (mvT hZ (hw _ (List.mem_of_getElem? (i := 8) rfl))) (mvT hZ (hw _ (List.mem_of_getElem? (i := 9) rfl))) (mvT hZ (hw _ (List.mem_of_getElem? (i := 10) rfl))) (mvT hZ (hw _ (List.mem_of_getElem? (i := 11) rfl))) (by decide) (backOf (W := 0) (rm1 l Z a0 hw [] b2 k2 (FP.l2d (own_x p1)) (FP.l2d (own_x p2)) ((own_x p1).toInt) ((own_x p2).toInt) h10 n0 Zs10 f11 (own_x_d p1) (own_x_d p2)) hZ (hw _ (List.mem_of_getElem? (i := 11) rfl)) (hw _ (List.mem_of_getElem? (i := 10) rfl)) (by decide) (by decide)) (g := (mkF m 138 #[.val (.int p1), .val (.int p2), .val (.long (own_x p1)), .second, .val (.long (own_x p2)), .second, .val (.long ((own_x p1) + (own_x p2))), .second, .val (.long (own_dd (own_x p1) (own_x p2))), .second, .val (.long (own_f (own_x p1) (own_x p2))), .second, .val (.long (own_s (own_x p1) (own_x p2))), .second, .val (.double (FP.dmul (FP.l2d (own_f (own_x p1) (own_x p2))) (FP.l2d (own_s (own_x p1) (own_x p2))))), .second, .val (.ref b2)] [(.ref b2)])) rfl (by rw [hml]; rfl) (argsL := [(.ref b2)]) (rest := []) (lenOf pd_1 rfl) rfl (by show 2 * 0 + _ ≤ _; exact Nat.le_of_eq rfl) (hb hby at_138) (fun _ _ => ⟨rfl, e10, (by decide : 1 + 0 ≤ _), (by decide : 2 + 0 ≤ _)⟩)
  dsimp only [Pt.U, Pt.locs, Pt.cells, Pt.slots] at X13 l13 y13 z13 st13 hQ13
  subst l13 y13 z13
  obtain ⟨rfl, N13q, c13_0⟩ := hQ13
  have N13 := Fr.app N10 N13q
  have sg14 : ∀ target, Steps p.tables e below (T13.setTop (mkF m 152 #[.val (.int p1), .val (.int p2), .val (.long (own_x p1)), .second, .val (.long (own_x p2)), .second, .val (.long ((own_x p1) + (own_x p2))), .second, .val (.long (own_dd (own_x p1) (own_x p2))), .second, .val (.long (own_f (own_x p1) (own_x p2))), .second, .val (.long (own_s (own_x p1) (own_x p2))), .second, .val (.double (FP.dmul (FP.l2d (own_f (own_x p1) (own_x p2))) (FP.l2d (own_s (own_x p1) (own_x p2))))), .second, .val (.ref b2)] [(.int (1 : Int32))])) target → Steps p.tables e below (T13.setTop (mkF m 141 #[.val (.int p1), .val (.int p2), .val (.long (own_x p1)), .second, .val (.long (own_x p2)), .second, .val (.long ((own_x p1) + (own_x p2))), .second, .val (.long (own_dd (own_x p1) (own_x p2))), .second, .val (.long (own_f (own_x p1) (own_x p2))), .second, .val (.long (own_s (own_x p1) (own_x p2))), .second, .val (.double (FP.dmul (FP.l2d (own_f (own_x p1) (own_x p2))) (FP.l2d (own_s (own_x p1) (own_x p2))))), .second, .val (.ref b2)] [(.double (own_g38 (FP.l2d (own_x p1)) (FP.l2d (own_x p2))))])) target := by
    intro target kt
    show Steps p.tables e below (T13.setTop (mkF m 141 #[.val (.int p1), .val (.int p2), .val (.long (own_x p1)), .second, .val (.long (own_x p2)), .second, .val (.long ((own_x p1) + (own_x p2))), .second, .val (.long (own_dd (own_x p1) (own_x p2))), .second, .val (.long (own_f (own_x p1) (own_x p2))), .second, .val (.long (own_s (own_x p1) (own_x p2))), .second, .val (.double (FP.dmul (FP.l2d (own_f (own_x p1) (own_x p2))) (FP.l2d (own_s (own_x p1) (own_x p2))))), .second, .val (.ref b2)] [(.double (own_g38 (FP.l2d (own_x p1)) (FP.l2d (own_x p2))))])) _
    refine XS.dload X13.here hx rfl (hb hby at_141) rfl ?_
    show Steps p.tables e below (T13.setTop (mkF m 143 #[.val (.int p1), .val (.int p2), .val (.long (own_x p1)), .second, .val (.long (own_x p2)), .second, .val (.long ((own_x p1) + (own_x p2))), .second, .val (.long (own_dd (own_x p1) (own_x p2))), .second, .val (.long (own_f (own_x p1) (own_x p2))), .second, .val (.long (own_s (own_x p1) (own_x p2))), .second, .val (.double (FP.dmul (FP.l2d (own_f (own_x p1) (own_x p2))) (FP.l2d (own_s (own_x p1) (own_x p2))))), .second, .val (.ref b2)] [(.double (FP.dmul (FP.l2d (own_f (own_x p1) (own_x p2))) (FP.l2d (own_s (own_x p1) (own_x p2))))), (.double (own_g38 (FP.l2d (own_x p1)) (FP.l2d (own_x p2))))])) _
    refine XS.dcmpS X13.here hx rfl (v := (0 : Int32)) (hb hby at_143) rfl (by rw [own_law (own_x p1) (own_x p2) (own_x_b p1) (own_x_b p2) (own_x_d p1) (own_x_d p2)]; exact dcmpV_self (Jvm.Free.Fl.dmul_out (Jvm.Free.Fl.l2d_fin _) (Jvm.Free.Fl.l2d_fin _)) .l) ?_
    show Steps p.tables e below (T13.setTop (mkF m 144 #[.val (.int p1), .val (.int p2), .val (.long (own_x p1)), .second, .val (.long (own_x p2)), .second, .val (.long ((own_x p1) + (own_x p2))), .second, .val (.long (own_dd (own_x p1) (own_x p2))), .second, .val (.long (own_f (own_x p1) (own_x p2))), .second, .val (.long (own_s (own_x p1) (own_x p2))), .second, .val (.double (FP.dmul (FP.l2d (own_f (own_x p1) (own_x p2))) (FP.l2d (own_s (own_x p1) (own_x p2))))), .second, .val (.ref b2)] [(.int (0 : Int32))])) _
    refine XS.ifNo X13.here hx rfl (hb hby at_144) rfl ((if0 _ _).trans (teq (by decide : (0 : Int32) = (0 : Int32))).2) ?_
    show Steps p.tables e below (T13.setTop (mkF m 147 #[.val (.int p1), .val (.int p2), .val (.long (own_x p1)), .second, .val (.long (own_x p2)), .second, .val (.long ((own_x p1) + (own_x p2))), .second, .val (.long (own_dd (own_x p1) (own_x p2))), .second, .val (.long (own_f (own_x p1) (own_x p2))), .second, .val (.long (own_s (own_x p1) (own_x p2))), .second, .val (.double (FP.dmul (FP.l2d (own_f (own_x p1) (own_x p2))) (FP.l2d (own_s (own_x p1) (own_x p2))))), .second, .val (.ref b2)] [])) _
    refine XS.iconst X13.here hx rfl (hb hby at_147) ?_
    show Steps p.tables e below (T13.setTop (mkF m 148 #[.val (.int p1), .val (.int p2), .val (.long (own_x p1)), .second, .val (.long (own_x p2)), .second, .val (.long ((own_x p1) + (own_x p2))), .second, .val (.long (own_dd (own_x p1) (own_x p2))), .second, .val (.long (own_f (own_x p1) (own_x p2))), .second, .val (.long (own_s (own_x p1) (own_x p2))), .second, .val (.double (FP.dmul (FP.l2d (own_f (own_x p1) (own_x p2))) (FP.l2d (own_s (own_x p1) (own_x p2))))), .second, .val (.ref b2)] [(.int (1 : Int32))])) _
    refine XS.goto X13.here hx rfl (pc0 := 148) (pc' := 152) rfl (hb hby at_148) (by decide) (by decide) ?_
    exact kt
  obtain ⟨fs, hr, hrun, hended, hW, hsame⟩ := X13.leave (v := some (.int (1 : Int32))) (fun h => by rw [Bd.returns] at h; cases h)
  refine ⟨_, _, pre0 _ ?_, hrun, hended, _, _, rfl, ?_, ⟨_, rfl⟩, hW, hsame.mono (by decide) (by decide)⟩
  · show Steps p.tables e below (s₁.setTop (mkF m 0 #[.val (.int p1), .val (.int p2), .unset, .unset, .unset, .unset, .unset, .unset, .unset, .unset, .unset, .unset, .unset, .unset, .unset, .unset, .unset] [])) _
    refine sg1 _ ?_
    refine st2 _ ?_
    refine sg4 _ ?_
    refine st6 _ ?_
    refine sg8 _ ?_
    refine st10 _ ?_
    refine sg12 _ ?_
    refine st13 _ ?_
    refine sg14 _ ?_
    show Steps p.tables e below (T13.setTop (mkF m 152 #[.val (.int p1), .val (.int p2), .val (.long (own_x p1)), .second, .val (.long (own_x p2)), .second, .val (.long ((own_x p1) + (own_x p2))), .second, .val (.long (own_dd (own_x p1) (own_x p2))), .second, .val (.long (own_f (own_x p1) (own_x p2))), .second, .val (.long (own_s (own_x p1) (own_x p2))), .second, .val (.double (FP.dmul (FP.l2d (own_f (own_x p1) (own_x p2))) (FP.l2d (own_s (own_x p1) (own_x p2))))), .second, .val (.ref b2)] [(.int (1 : Int32))])) _
    exact retN X13 hx (t := .boolean) Bd.returns (by simp) (hb hby at_152) hr
  · show Q_rm0 Z p1 p2 h0 n0 _ T13.heap _
    rw [c13_0]
    exact ⟨rfl, N13⟩
set_option maxRecDepth 65536 in
set_option maxHeartbeats 40000000 in
theorem comes_1 {Post : Tables → Env → Array Value → State → Outcome → State → Prop} (hpost : ∀ tb e args s v u, (limb_1_1.after args s (.returned v) u = true ∧ limb_1_2.after args s (.returned v) u = true ∧ True) → FrameEnd s (.returned v) u (Jvm.fieldLocs frame_1_writes args s ++ Jvm.arrayLocs frame_1_arrays args s ++ Jvm.staticLocs frame_1_statics s) 16 128 → Post tb e args s (.returned v) u) :
    ArmFor flags0 classFile x code maxLocals ret World_1 tables_1 room_1 Calls_1 rest_1 Pre_1 Post := by
  intro l hfl _ _ p e ha hc hk s m args below hf hA hF happ hP
  obtain ⟨hcalls, hrest, hpre⟩ := hP
  obtain ⟨-, -, -, hnamed, -, -, -, hat⟩ := (Spec.applies_iff hf).mp happ
  obtain ⟨hg, hn⟩ := and_e (Cond.before_iff.mp (show (Jvm.Cond.and given_1 narrow_1).before args s = true from hpre))
  obtain ⟨g1, g2⟩ := and_e hg
  obtain ⟨g3, g4⟩ := and_e g2
  obtain ⟨w0, w1, rfl⟩ : ∃ w0 w1 : Value, args = #[w0, w1] := by
    have hs : args.size = 2 := by simpa [Cond.value, given_1] using g1
    obtain ⟨L⟩ := args
    match L, hs with
    | [w0, w1], _ => exact ⟨w0, w1, rfl⟩
  have hw := fun d (hd : d ∈ tables_1) => atoms_spec (ws := Jvm.Cond.code x code maxLocals ret :: tables_1) hat d (List.mem_cons_of_mem _ hd)
  have hfit : Fit s := fun {y c} hc i hi => by
    obtain ⟨ha, rfl⟩ := Array.getElem?_eq_some_iff.mp hc
    have q := List.all_eq_true.mp ((Array.all_eq_true_iff_forall_mem.mp hF) _ (Array.getElem_mem ha)) i (List.mem_range.mpr hi)
    simpa [Array.getElem?_eq_getElem hi] using q
  obtain ⟨i0, ei0⟩ := is_v g3
  obtain rfl : w0 = (.int i0) := Option.some.inj ei0
  obtain ⟨i1, ei1⟩ := is_v g4
  obtain rfl : w1 = (.int i1) := Option.some.inj ei1
  obtain ⟨n, o, h1, h2, h3, _, L, rfl, ⟨rfl, N⟩, hq⟩ := rm0 l s _ hw tables_1 i0 i1 s.heap s.heap.size (Nat.le_refl _)  p e ha hc hk s m _ below hf ((Spec.applies_iff_loose hf).mp happ).1 ⟨rfl, State.Warmed39.refl s, rfl⟩ trivial
  refine ⟨n, _, h1, h2, h3, hpost _ _ _ _ _ _ ⟨Cond.after_iff.mpr rfl, Cond.after_iff.mpr (eq_i res_at (Term.int_eval (1)) rfl), trivial⟩ ⟨hq.1, hq.2.1, (hq.2.2.sift fun y hy => Or.inr (N y hy)).mono (by decide) (by decide)⟩⟩
theorem main_1_1 : Claimed_1_1 := comes_1 fun _ _ _ _ _ _ h hF => ⟨h.1, hF⟩
theorem main_1_2 : Claimed_1_2 := comes_1 fun _ _ _ _ _ _ h hF => ⟨h.2.1, hF⟩
end Jvm.Pilot.@@N@@
namespace Jvm.Pilot.@@N@@
open Jvm Jvm.ClassFile Sem Op Lib Jvm.Free Jvm.Stand Jvm.Pilot.@@N@@.Jvm.D
/-! MADE BY PROGRAM (witnessworld.py) out of the Statement's table words and the real class files: 11 classes; the members and pool entries that the words name. The judged class is class 1, her method 1. -/
namespace start1
open Jvm.ClassFile
def u (s : String) : CpInfo := .utf8 (stringToUtf16 s)
/-- a pool by its gaps: so many unusable entries, then the entry; so many at the end -/
def gap : Nat → List CpInfo → List CpInfo
  | 0, r => r
  | n + 1, r => .unusable :: gap n r
def poolList (es : List (Nat × CpInfo)) (last : Nat) : List CpInfo := es.foldr (fun e r => gap e.1 (e.2 :: r)) (gap last [])
def pool (es : List (Nat × CpInfo)) (last : Nat) : Array CpInfo := ⟨poolList es last⟩
def fileOf (pool : Array CpInfo) (this : Nat) (attrs : Array Attribute := #[]) (ms : Array MethodInfo := #[]) (fl : Nat := 33) (sup : Nat := 0) (ifs : Array Nat := #[]) (fds : Array FieldInfo := #[]) : ClassFile where
  minorVersion := 0
  majorVersion := 65
  constantPool := pool
  accessFlags := fl
  thisClass := this
  superClass := sup
  interfaces := ifs
  fields := fds
  methods := ms
  attributes := attrs
def plain (name : String) (sup : Option ClassId) : Class where
  name := name
  kind := .ordinary
  loader := none
  accessFlags := 33
  super := sup
  interfaces := #[]
  cf := none
  fields := #[]
  methods := #[]
  instanceTypes := #[]
  staticTypes := #[]
  resolved := #[]
  callSites := []
  init := .initialized
  statics := none
  mirror := none

def pool0 : Array CpInfo := pool [(5, u "<init>"), (0, u "()V"), (1, .class_ 10), (1, u "java/lang/Object")] 113

def k0m0 : Method := { name := "<init>", desc := "()V", sig := { parameters := [], returnType := none }, accessFlags := 1, code := none }
/-- java/lang/Object -/
def k0 : Class := { plain "java/lang/Object" none with
  accessFlags := 33
  interfaces := #[]
  cf := some (fileOf pool0 8 #[] #[{ accessFlags := 1, nameIndex := 5, descriptorIndex := 6, attributes := #[] }] 33 0 #[] #[])
  fields := #[]
  methods := #[k0m0]
  instanceTypes := #[]
  staticTypes := #[]
  resolved := Array.replicate 124 none
  statics := none }

def pool1 : Array CpInfo := pool [(2, .class_ 4), (1, u "java/lang/Object"), (0, u "<init>"), (0, u "()V"), (0, .long 2), (1, .long 3), (1, .long 14), (1, .long 19), (1, .long 30), (1, .long 16), (1, .long 18), (1, .methodref 22 23), (0, .class_ 24), (0, .nameAndType 25 26), (0, u "com/example/realbreed/realbreed/problems/ClassicSuite"), (0, u "goldsteinPrice"), (0, u "([D)D"), (0, .class_ 28), (0, u "com/example/realbreed/realbreed/problems/ClassicSuiteGoldsteinPricePinLaw"), (2, u "law"), (0, u "(II)Z")] 5

def k1m0 : Method := { name := "<init>", desc := "()V", sig := { parameters := [], returnType := none }, accessFlags := 1, code := none }
def k1c1 : Code := { maxStack := 10, maxLocals := 17, code := code, exceptionTable := #[], attributes := #[] }
def k1m1 : Method := { name := "law", desc := "(II)Z", sig := { parameters := [.int, .int], returnType := some .boolean }, accessFlags := 9, code := some k1c1 }
/-- com/example/realbreed/realbreed/problems/ClassicSuiteGoldsteinPricePinLaw -/
def k1 : Class := { plain "com/example/realbreed/realbreed/problems/ClassicSuiteGoldsteinPricePinLaw" (some 0) with
  accessFlags := 49
  interfaces := #[]
  cf := some (fileOf pool1 27 #[] #[{ accessFlags := 1, nameIndex := 5, descriptorIndex := 6, attributes := #[] }, { accessFlags := 9, nameIndex := 31, descriptorIndex := 32, attributes := #[] }] 49 2 #[] #[])
  fields := #[]
  methods := #[k1m0, k1m1]
  instanceTypes := #[]
  staticTypes := #[]
  resolved := Array.replicate 38 none
  statics := none }

def pool2 : Array CpInfo := pool [(2, .class_ 4), (1, u "java/lang/Object"), (0, u "<init>"), (0, u "()V"), (52, .class_ 61), (1, u "com/example/realbreed/realbreed/problems/ClassicSuite"), (15, u "FOXHOLES_A"), (0, u "[[D"), (5, u "KOWALIK_A"), (0, u "[D"), (2, u "KOWALIK_INVERSE_B"), (2, .double 4613937818241073152), (5, .double 4618441417868443648), (3, .double 4611686018427387904), (1, .double 4626041242239631360), (1, .double 4624070917402656768), (1, .double 4629137466983448576), (1, .double 4625759767262920704), (1, .double 4629700416936869888), (1, .double 4622945017495814144), (1, .double 4631952216750555136), (1, .double 4630263366890291200), (1, .double 4628293042053316608), (3, u "HARTMAN_3_A"), (2, u "HARTMAN_3_P"), (6, u "HARTMAN_6_A"), (2, u "HARTMAN_6_P"), (2, u "HARTMAN_C"), (2, u "SHEKEL_A"), (2, u "SHEKEL_C"), (137, u "([D)D"), (18, u "goldsteinPrice")] 7

def k2m0 : Method := { name := "<init>", desc := "()V", sig := { parameters := [], returnType := none }, accessFlags := 2, code := none }
def k2c1 : Code := { maxStack := 10, maxLocals := 13, code := prog_32_method_19_code, exceptionTable := #[], attributes := #[] }
def k2m1 : Method := { name := "goldsteinPrice", desc := "([D)D", sig := { parameters := [(.array .double)], returnType := some .double }, accessFlags := 8, code := some k2c1 }
/-- com/example/realbreed/realbreed/problems/ClassicSuite -/
def k2 : Class := { plain "com/example/realbreed/realbreed/problems/ClassicSuite" (some 0) with
  accessFlags := 48
  interfaces := #[]
  cf := some (fileOf pool2 59 #[] #[{ accessFlags := 2, nameIndex := 5, descriptorIndex := 6, attributes := #[] }, { accessFlags := 8, nameIndex := 302, descriptorIndex := 283, attributes := #[] }] 48 2 #[] #[{ accessFlags := 24, nameIndex := 77, descriptorIndex := 78, attributes := #[] }, { accessFlags := 24, nameIndex := 84, descriptorIndex := 85, attributes := #[] }, { accessFlags := 24, nameIndex := 88, descriptorIndex := 85, attributes := #[] }, { accessFlags := 24, nameIndex := 123, descriptorIndex := 78, attributes := #[] }, { accessFlags := 24, nameIndex := 139, descriptorIndex := 85, attributes := #[] }, { accessFlags := 24, nameIndex := 126, descriptorIndex := 78, attributes := #[] }, { accessFlags := 24, nameIndex := 133, descriptorIndex := 78, attributes := #[] }, { accessFlags := 24, nameIndex := 136, descriptorIndex := 78, attributes := #[] }, { accessFlags := 24, nameIndex := 142, descriptorIndex := 78, attributes := #[] }, { accessFlags := 24, nameIndex := 145, descriptorIndex := 85, attributes := #[] }])
  fields := #[{ name := "FOXHOLES_A", type := (.array (.array .double)), accessFlags := 24, slot := 0, constantValue := 0 }, { name := "KOWALIK_A", type := (.array .double), accessFlags := 24, slot := 1, constantValue := 0 }, { name := "KOWALIK_INVERSE_B", type := (.array .double), accessFlags := 24, slot := 2, constantValue := 0 }, { name := "HARTMAN_3_A", type := (.array (.array .double)), accessFlags := 24, slot := 3, constantValue := 0 }, { name := "HARTMAN_C", type := (.array .double), accessFlags := 24, slot := 4, constantValue := 0 }, { name := "HARTMAN_3_P", type := (.array (.array .double)), accessFlags := 24, slot := 5, constantValue := 0 }, { name := "HARTMAN_6_A", type := (.array (.array .double)), accessFlags := 24, slot := 6, constantValue := 0 }, { name := "HARTMAN_6_P", type := (.array (.array .double)), accessFlags := 24, slot := 7, constantValue := 0 }, { name := "SHEKEL_A", type := (.array (.array .double)), accessFlags := 24, slot := 8, constantValue := 0 }, { name := "SHEKEL_C", type := (.array .double), accessFlags := 24, slot := 9, constantValue := 0 }]
  methods := #[k2m0, k2m1]
  instanceTypes := #[]
  staticTypes := #[(.array (.array .double)), (.array .double), (.array .double), (.array (.array .double)), (.array .double), (.array (.array .double)), (.array (.array .double)), (.array (.array .double)), (.array (.array .double)), (.array .double)]
  resolved := Array.replicate 310 none
  statics := none }

def pool3 : Array CpInfo := pool [(1, u "java/lang/Cloneable"), (0, .class_ 1), (0, u "java/lang/Object"), (0, .class_ 3)] 3

/-- java/lang/Cloneable -/
def k3 : Class := { plain "java/lang/Cloneable" (some 0) with
  accessFlags := 1537
  interfaces := #[]
  cf := some (fileOf pool3 2 #[] #[] 1537 4 #[] #[])
  fields := #[]
  methods := #[]
  instanceTypes := #[]
  staticTypes := #[]
  resolved := Array.replicate 8 none
  statics := none }

def pool4 : Array CpInfo := pool [(1, u "java/io/Serializable"), (0, .class_ 1), (0, u "java/lang/Object"), (0, .class_ 3)] 3

/-- java/io/Serializable -/
def k4 : Class := { plain "java/io/Serializable" (some 0) with
  accessFlags := 1537
  interfaces := #[]
  cf := some (fileOf pool4 2 #[] #[] 1537 4 #[] #[])
  fields := #[]
  methods := #[]
  instanceTypes := #[]
  staticTypes := #[]
  resolved := Array.replicate 8 none
  statics := none }

/-- the primitive byte -/
def k5 : Class := { plain "byte" none with kind := .primitive 'B', accessFlags := 0x411 }
/-- [B -/
def k6 : Class := { plain "[B" (some 0) with kind := .array 5 .byte, interfaces := #[3, 4], accessFlags := 1041 }

/-- the primitive double -/
def k7 : Class := { plain "double" none with kind := .primitive 'D', accessFlags := 0x411 }
/-- [D -/
def k8 : Class := { plain "[D" (some 0) with kind := .array 7 .double, interfaces := #[3, 4], accessFlags := 1041 }

/-- the primitive int -/
def k9 : Class := { plain "int" none with kind := .primitive 'I', accessFlags := 0x411 }
/-- [I -/
def k10 : Class := { plain "[I" (some 0) with kind := .array 9 .int, interfaces := #[3, 4], accessFlags := 1041 }

def heap : Heap := #[]
def classes : Array Class := #[k0, k1, k2, k3, k4, k5, k6, k7, k8, k9, k10]
def interned : List (Array UInt16 × Addr) := []
def slotsUsed : Nat := 0
def theMethod : MethodId := ⟨1, 1⟩
def args0 : Array Value := #[.int 5, .int 5]
def aboutOver (below : List Frame) : State where
  vm := { classes := classes, interned := interned.toArray }
  heap := heap
  slotsUsed := slotsUsed
  threads := #[{ frames := .invoking theMethod args0 :: below }]
def below0 : List Frame := [.native { method := ⟨0, 0⟩, args := #[] }]
def about1 : State := aboutOver below0
def p0 : Program := .bare "" "" ""
def e0 : Env := launch0.env 0 0 0
theorem w_frames : about1.frames = Frame.invoking theMethod args0 :: below0 := rfl
set_option maxRecDepth 65536 in
theorem w_args : argsFit about1.vm theMethod args0 = true := by decide +kernel
set_option maxRecDepth 65536 in
theorem w_heap : heapFits about1 = true := by decide +kernel
set_option maxRecDepth 65536 in
theorem w_runnable : about1.curStatus? = some .runnable := by decide +kernel
set_option maxRecDepth 65536 in
theorem w_alone : about1.alone = true := by decide +kernel
set_option maxRecDepth 65536 in
theorem w_named : about1.methodNamed? x = some theMethod := by decide +kernel
set_option maxRecDepth 65536 in
theorem w_hears : about1.hears theMethod below0 = true := by decide +kernel
set_option maxRecDepth 65536 in
theorem w_ripe : about1.ripe theMethod args0 below0 = true := by decide +kernel
theorem w_running : about1.status = .running := rfl
set_option maxRecDepth 65536 in
theorem w_room : about1.hasRoom e0.platform room_1 = true :=
  launch0.hasRoom_least _ room_1 (by decide +kernel) (by decide +kernel) (by decide +kernel) (by decide +kernel) (by decide +kernel) (by decide +kernel)
theorem allAtoms_all (ts : List Jvm.Cond) (a : Array Jvm.Value) (st : Jvm.State) : (allAtoms ts).before a st = ts.all (fun c => c.before a st) := by
  induction ts with
  | nil => rfl
  | cons c t ih =>
    show (Jvm.Cond.and c (allAtoms t)).before a st = _
    rw [Jvm.Cond.before_and, ih, List.all_cons]
def words1 : List Jvm.Cond := Jvm.Cond.code x code maxLocals ret :: tables_1
/-- a 'code' word, met by the world's own term for the bytes: nothing is compared byte by byte -/
theorem code_word {y : MethodName} {bytes : ByteArray} {mx : Nat} {rt : Option FieldType} {a : Array Value} {s : State} {m : MethodId} {meth : Method} {c : Code} (h1 : s.methodNamed? y = some m) (h2 : s.vm.method? m = some meth) (h3 : meth.code = some c) (h4 : c.code = bytes)
    (h5 : (c.maxLocals == mx && c.exceptionTable.isEmpty && decide (c.maxStack ≤ mostOperands) && decide (meth.sig.returnType = rt) && !meth.locks && decide (parseMethodDescriptor y.desc = some meth.sig)) = true) : (Jvm.Cond.code y bytes mx rt).before a s = true := by
  simp only [Bool.and_eq_true, beq_iff_eq, Bool.not_eq_true', decide_eq_true_eq] at h5
  obtain ⟨⟨⟨⟨⟨g1, g2⟩, g3⟩, g4⟩, g5⟩, g6⟩ := h5
  simp [Cond.before, Cond.holds, Cond.value, h1, h2, h3, h4, g1, g2, g3, g4, g5, g6]
def isCode : Jvm.Cond → Bool
  | .code _ _ _ _ => true
  | _ => false
theorem all_split {L : List Jvm.Cond} {P : Jvm.Cond → Bool} (h1 : L.all (fun c => isCode c || P c) = true) (h2 : ∀ c ∈ L.filter isCode, P c = true) : L.all P = true := by
  refine List.all_eq_true.mpr fun c hc => ?_
  have h := List.all_eq_true.mp h1 c hc
  rcases Bool.eq_false_or_eq_true (isCode c) with hi | hi
  · exact h2 c (List.mem_filter.mpr ⟨hc, hi⟩)
  · simpa [hi] using h
set_option maxRecDepth 65536 in
theorem w_c0 : (Jvm.Cond.code x code maxLocals ret).before args0 about1 = true := code_word (m := ⟨1, 1⟩) (meth := k1m1) (c := k1c1) (by decide +kernel) rfl rfl rfl (by decide +kernel)
set_option maxRecDepth 65536 in
theorem w_c1 : (Jvm.Cond.code ({ cls := "com/example/realbreed/realbreed/problems/ClassicSuite", name := "goldsteinPrice", desc := "([D)D" } : Jvm.MethodName) prog_32_method_19_code (13 : Nat) (Option.some Jvm.ClassFile.FieldType.double)).before args0 about1 = true := code_word (m := ⟨2, 1⟩) (meth := k2m1) (c := k2c1) (by decide +kernel) rfl rfl rfl (by decide +kernel)
def codes1 : List Jvm.Cond := [Jvm.Cond.code x code maxLocals ret, Jvm.Cond.code ({ cls := "com/example/realbreed/realbreed/problems/ClassicSuite", name := "goldsteinPrice", desc := "([D)D" } : Jvm.MethodName) prog_32_method_19_code (13 : Nat) (Option.some Jvm.ClassFile.FieldType.double)]
set_option maxRecDepth 65536 in
theorem codes_eq : words1.filter isCode = codes1 := rfl
theorem w_codes : ∀ c ∈ words1.filter isCode, c.before args0 about1 = true := by
  rw [codes_eq]
  intro c hc
  simp only [codes1, List.mem_cons, List.not_mem_nil, or_false] at hc
  rcases hc with rfl | rfl
  · exact w_c0
  · exact w_c1
set_option maxRecDepth 65536 in
theorem w_t1 : (words1.take 24).all (fun c => isCode c || c.before args0 about1) = true := by decide +kernel
set_option maxRecDepth 65536 in
theorem w_t2 : (words1.drop 24).all (fun c => isCode c || c.before args0 about1) = true := by decide +kernel
theorem w_tables : (allAtoms (Jvm.Cond.code x code maxLocals ret :: tables_1)).before args0 about1 = true := by
  rw [allAtoms_all]
  show words1.all (fun c => c.before args0 about1) = true
  refine all_split ?_ w_codes
  rw [← List.take_append_drop 24 words1, List.all_append, w_t1, w_t2]
  rfl
set_option maxRecDepth 65536 in
theorem w_case : (Jvm.Cond.and given_1 narrow_1).before args0 about1 = true := by decide +kernel
theorem w_applies : (headSpec (Jvm.Cond.code x code maxLocals ret :: tables_1) room_1).applies x e0.platform about1 = true :=
  (Spec.applies_iff w_frames).mpr ⟨w_running, w_runnable, w_alone, w_named, w_hears, w_ripe, w_room, w_tables⟩
theorem atStart : AtStart classFile x code maxLocals ret World_1 tables_1 room_1 Calls_1 rest_1 Pre_1 launch0 p0 e0 about1 theMethod args0 below0 :=
  ⟨lists_1, trivial, launch0.admits_env _ _ _, launch0.least_env, fairChoices_fair.cas, fairChoices_fair.clock, w_frames, w_args, w_heap, w_applies, trivial, trivial, w_case⟩
end start1
theorem witness_1 : WitnessClaimed_1 := ⟨start1.p0, start1.e0, start1.about1, start1.theMethod, start1.args0, start1.below0, start1.atStart⟩
end Jvm.Pilot.@@N@@
