import JvmDerived
import JvmDerived.Pilot.@@N@@Statement
import JvmDerived.Pilot.@@N@@Code
set_option linter.unusedVariables false
set_option linter.unusedSimpArgs false
namespace Jvm.RoadKit
open Sem ClassFile Op Lib Jvm.Stand Jvm.Free Jvm.LawKit
section New
variable {p : Program} {l : Launch} {e : Env} {R : Room} {s : State} {m : MethodId} {args : Array Value} {below : List Frame} {meth : Method} {c : Code} {T : State} {locs : List Loc} {cells slots : Nat}
theorem retI (X : Stand p l e R s m args below meth c T locs cells slots) (hx : p.tables.exec = Jvm.exec) {pc : Nat} {Ls : Array Slot} {z : Int32} {rest : List Value} (hret : meth.sig.returnType = some .int) (hd : decode c.code pc = .ok (.ireturn, 1)) {fs : List Frame}
    (hl : ∀ (f : JFrame) (acts : List Action), f.method = m → f.locked = none → f.entered = [] → (doReturn e (T.setTop f) acts (some (.int z))).1 = T.setFrames fs) : Steps p.tables e below (T.setTop (mkF m pc Ls (.int z :: rest))) (T.setFrames fs) := by
  have hm' : T.vm.method? m = some meth := X.method'
  have hn : narrow .int (.int z) = .int z := rfl
  show Steps p.tables e below (T.setTop { method := m, pc := pc, locals := Ls, stack := _ :: rest, locked := none }) _
  jvm_step X.here [X.here.top, hx, hd, hm', hret, hn]
  first | (intro acts; rw [hl _ acts rfl rfl rfl]) | rw [hl _ _ rfl rfl rfl]
  exact Steps.refl _
end New
end Jvm.RoadKit
namespace Jvm.Pilot.@@N@@
open Jvm Jvm.ClassFile Sem Op Lib Jvm.Free Jvm.Stand Jvm.LawKit Jvm.RoadKit Bundle Jvm.Pilot.@@N@@.Jvm.D
theorem own_wS {Z : State} {a0 : Array Value} (hw : ∀ d ∈ tables_1, d.before a0 Z = true) : ∀ a ∈ Bundle.stringAtoms, a.before a0 Z = true := by
  intro a ha
  simp only [Bundle.stringAtoms, List.mem_cons, List.not_mem_nil, or_false] at ha
  rcases ha with rfl | rfl | rfl | rfl | rfl | rfl | rfl
  · exact (hw _ (List.mem_of_getElem? (i := 4) rfl))
  · exact (hw _ (List.mem_of_getElem? (i := 5) rfl))
  · exact (hw _ (List.mem_of_getElem? (i := 6) rfl))
  · exact (hw _ (List.mem_of_getElem? (i := 7) rfl))
  · exact (hw _ (List.mem_of_getElem? (i := 8) rfl))
  · exact (hw _ (List.mem_of_getElem? (i := 9) rfl))
  · exact (hw _ (List.mem_of_getElem? (i := 10) rfl))
theorem own_selp {y : MethodName} {s : State} {args : Array Value} {n : Nat} (hy : y.cls ≠ "java/lang/invoke/MethodHandle" ∧ y.cls ≠ "java/lang/invoke/VarHandle") (hins : (Jvm.Cond.instantiable y.cls n).before args s = true) (hpriv : (Jvm.Cond.privateMethod y).before args s = true) (hinst : (Jvm.Cond.instanceMethod y).before args s = true) : (Jvm.Cond.selects y.cls y y).before args s = true := by
  obtain ⟨c, k, hc, hk, -, hniab, -, -⟩ := Cond.instantiable_spec hins
  exact selects_self_of_private hc hk (Bool.or_eq_false_iff.mp hniab).1 (Cond.privateMethod_at hpriv) hinst hy
theorem d5_0 : decode jdk_22_method_1_code 0 = .ok (.aload_n 0, 1) := by decide +kernel
theorem d5_1 : decode jdk_22_method_1_code 1 = .ok (.invokespecial 1, 3) := by decide +kernel
theorem d5_4 : decode jdk_22_method_1_code 4 = .ok (.return_, 1) := by decide +kernel
theorem pn_5 : plainName "java/util/AbstractCollection" = true := by first | (simp [plainName, overriddenIn]; done) | decide +kernel
theorem ef_rm5 (m : MethodId) (x0 : Addr) : entryFrame m #[(.ref x0)] 1 = mkF m 0 #[.val (.ref x0)] [] := by first | (simp [entryFrame, mkF, argsToLocals, Value.category]; done) | rfl
def Q_rm5 (Z : State) (a : Addr) (h0 : Heap) (n0 : Nat) (rv : Option Value) (h : Heap) (L : List Loc) : Prop := rv = none ∧ Fr n0 L ∧ h = h0
set_option maxRecDepth 65536 in
set_option maxHeartbeats 40000000 in
theorem rm5 (l : Launch) (Z : State) (a0 : Array Value) (hw : ∀ d ∈ tables_1, d.before a0 Z = true) (ws : List Jvm.Cond) (a : Addr) (h0 : Heap) (n0 : Nat) (Z0 : n0 ≤ h0.size) :
    MetFree l (⟨"java/util/AbstractCollection", "<init>", "()V"⟩ : MethodName) (head1 (Jvm.Cond.code (⟨"java/util/AbstractCollection", "<init>", "()V"⟩ : MethodName) jdk_22_method_1_code 1 none :: ws) ({ frames := 1, cells := 0, slots := 0, locals := 12 } : Room)) (fun av U => av = #[(.ref a)] ∧ Z.Warmed39 U.vm ∧ U.heap = h0) (fun _ _ _ _ _ => True) (fun _ U o U' => ∃ rv L, o = .returned rv ∧ Q_rm5 Z a h0 n0 rv U'.heap L ∧ FrameEnd U o U' L ({ frames := 1, cells := 0, slots := 0, locals := 12 } : Room).cells ({ frames := 1, cells := 0, slots := 0, locals := 12 } : Room).slots) := by
  refine MetFree.of_bodySF (plainFor_of_name pn_5) hisR ?_
  intro p e s m args below meth c s₁ Bd hml0 hP hK
  obtain ⟨rfl, hZ, hh⟩ := hP
  have hx := Bd.exec
  have hby := Bd.bytes
  have hml : c.maxLocals = 1 := hml0
  have hown : s.vm.findClass "java/util/AbstractCollection" = some m.cls := findClass_of_methodNamed Bd.named
  have hnm := (name_of_methodNamed Bd.named Bd.method).1
  have X0 : Stand p l e ({ frames := 1, cells := 0, slots := 0, locals := 12 } : Room) s m #[(.ref a)] below meth c s₁ [] 0 0 := Stand.of_body Bd
  have e0 : s₁.heap = h0 := by rw [← hh, Bd.state]; rfl
  have N0 := Fr.nil n0
  have pre0 : ∀ t, Steps p.tables e below (s₁.setTop (mkF m 0 #[.val (.ref a)] [])) t → Steps p.tables e below (s₁.setTop (entryFrame m #[(.ref a)] 1)) t := fun t k => castTop (ef_rm5 m a) k
  have sg1 : ∀ target, Steps p.tables e below (s₁.setTop (mkF m 1 #[.val (.ref a)] [(.ref a)])) target → Steps p.tables e below (s₁.setTop (mkF m 0 #[.val (.ref a)] [])) target := by
    intro target kt
    show Steps p.tables e below (s₁.setTop (mkF m 0 #[.val (.ref a)] [])) _
    refine XS.aloadN X0.here hx rfl (hb hby d5_0) rfl rfl ?_
    exact kt
  obtain ⟨T2, X2, e2, st2⟩ := initO X0 hx hZ hown (hw _ (List.mem_of_getElem? (i := 35) rfl)) (hw _ (List.mem_of_getElem? (i := 15) rfl)) (hw _ (List.mem_of_getElem? (i := 16) rfl)) e0 (g := (mkF m 1 #[.val (.ref a)] [(.ref a)])) rfl (by rw [hml]; rfl) rfl (hb hby d5_1) (by decide) (W := 0) (by show 2 * 0 + _ ≤ _; exact Nat.le_of_eq rfl) (by decide)
  obtain ⟨fs, hr, hrun, hended, hW, hsame⟩ := X2.leave (v := none) (fun _ => rfl)
  refine ⟨_, _, pre0 _ ?_, hrun, hended, _, _, rfl, ?_, ⟨_, rfl⟩, hW, hsame.mono (by decide) (by decide)⟩
  · show Steps p.tables e below (s₁.setTop (mkF m 0 #[.val (.ref a)] [])) _
    refine sg1 _ ?_
    refine st2 _ ?_
    show Steps p.tables e below (T2.setTop (mkF m 4 #[.val (.ref a)] [])) _
    exact X2.returnOut hx Bd.returns (hb hby d5_4) hr
  · show Q_rm5 Z a h0 n0 _ T2.heap _
    rw [e2]
    exact ⟨rfl, N0, rfl⟩
theorem d7_0 : decode jdk_30_method_1_code 0 = .ok (.aload_n 0, 1) := by decide +kernel
theorem d7_1 : decode jdk_30_method_1_code 1 = .ok (.invokespecial 1, 3) := by decide +kernel
theorem d7_4 : decode jdk_30_method_1_code 4 = .ok (.return_, 1) := by decide +kernel
theorem pn_7 : plainName "java/lang/Record" = true := by first | (simp [plainName, overriddenIn]; done) | decide +kernel
theorem ef_rm7 (m : MethodId) (x0 : Addr) : entryFrame m #[(.ref x0)] 1 = mkF m 0 #[.val (.ref x0)] [] := by first | (simp [entryFrame, mkF, argsToLocals, Value.category]; done) | rfl
def Q_rm7 (Z : State) (a : Addr) (h0 : Heap) (n0 : Nat) (rv : Option Value) (h : Heap) (L : List Loc) : Prop := rv = none ∧ Fr n0 L ∧ h = h0
set_option maxRecDepth 65536 in
set_option maxHeartbeats 40000000 in
theorem rm7 (l : Launch) (Z : State) (a0 : Array Value) (hw : ∀ d ∈ tables_1, d.before a0 Z = true) (ws : List Jvm.Cond) (a : Addr) (h0 : Heap) (n0 : Nat) (Z0 : n0 ≤ h0.size) :
    MetFree l (⟨"java/lang/Record", "<init>", "()V"⟩ : MethodName) (head1 (Jvm.Cond.code (⟨"java/lang/Record", "<init>", "()V"⟩ : MethodName) jdk_30_method_1_code 1 none :: ws) ({ frames := 1, cells := 0, slots := 0, locals := 12 } : Room)) (fun av U => av = #[(.ref a)] ∧ Z.Warmed39 U.vm ∧ U.heap = h0) (fun _ _ _ _ _ => True) (fun _ U o U' => ∃ rv L, o = .returned rv ∧ Q_rm7 Z a h0 n0 rv U'.heap L ∧ FrameEnd U o U' L ({ frames := 1, cells := 0, slots := 0, locals := 12 } : Room).cells ({ frames := 1, cells := 0, slots := 0, locals := 12 } : Room).slots) := by
  refine MetFree.of_bodySF (plainFor_of_name pn_7) hisR ?_
  intro p e s m args below meth c s₁ Bd hml0 hP hK
  obtain ⟨rfl, hZ, hh⟩ := hP
  have hx := Bd.exec
  have hby := Bd.bytes
  have hml : c.maxLocals = 1 := hml0
  have hown : s.vm.findClass "java/lang/Record" = some m.cls := findClass_of_methodNamed Bd.named
  have hnm := (name_of_methodNamed Bd.named Bd.method).1
  have X0 : Stand p l e ({ frames := 1, cells := 0, slots := 0, locals := 12 } : Room) s m #[(.ref a)] below meth c s₁ [] 0 0 := Stand.of_body Bd
  have e0 : s₁.heap = h0 := by rw [← hh, Bd.state]; rfl
  have N0 := Fr.nil n0
  have pre0 : ∀ t, Steps p.tables e below (s₁.setTop (mkF m 0 #[.val (.ref a)] [])) t → Steps p.tables e below (s₁.setTop (entryFrame m #[(.ref a)] 1)) t := fun t k => castTop (ef_rm7 m a) k
  have sg1 : ∀ target, Steps p.tables e below (s₁.setTop (mkF m 1 #[.val (.ref a)] [(.ref a)])) target → Steps p.tables e below (s₁.setTop (mkF m 0 #[.val (.ref a)] [])) target := by
    intro target kt
    show Steps p.tables e below (s₁.setTop (mkF m 0 #[.val (.ref a)] [])) _
    refine XS.aloadN X0.here hx rfl (hb hby d7_0) rfl rfl ?_
    exact kt
  obtain ⟨T2, X2, e2, st2⟩ := initO X0 hx hZ hown (hw _ (List.mem_of_getElem? (i := 60) rfl)) (hw _ (List.mem_of_getElem? (i := 15) rfl)) (hw _ (List.mem_of_getElem? (i := 16) rfl)) e0 (g := (mkF m 1 #[.val (.ref a)] [(.ref a)])) rfl (by rw [hml]; rfl) rfl (hb hby d7_1) (by decide) (W := 0) (by show 2 * 0 + _ ≤ _; exact Nat.le_of_eq rfl) (by decide)
  obtain ⟨fs, hr, hrun, hended, hW, hsame⟩ := X2.leave (v := none) (fun _ => rfl)
  refine ⟨_, _, pre0 _ ?_, hrun, hended, _, _, rfl, ?_, ⟨_, rfl⟩, hW, hsame.mono (by decide) (by decide)⟩
  · show Steps p.tables e below (s₁.setTop (mkF m 0 #[.val (.ref a)] [])) _
    refine sg1 _ ?_
    refine st2 _ ?_
    show Steps p.tables e below (T2.setTop (mkF m 4 #[.val (.ref a)] [])) _
    exact X2.returnOut hx Bd.returns (hb hby d7_4) hr
  · show Q_rm7 Z a h0 n0 _ T2.heap _
    rw [e2]
    exact ⟨rfl, N0, rfl⟩
theorem d4_0 : decode jdk_39_method_1_code 0 = .ok (.aload_n 0, 1) := by decide +kernel
theorem d4_1 : decode jdk_39_method_1_code 1 = .ok (.invokespecial 1, 3) := by decide +kernel
theorem pd_3 : parseMethodDescriptor "()V" = some ⟨[], none⟩ := by decide +kernel
theorem d4_4 : decode jdk_39_method_1_code 4 = .ok (.aload_n 0, 1) := by decide +kernel
theorem d4_5 : decode jdk_39_method_1_code 5 = .ok (.iconst 0, 1) := by decide +kernel
theorem d4_6 : decode jdk_39_method_1_code 6 = .ok (.putfield 7, 3) := by decide +kernel
theorem d4_9 : decode jdk_39_method_1_code 9 = .ok (.return_, 1) := by decide +kernel
theorem pn_4 : plainName "java/util/AbstractList" = true := by first | (simp [plainName, overriddenIn]; done) | decide +kernel
theorem ef_rm4b (m : MethodId) (x0 : Addr) : entryFrame m #[(.ref x0)] 1 = mkF m 0 #[.val (.ref x0)] [] := by first | (simp [entryFrame, mkF, argsToLocals, Value.category]; done) | rfl
def Q_rm4b (Z : State) (a : Addr) (u : Value) (h0 : Heap) (n0 : Nat) (rv : Option Value) (h : Heap) (L : List Loc) : Prop := rv = none ∧ Fr n0 L ∧ Keep h0 h [a] ∧ Exa Z h a "java/util/ArrayList" ∧ Fld Z h a "java/util/ArrayList" "elementData" "[Ljava/lang/Object;" u
set_option maxRecDepth 65536 in
set_option maxHeartbeats 40000000 in
theorem rm4b (l : Launch) (Z : State) (a0 : Array Value) (hw : ∀ d ∈ tables_1, d.before a0 Z = true) (ws : List Jvm.Cond) (a : Addr) (u : Value) (h0 : Heap) (n0 : Nat) (Z0 : n0 ≤ h0.size) (E_a : Exa Z h0 a "java/util/ArrayList") (F1 : Fld Z h0 a "java/util/AbstractList" "modCount" "I" (.int (0 : Int32))) (F2 : Fld Z h0 a "java/util/ArrayList" "elementData" "[Ljava/lang/Object;" u) (g_a : n0 ≤ a) :
    MetFree l (⟨"java/util/AbstractList", "<init>", "()V"⟩ : MethodName) (head1 (Jvm.Cond.code (⟨"java/util/AbstractList", "<init>", "()V"⟩ : MethodName) jdk_39_method_1_code 1 none :: ws) ({ frames := 2, cells := 0, slots := 0, locals := 24 } : Room)) (fun av U => av = #[(.ref a)] ∧ Z.Warmed39 U.vm ∧ U.heap = h0) (fun _ _ _ _ _ => True) (fun _ U o U' => ∃ rv L, o = .returned rv ∧ Q_rm4b Z a u h0 n0 rv U'.heap L ∧ FrameEnd U o U' L ({ frames := 2, cells := 0, slots := 0, locals := 24 } : Room).cells ({ frames := 2, cells := 0, slots := 0, locals := 24 } : Room).slots) := by
  refine MetFree.of_bodySF (plainFor_of_name pn_4) hisR ?_
  intro p e s m args below meth c s₁ Bd hml0 hP hK
  obtain ⟨rfl, hZ, hh⟩ := hP
  have hx := Bd.exec
  have hby := Bd.bytes
  have hml : c.maxLocals = 1 := hml0
  have hown : s.vm.findClass "java/util/AbstractList" = some m.cls := findClass_of_methodNamed Bd.named
  have hnm := (name_of_methodNamed Bd.named Bd.method).1
  have X0 : Stand p l e ({ frames := 2, cells := 0, slots := 0, locals := 24 } : Room) s m #[(.ref a)] below meth c s₁ [] 0 0 := Stand.of_body Bd
  have e0 : s₁.heap = h0 := by rw [← hh, Bd.state]; rfl
  have N0 := Fr.nil n0
  have pre0 : ∀ t, Steps p.tables e below (s₁.setTop (mkF m 0 #[.val (.ref a)] [])) t → Steps p.tables e below (s₁.setTop (entryFrame m #[(.ref a)] 1)) t := fun t k => castTop (ef_rm4b m a) k
  have sg1 : ∀ target, Steps p.tables e below (s₁.setTop (mkF m 1 #[.val (.ref a)] [(.ref a)])) target → Steps p.tables e below (s₁.setTop (mkF m 0 #[.val (.ref a)] [])) target := by
    intro target kt
    show Steps p.tables e below (s₁.setTop (mkF m 0 #[.val (.ref a)] [])) _
    refine XS.aloadN X0.here hx rfl (hb hby d4_0) rfl rfl ?_
    exact kt
  obtain ⟨_, _, ⟨T2, L2, k2, n2⟩, -, X2, ⟨Lc2, hQ2, l2, y2, z2⟩, st2⟩ := X0.specialBack hx (y := (⟨"java/util/AbstractCollection", "<init>", "()V"⟩ : MethodName)) rfl hown (mvT hZ (hw _ (List.mem_of_getElem? (i := 29) rfl))) (mvT hZ (hw _ (List.mem_of_getElem? (i := 30) rfl))) (mvT hZ (hw _ (List.mem_of_getElem? (i := 34) rfl))) (by decide) (backOf (W := 0) (rm5 l Z a0 hw [] a h0 n0 Z0 ) hZ (hw _ (List.mem_of_getElem? (i := 34) rfl)) (hw _ (List.mem_of_getElem? (i := 33) rfl)) (by decide) (by decide)) (g := (mkF m 1 #[.val (.ref a)] [(.ref a)])) rfl (by rw [hml]; rfl) (Steps.refl _) (a := a) (argsL := []) (rest := []) (lenOf pd_3 rfl) rfl (by show 2 * 0 + _ ≤ _; exact Nat.le_of_eq rfl) (hb hby d4_1) (fun _ _ => ⟨rfl, e0, (by decide : 0 + 0 ≤ _), (by decide : 0 + 0 ≤ _)⟩)
  dsimp only [Pt.U, Pt.locs, Pt.cells, Pt.slots] at X2 l2 y2 z2 st2 hQ2
  subst l2 y2 z2
  obtain ⟨rfl, N2q, c2_0⟩ := hQ2
  have N2 := Fr.app N0 N2q
  have sg3 : ∀ target, Steps p.tables e below (T2.setTop (mkF m 6 #[.val (.ref a)] [(.int (0 : Int32)), (.ref a)])) target → Steps p.tables e below (T2.setTop (mkF m 4 #[.val (.ref a)] [])) target := by
    intro target kt
    show Steps p.tables e below (T2.setTop (mkF m 4 #[.val (.ref a)] [])) _
    refine XS.aloadN X2.here hx rfl (hb hby d4_4) rfl rfl ?_
    show Steps p.tables e below (T2.setTop (mkF m 5 #[.val (.ref a)] [(.ref a)])) _
    refine XS.iconst X2.here hx rfl (hb hby d4_5) ?_
    exact kt
  obtain ⟨T4, h4, X4, e4, W4, st4⟩ := putF X2 hx hZ hown (host := "") (Or.inl (hw _ (List.mem_of_getElem? (i := 36) rfl))) Via.refl c2_0 F1 E_a (Or.inl (hw _ (List.mem_of_getElem? (i := 37) rfl))) (hw _ (List.mem_of_getElem? (i := 18) rfl)) (ty := .int) (by decide) rfl rfl (g := (mkF m 6 #[.val (.ref a)] [(.int (0 : Int32)), (.ref a)])) rfl rfl (hb hby d4_6)
  have N4 := Fr.snoc X4 N2 g_a
  have Zs4 : n0 ≤ h4.size := by rw [W4.size]; exact Z0
  have K4 : Keep h0 h4 [a] := (Keep.refl h0 [a]).wr W4 (Or.inl (List.mem_of_getElem? (i := 0) rfl))
  have f5 : Exa Z h4 a "java/util/ArrayList" := E_a.wr W4
  have f6 : Fld Z h4 a "java/util/ArrayList" "elementData" "[Ljava/lang/Object;" u := F2.other W4 (Or.inr (slot_ne (Or.inl (hw _ (List.mem_of_getElem? (i := 40) rfl))) (Or.inl (hw _ (List.mem_of_getElem? (i := 37) rfl))) (by decide) (t := (.array (.object "java/lang/Object"))) (t' := .int) (by decide) (by decide)))
  have f7 : Fld Z h4 a "java/util/AbstractList" "modCount" "I" (.int (0 : Int32)) := F1.same W4
  obtain ⟨fs, hr, hrun, hended, hW, hsame⟩ := X4.leave (v := none) (fun _ => rfl)
  refine ⟨_, _, pre0 _ ?_, hrun, hended, _, _, rfl, ?_, ⟨_, rfl⟩, hW, hsame.mono (by decide) (by decide)⟩
  · show Steps p.tables e below (s₁.setTop (mkF m 0 #[.val (.ref a)] [])) _
    refine sg1 _ ?_
    refine st2.trans ?_
    refine sg3 _ ?_
    refine st4 _ ?_
    show Steps p.tables e below (T4.setTop (mkF m 9 #[.val (.ref a)] [])) _
    exact X4.returnOut hx Bd.returns (hb hby d4_9) hr
  · show Q_rm4b Z a u h0 n0 _ T4.heap _
    rw [e4]
    exact ⟨rfl, N4, K4, f5, f6⟩
theorem d3_0 : decode jdk_38_method_2_code 0 = .ok (.aload_n 0, 1) := by decide +kernel
theorem d3_1 : decode jdk_38_method_2_code 1 = .ok (.invokespecial 1, 3) := by decide +kernel
theorem d3_4 : decode jdk_38_method_2_code 4 = .ok (.aload_n 0, 1) := by decide +kernel
theorem d3_5 : decode jdk_38_method_2_code 5 = .ok (.getstatic 39, 3) := by decide +kernel
theorem d3_8 : decode jdk_38_method_2_code 8 = .ok (.putfield 9, 3) := by decide +kernel
theorem d3_11 : decode jdk_38_method_2_code 11 = .ok (.return_, 1) := by decide +kernel
theorem pn_3 : plainName "java/util/ArrayList" = true := by first | (simp [plainName, overriddenIn]; done) | decide +kernel
theorem ef_rm3 (m : MethodId) (x0 : Addr) : entryFrame m #[(.ref x0)] 1 = mkF m 0 #[.val (.ref x0)] [] := by first | (simp [entryFrame, mkF, argsToLocals, Value.category]; done) | rfl
def Q_rm3 (Z : State) (a : Addr) (d0 : Addr) (h0 : Heap) (n0 : Nat) (rv : Option Value) (h : Heap) (L : List Loc) : Prop := rv = none ∧ Fr n0 L ∧ Keep h0 h [a] ∧ Exa Z h a "java/util/ArrayList"
set_option maxRecDepth 65536 in
set_option maxHeartbeats 40000000 in
theorem rm3 (l : Launch) (Z : State) (a0 : Array Value) (hw : ∀ d ∈ tables_1, d.before a0 Z = true) (ws : List Jvm.Cond) (a : Addr) (d0 : Addr) (h0 : Heap) (n0 : Nat) (Z0 : n0 ≤ h0.size) (E_a : Exa Z h0 a "java/util/ArrayList") (F1 : Fld Z h0 a "java/util/AbstractList" "modCount" "I" (.int (0 : Int32))) (F2 : Fld Z h0 a "java/util/ArrayList" "elementData" "[Ljava/lang/Object;" .null) (g_a : n0 ≤ a) (O : Old Z n0 h0) (S0 : Sta Z Z.heap "java/util/ArrayList" "DEFAULTCAPACITY_EMPTY_ELEMENTDATA" "[Ljava/lang/Object;" (.ref d0)) :
    MetFree l (⟨"java/util/ArrayList", "<init>", "()V"⟩ : MethodName) (head1 (Jvm.Cond.code (⟨"java/util/ArrayList", "<init>", "()V"⟩ : MethodName) jdk_38_method_2_code 1 none :: ws) ({ frames := 3, cells := 0, slots := 0, locals := 36 } : Room)) (fun av U => av = #[(.ref a)] ∧ Z.Warmed39 U.vm ∧ U.heap = h0) (fun _ _ _ _ _ => True) (fun _ U o U' => ∃ rv L, o = .returned rv ∧ Q_rm3 Z a d0 h0 n0 rv U'.heap L ∧ FrameEnd U o U' L ({ frames := 3, cells := 0, slots := 0, locals := 36 } : Room).cells ({ frames := 3, cells := 0, slots := 0, locals := 36 } : Room).slots) := by
  refine MetFree.of_bodySF (plainFor_of_name pn_3) hisR ?_
  intro p e s m args below meth c s₁ Bd hml0 hP hK
  obtain ⟨rfl, hZ, hh⟩ := hP
  have hx := Bd.exec
  have hby := Bd.bytes
  have hml : c.maxLocals = 1 := hml0
  have hown : s.vm.findClass "java/util/ArrayList" = some m.cls := findClass_of_methodNamed Bd.named
  have hnm := (name_of_methodNamed Bd.named Bd.method).1
  have X0 : Stand p l e ({ frames := 3, cells := 0, slots := 0, locals := 36 } : Room) s m #[(.ref a)] below meth c s₁ [] 0 0 := Stand.of_body Bd
  have e0 : s₁.heap = h0 := by rw [← hh, Bd.state]; rfl
  have N0 := Fr.nil n0
  have pre0 : ∀ t, Steps p.tables e below (s₁.setTop (mkF m 0 #[.val (.ref a)] [])) t → Steps p.tables e below (s₁.setTop (entryFrame m #[(.ref a)] 1)) t := fun t k => castTop (ef_rm3 m a) k
  have sg1 : ∀ target, Steps p.tables e below (s₁.setTop (mkF m 1 #[.val (.ref a)] [(.ref a)])) target → Steps p.tables e below (s₁.setTop (mkF m 0 #[.val (.ref a)] [])) target := by
    intro target kt
    show Steps p.tables e below (s₁.setTop (mkF m 0 #[.val (.ref a)] [])) _
    refine XS.aloadN X0.here hx rfl (hb hby d3_0) rfl rfl ?_
    exact kt
  obtain ⟨_, _, ⟨T2, L2, k2, n2⟩, -, X2, ⟨Lc2, hQ2, l2, y2, z2⟩, st2⟩ := X0.specialBack hx (y := (⟨"java/util/AbstractList", "<init>", "()V"⟩ : MethodName)) rfl hown (mvT hZ (hw _ (List.mem_of_getElem? (i := 23) rfl))) (mvT hZ (hw _ (List.mem_of_getElem? (i := 24) rfl))) (mvT hZ (hw _ (List.mem_of_getElem? (i := 28) rfl))) (by decide) (backOf (W := 0) (rm4b l Z a0 hw [] a .null h0 n0 Z0 E_a F1 F2 g_a) hZ (hw _ (List.mem_of_getElem? (i := 28) rfl)) (hw _ (List.mem_of_getElem? (i := 27) rfl)) (by decide) (by decide)) (g := (mkF m 1 #[.val (.ref a)] [(.ref a)])) rfl (by rw [hml]; rfl) (Steps.refl _) (a := a) (argsL := []) (rest := []) (lenOf pd_3 rfl) rfl (by show 2 * 0 + _ ≤ _; exact Nat.le_of_eq rfl) (hb hby d3_1) (fun _ _ => ⟨rfl, e0, (by decide : 0 + 0 ≤ _), (by decide : 0 + 0 ≤ _)⟩)
  dsimp only [Pt.U, Pt.locs, Pt.cells, Pt.slots] at X2 l2 y2 z2 st2 hQ2
  subst l2 y2 z2
  obtain ⟨rfl, N2q, c2_0, c2_1, c2_2⟩ := hQ2
  have N2 := Fr.app N0 N2q
  have Zs2 : n0 ≤ T2.heap.size := Nat.le_trans Z0 c2_0.1
  have K2 : Keep h0 T2.heap [a] := (Keep.refl h0 [a]).trans c2_0 (allS (Or.inl (List.mem_of_getElem? (i := 0) rfl)) all0)
  have f3 : Old Z n0 T2.heap := O.keep c2_0 (allS g_a all0)
  have f4 : Exa Z T2.heap a "java/util/ArrayList" := c2_1
  have f5 : Fld Z T2.heap a "java/util/ArrayList" "elementData" "[Ljava/lang/Object;" .null := c2_2
  have sg6 : ∀ target, Steps p.tables e below (T2.setTop (mkF m 5 #[.val (.ref a)] [(.ref a)])) target → Steps p.tables e below (T2.setTop (mkF m 4 #[.val (.ref a)] [])) target := by
    intro target kt
    show Steps p.tables e below (T2.setTop (mkF m 4 #[.val (.ref a)] [])) _
    refine XS.aloadN X2.here hx rfl (hb hby d3_4) rfl rfl ?_
    exact kt
  obtain ⟨T7, X7, e7, st7⟩ := getS2 X2 hx hZ hown (host := "") (Or.inl (hw _ (List.mem_of_getElem? (i := 38) rfl))) Via.refl rfl (S0.ext f3.2) (g := (mkF m 5 #[.val (.ref a)] [(.ref a)])) rfl (hb hby d3_5)
  obtain ⟨T8, h8, X8, e8, W8, st8⟩ := putF X7 hx hZ hown (host := "") (Or.inl (hw _ (List.mem_of_getElem? (i := 39) rfl))) Via.refl e7 f5 f4 (Or.inl (hw _ (List.mem_of_getElem? (i := 40) rfl))) (hw _ (List.mem_of_getElem? (i := 18) rfl)) (ty := (.array (.object "java/lang/Object"))) (by decide) rfl rfl (g := (mkF m 8 #[.val (.ref a)] [(.ref d0), (.ref a)])) rfl rfl (hb hby d3_8)
  have N8 := Fr.snoc X8 N2 g_a
  have Zs8 : n0 ≤ h8.size := by rw [W8.size]; exact Zs2
  have K8 : Keep h0 h8 [a] := K2.wr W8 (Or.inl (List.mem_of_getElem? (i := 0) rfl))
  have f9 : Old Z n0 h8 := f3.wr W8 g_a
  have f10 : Exa Z h8 a "java/util/ArrayList" := f4.wr W8
  have f11 : Fld Z h8 a "java/util/ArrayList" "elementData" "[Ljava/lang/Object;" (.ref d0) := f5.same W8
  obtain ⟨fs, hr, hrun, hended, hW, hsame⟩ := X8.leave (v := none) (fun _ => rfl)
  refine ⟨_, _, pre0 _ ?_, hrun, hended, _, _, rfl, ?_, ⟨_, rfl⟩, hW, hsame.mono (by decide) (by decide)⟩
  · show Steps p.tables e below (s₁.setTop (mkF m 0 #[.val (.ref a)] [])) _
    refine sg1 _ ?_
    refine st2.trans ?_
    refine sg6 _ ?_
    refine st7 _ ?_
    refine st8 _ ?_
    show Steps p.tables e below (T8.setTop (mkF m 11 #[.val (.ref a)] [])) _
    exact X8.returnOut hx Bd.returns (hb hby d3_11) hr
  · show Q_rm3 Z a d0 h0 n0 _ T8.heap _
    rw [e8]
    exact ⟨rfl, N8, K8, f10⟩
theorem d1_0 : decode prog_34_method_1_code 0 = .ok (.aload_n 0, 1) := by decide +kernel
theorem d1_1 : decode prog_34_method_1_code 1 = .ok (.invokespecial 1, 3) := by decide +kernel
theorem d1_4 : decode prog_34_method_1_code 4 = .ok (.aload_n 0, 1) := by decide +kernel
theorem d1_5 : decode prog_34_method_1_code 5 = .ok (.new 7, 3) := by decide +kernel
theorem d1_8 : decode prog_34_method_1_code 8 = .ok (.dup, 1) := by decide +kernel
theorem d1_9 : decode prog_34_method_1_code 9 = .ok (.invokespecial 9, 3) := by decide +kernel
theorem d1_12 : decode prog_34_method_1_code 12 = .ok (.putfield 10, 3) := by decide +kernel
theorem d1_15 : decode prog_34_method_1_code 15 = .ok (.aload_n 0, 1) := by decide +kernel
theorem d1_16 : decode prog_34_method_1_code 16 = .ok (.new 7, 3) := by decide +kernel
theorem d1_19 : decode prog_34_method_1_code 19 = .ok (.dup, 1) := by decide +kernel
theorem d1_20 : decode prog_34_method_1_code 20 = .ok (.invokespecial 9, 3) := by decide +kernel
theorem d1_23 : decode prog_34_method_1_code 23 = .ok (.putfield 16, 3) := by decide +kernel
theorem d1_26 : decode prog_34_method_1_code 26 = .ok (.aload_n 0, 1) := by decide +kernel
theorem d1_27 : decode prog_34_method_1_code 27 = .ok (.aload_n 1, 1) := by decide +kernel
theorem d1_28 : decode prog_34_method_1_code 28 = .ok (.putfield 19, 3) := by decide +kernel
theorem d1_31 : decode prog_34_method_1_code 31 = .ok (.aload_n 0, 1) := by decide +kernel
theorem d1_32 : decode prog_34_method_1_code 32 = .ok (.iload_n 2, 1) := by decide +kernel
theorem d1_33 : decode prog_34_method_1_code 33 = .ok (.putfield 23, 3) := by decide +kernel
theorem d1_36 : decode prog_34_method_1_code 36 = .ok (.return_, 1) := by decide +kernel
theorem pn_1 : plainName "com/example/brelok/brelok/perf/Tally" = true := by first | (simp [plainName, overriddenIn]; done) | decide +kernel
theorem ef_rm1 (m : MethodId) (x0 : Addr) (x1 : Addr) (x2 : Int32) : entryFrame m #[(.ref x0), (.ref x1), (.int x2)] 3 = mkF m 0 #[.val (.ref x0), .val (.ref x1), .val (.int x2)] [] := by first | (simp [entryFrame, mkF, argsToLocals, Value.category]; done) | rfl
def Q_rm1 (Z : State) (a : Addr) (sa : Addr) (z : Int32) (d0 : Addr) (h0 : Heap) (n0 : Nat) (rv : Option Value) (h : Heap) (L : List Loc) : Prop := rv = none ∧ Fr n0 L ∧ Keep h0 h [a] ∧ Exa Z h a "com/example/brelok/brelok/perf/Tally" ∧ Fld Z h a "com/example/brelok/brelok/perf/Tally" "excludes" "Z" (.int (nar .boolean z)) ∧ Fld Z h a "com/example/brelok/brelok/perf/Tally" "waiting" "D" (.double (0 : UInt64)) ∧ Fld Z h a "com/example/brelok/brelok/perf/Tally" "overlaps" "J" (.long (0 : Int64)) ∧ Fld Z h a "com/example/brelok/brelok/perf/Tally" "lostUpdates" "J" (.long (0 : Int64))
set_option maxRecDepth 65536 in
set_option maxHeartbeats 40000000 in
theorem rm1 (l : Launch) (Z : State) (a0 : Array Value) (hw : ∀ d ∈ tables_1, d.before a0 Z = true) (ws : List Jvm.Cond) (a : Addr) (sa : Addr) (z : Int32) (d0 : Addr) (h0 : Heap) (n0 : Nat) (Z0 : n0 ≤ h0.size) (E_a : Exa Z h0 a "com/example/brelok/brelok/perf/Tally") (F_solo : Fld Z h0 a "com/example/brelok/brelok/perf/Tally" "solo" "Ljava/util/List;" .null) (F_contended : Fld Z h0 a "com/example/brelok/brelok/perf/Tally" "contended" "Ljava/util/List;" .null) (F_name : Fld Z h0 a "com/example/brelok/brelok/perf/Tally" "name" "Ljava/lang/String;" .null) (F_excludes : Fld Z h0 a "com/example/brelok/brelok/perf/Tally" "excludes" "Z" (.int (0 : Int32))) (F_waiting : Fld Z h0 a "com/example/brelok/brelok/perf/Tally" "waiting" "D" (.double (0 : UInt64))) (F_overlaps : Fld Z h0 a "com/example/brelok/brelok/perf/Tally" "overlaps" "J" (.long (0 : Int64))) (F_lostUpdates : Fld Z h0 a "com/example/brelok/brelok/perf/Tally" "lostUpdates" "J" (.long (0 : Int64))) (g_a : n0 ≤ a) (O : Old Z n0 h0) (S0 : Sta Z Z.heap "java/util/ArrayList" "DEFAULTCAPACITY_EMPTY_ELEMENTDATA" "[Ljava/lang/Object;" (.ref d0)) :
    MetFree l (⟨"com/example/brelok/brelok/perf/Tally", "<init>", "(Ljava/lang/String;Z)V"⟩ : MethodName) (head1 (Jvm.Cond.code (⟨"com/example/brelok/brelok/perf/Tally", "<init>", "(Ljava/lang/String;Z)V"⟩ : MethodName) prog_34_method_1_code 3 none :: ws) ({ frames := 4, cells := 2, slots := 6, locals := 50 } : Room)) (fun av U => av = #[(.ref a), (.ref sa), (.int z)] ∧ Z.Warmed39 U.vm ∧ U.heap = h0) (fun _ _ _ _ _ => True) (fun _ U o U' => ∃ rv L, o = .returned rv ∧ Q_rm1 Z a sa z d0 h0 n0 rv U'.heap L ∧ FrameEnd U o U' L ({ frames := 4, cells := 2, slots := 6, locals := 50 } : Room).cells ({ frames := 4, cells := 2, slots := 6, locals := 50 } : Room).slots) := by
  refine MetFree.of_bodySF (plainFor_of_name pn_1) hisR ?_
  intro p e s m args below meth c s₁ Bd hml0 hP hK
  obtain ⟨rfl, hZ, hh⟩ := hP
  have hx := Bd.exec
  have hby := Bd.bytes
  have hml : c.maxLocals = 3 := hml0
  have hown : s.vm.findClass "com/example/brelok/brelok/perf/Tally" = some m.cls := findClass_of_methodNamed Bd.named
  have hnm := (name_of_methodNamed Bd.named Bd.method).1
  have X0 : Stand p l e ({ frames := 4, cells := 2, slots := 6, locals := 50 } : Room) s m #[(.ref a), (.ref sa), (.int z)] below meth c s₁ [] 0 0 := Stand.of_body Bd
  have e0 : s₁.heap = h0 := by rw [← hh, Bd.state]; rfl
  have N0 := Fr.nil n0
  have pre0 : ∀ t, Steps p.tables e below (s₁.setTop (mkF m 0 #[.val (.ref a), .val (.ref sa), .val (.int z)] [])) t → Steps p.tables e below (s₁.setTop (entryFrame m #[(.ref a), (.ref sa), (.int z)] 3)) t := fun t k => castTop (ef_rm1 m a sa z) k
  have sg1 : ∀ target, Steps p.tables e below (s₁.setTop (mkF m 1 #[.val (.ref a), .val (.ref sa), .val (.int z)] [(.ref a)])) target → Steps p.tables e below (s₁.setTop (mkF m 0 #[.val (.ref a), .val (.ref sa), .val (.int z)] [])) target := by
    intro target kt
    show Steps p.tables e below (s₁.setTop (mkF m 0 #[.val (.ref a), .val (.ref sa), .val (.int z)] [])) _
    refine XS.aloadN X0.here hx rfl (hb hby d1_0) rfl rfl ?_
    exact kt
  obtain ⟨T2, X2, e2, st2⟩ := initO X0 hx hZ hown (hw _ (List.mem_of_getElem? (i := 14) rfl)) (hw _ (List.mem_of_getElem? (i := 15) rfl)) (hw _ (List.mem_of_getElem? (i := 16) rfl)) e0 (g := (mkF m 1 #[.val (.ref a), .val (.ref sa), .val (.int z)] [(.ref a)])) rfl (by rw [hml]; rfl) rfl (hb hby d1_1) (by decide) (W := 0) (by show 2 * 0 + _ ≤ _; exact Nat.le_of_eq rfl) (by decide)
  have sg3 : ∀ target, Steps p.tables e below (T2.setTop (mkF m 5 #[.val (.ref a), .val (.ref sa), .val (.int z)] [(.ref a)])) target → Steps p.tables e below (T2.setTop (mkF m 4 #[.val (.ref a), .val (.ref sa), .val (.int z)] [])) target := by
    intro target kt
    show Steps p.tables e below (T2.setTop (mkF m 4 #[.val (.ref a), .val (.ref sa), .val (.int z)] [])) _
    refine XS.aloadN X2.here hx rfl (hb hby d1_4) rfl rfl ?_
    exact kt
  obtain ⟨T4, h4, X4, e4, E4, A4, D4, -, st4⟩ := newO X2 hx hZ hown (hw _ (List.mem_of_getElem? (i := 17) rfl)) (hw _ (List.mem_of_getElem? (i := 18) rfl)) (hw _ (List.mem_of_getElem? (i := 19) rfl)) e2 (g := (mkF m 5 #[.val (.ref a), .val (.ref sa), .val (.int z)] [(.ref a)])) rfl (hb hby d1_5) (by decide) (by decide)
  obtain ⟨b4, g4⟩ : ∃ z, z = h0.size := ⟨_, rfl⟩
  rw [← g4] at A4 D4 st4
  have g_b4 : n0 ≤ b4 := Nat.le_trans Z0 (Nat.le_of_eq g4.symm)
  have sz_b4 : h0.size ≤ b4 := Nat.le_trans (Keep.refl h0 [a]).1 (Nat.le_of_eq g4.symm)
  have ne_a_b4 : a ≠ b4 := Nat.ne_of_lt (Nat.lt_of_lt_of_le E_a.lt (Nat.le_of_eq g4.symm))
  have Zs4 : n0 ≤ h4.size := Nat.le_trans Z0 E4.1
  have K4 : Keep h0 h4 [a] := (Keep.refl h0 [a]).ext E4
  have f5 : Exa Z h4 a "com/example/brelok/brelok/perf/Tally" := E_a.ext E4
  have f6 : Fld Z h4 a "com/example/brelok/brelok/perf/Tally" "solo" "Ljava/util/List;" .null := F_solo.ext E4
  have f7 : Fld Z h4 a "com/example/brelok/brelok/perf/Tally" "contended" "Ljava/util/List;" .null := F_contended.ext E4
  have f8 : Fld Z h4 a "com/example/brelok/brelok/perf/Tally" "name" "Ljava/lang/String;" .null := F_name.ext E4
  have f9 : Fld Z h4 a "com/example/brelok/brelok/perf/Tally" "excludes" "Z" (.int (0 : Int32)) := F_excludes.ext E4
  have f10 : Fld Z h4 a "com/example/brelok/brelok/perf/Tally" "waiting" "D" (.double (0 : UInt64)) := F_waiting.ext E4
  have f11 : Fld Z h4 a "com/example/brelok/brelok/perf/Tally" "overlaps" "J" (.long (0 : Int64)) := F_overlaps.ext E4
  have f12 : Fld Z h4 a "com/example/brelok/brelok/perf/Tally" "lostUpdates" "J" (.long (0 : Int64)) := F_lostUpdates.ext E4
  have f13 : Old Z n0 h4 := O.ext E4
  have f14 : Exa Z h4 b4 "java/util/ArrayList" := A4
  have f15 : Fld Z h4 b4 "java/util/AbstractList" "modCount" "I" (.int (0 : Int32)) := D4 (Or.inl (hw _ (List.mem_of_getElem? (i := 37) rfl))) (ty := .int) (by decide)
  have f16 : Fld Z h4 b4 "java/util/ArrayList" "elementData" "[Ljava/lang/Object;" .null := D4 (Or.inl (hw _ (List.mem_of_getElem? (i := 40) rfl))) (ty := (.array (.object "java/lang/Object"))) (by decide)
  have sg17 : ∀ target, Steps p.tables e below (T4.setTop (mkF m 9 #[.val (.ref a), .val (.ref sa), .val (.int z)] [(.ref b4), (.ref b4), (.ref a)])) target → Steps p.tables e below (T4.setTop (mkF m 8 #[.val (.ref a), .val (.ref sa), .val (.int z)] [(.ref b4), (.ref a)])) target := by
    intro target kt
    show Steps p.tables e below (T4.setTop (mkF m 8 #[.val (.ref a), .val (.ref sa), .val (.int z)] [(.ref b4), (.ref a)])) _
    refine XS.dup X4.here hx rfl (hb hby d1_8) rfl rfl ?_
    exact kt
  obtain ⟨_, _, ⟨T18, L18, k18, n18⟩, -, X18, ⟨Lc18, hQ18, l18, y18, z18⟩, st18⟩ := X4.specialBack hx (y := (⟨"java/util/ArrayList", "<init>", "()V"⟩ : MethodName)) rfl hown (mvT hZ (hw _ (List.mem_of_getElem? (i := 20) rfl))) (mvT hZ (hw _ (List.mem_of_getElem? (i := 21) rfl))) (mvT hZ (hw _ (List.mem_of_getElem? (i := 22) rfl))) (by decide) (backOf (W := 2) (rm3 l Z a0 hw [] b4 d0 h4 n0 Zs4 f14 f15 f16 g_b4 f13 S0) hZ (hw _ (List.mem_of_getElem? (i := 22) rfl)) (hw _ (List.mem_of_getElem? (i := 19) rfl)) (by decide) (by decide)) (g := (mkF m 9 #[.val (.ref a), .val (.ref sa), .val (.int z)] [(.ref b4), (.ref b4), (.ref a)])) rfl (by rw [hml]; rfl) (Steps.refl _) (a := b4) (argsL := []) (rest := [(.ref b4), (.ref a)]) (lenOf pd_3 rfl) rfl (by show 2 * 0 + _ ≤ _; exact Nat.le_of_eq rfl) (hb hby d1_9) (fun _ _ => ⟨rfl, e4, (by decide : 1 + 0 ≤ _), (by decide : 3 + 0 ≤ _)⟩)
  dsimp only [Pt.U, Pt.locs, Pt.cells, Pt.slots] at X18 l18 y18 z18 st18 hQ18
  subst l18 y18 z18
  obtain ⟨rfl, N18q, c18_0, c18_1⟩ := hQ18
  have N18 := Fr.app N0 N18q
  have Zs18 : n0 ≤ T18.heap.size := Nat.le_trans Zs4 c18_0.1
  have K18 : Keep h0 T18.heap [a] := K4.trans c18_0 (allS (Or.inr sz_b4) all0)
  have f19 : Exa Z T18.heap a "com/example/brelok/brelok/perf/Tally" := f5.keep c18_0
  have f20 : Fld Z T18.heap a "com/example/brelok/brelok/perf/Tally" "solo" "Ljava/util/List;" .null := f6.keep c18_0 (ninS ne_a_b4 nin0)
  have f21 : Fld Z T18.heap a "com/example/brelok/brelok/perf/Tally" "contended" "Ljava/util/List;" .null := f7.keep c18_0 (ninS ne_a_b4 nin0)
  have f22 : Fld Z T18.heap a "com/example/brelok/brelok/perf/Tally" "name" "Ljava/lang/String;" .null := f8.keep c18_0 (ninS ne_a_b4 nin0)
  have f23 : Fld Z T18.heap a "com/example/brelok/brelok/perf/Tally" "excludes" "Z" (.int (0 : Int32)) := f9.keep c18_0 (ninS ne_a_b4 nin0)
  have f24 : Fld Z T18.heap a "com/example/brelok/brelok/perf/Tally" "waiting" "D" (.double (0 : UInt64)) := f10.keep c18_0 (ninS ne_a_b4 nin0)
  have f25 : Fld Z T18.heap a "com/example/brelok/brelok/perf/Tally" "overlaps" "J" (.long (0 : Int64)) := f11.keep c18_0 (ninS ne_a_b4 nin0)
  have f26 : Fld Z T18.heap a "com/example/brelok/brelok/perf/Tally" "lostUpdates" "J" (.long (0 : Int64)) := f12.keep c18_0 (ninS ne_a_b4 nin0)
  have f27 : Old Z n0 T18.heap := f13.keep c18_0 (allS g_b4 all0)
  have f28 : Exa Z T18.heap b4 "java/util/ArrayList" := c18_1
  obtain ⟨T29, h29, X29, e29, W29, st29⟩ := putF X18 hx hZ hown (host := "") (Or.inl (hw _ (List.mem_of_getElem? (i := 41) rfl))) Via.refl rfl f20 f19 (Or.inr ⟨(hw _ (List.mem_of_getElem? (i := 42) rfl)), rfl, hnm⟩) (hw _ (List.mem_of_getElem? (i := 1) rfl)) (ty := (.object "java/util/List")) (by decide) rfl rfl (g := (mkF m 12 #[.val (.ref a), .val (.ref sa), .val (.int z)] [(.ref b4), (.ref a)])) rfl rfl (hb hby d1_12)
  have N29 := Fr.snoc X29 N18 g_a
  have Zs29 : n0 ≤ h29.size := by rw [W29.size]; exact Zs18
  have K29 : Keep h0 h29 [a] := K18.wr W29 (Or.inl (List.mem_of_getElem? (i := 0) rfl))
  have f30 : Exa Z h29 a "com/example/brelok/brelok/perf/Tally" := f19.wr W29
  have f31 : Fld Z h29 a "com/example/brelok/brelok/perf/Tally" "contended" "Ljava/util/List;" .null := f21.other W29 (Or.inr (slot_ne (Or.inr (hw _ (List.mem_of_getElem? (i := 44) rfl))) (Or.inr (hw _ (List.mem_of_getElem? (i := 42) rfl))) (by decide) (t := (.object "java/util/List")) (t' := (.object "java/util/List")) (by decide) (by decide)))
  have f32 : Fld Z h29 a "com/example/brelok/brelok/perf/Tally" "name" "Ljava/lang/String;" .null := f22.other W29 (Or.inr (slot_ne (Or.inr (hw _ (List.mem_of_getElem? (i := 46) rfl))) (Or.inr (hw _ (List.mem_of_getElem? (i := 42) rfl))) (by decide) (t := (.object "java/lang/String")) (t' := (.object "java/util/List")) (by decide) (by decide)))
  have f33 : Fld Z h29 a "com/example/brelok/brelok/perf/Tally" "excludes" "Z" (.int (0 : Int32)) := f23.other W29 (Or.inr (slot_ne (Or.inr (hw _ (List.mem_of_getElem? (i := 48) rfl))) (Or.inr (hw _ (List.mem_of_getElem? (i := 42) rfl))) (by decide) (t := .boolean) (t' := (.object "java/util/List")) (by decide) (by decide)))
  have f34 : Fld Z h29 a "com/example/brelok/brelok/perf/Tally" "waiting" "D" (.double (0 : UInt64)) := f24.other W29 (Or.inr (slot_ne (Or.inl (hw _ (List.mem_of_getElem? (i := 78) rfl))) (Or.inr (hw _ (List.mem_of_getElem? (i := 42) rfl))) (by decide) (t := .double) (t' := (.object "java/util/List")) (by decide) (by decide)))
  have f35 : Fld Z h29 a "com/example/brelok/brelok/perf/Tally" "overlaps" "J" (.long (0 : Int64)) := f25.other W29 (Or.inr (slot_ne (Or.inl (hw _ (List.mem_of_getElem? (i := 84) rfl))) (Or.inr (hw _ (List.mem_of_getElem? (i := 42) rfl))) (by decide) (t := .long) (t' := (.object "java/util/List")) (by decide) (by decide)))
  have f36 : Fld Z h29 a "com/example/brelok/brelok/perf/Tally" "lostUpdates" "J" (.long (0 : Int64)) := f26.other W29 (Or.inr (slot_ne (Or.inl (hw _ (List.mem_of_getElem? (i := 91) rfl))) (Or.inr (hw _ (List.mem_of_getElem? (i := 42) rfl))) (by decide) (t := .long) (t' := (.object "java/util/List")) (by decide) (by decide)))
  have f37 : Old Z n0 h29 := f27.wr W29 g_a
  have f38 : Exa Z h29 b4 "java/util/ArrayList" := f28.wr W29
  have f39 : Fld Z h29 a "com/example/brelok/brelok/perf/Tally" "solo" "Ljava/util/List;" (.ref b4) := f20.same W29
  have sg40 : ∀ target, Steps p.tables e below (T29.setTop (mkF m 16 #[.val (.ref a), .val (.ref sa), .val (.int z)] [(.ref a)])) target → Steps p.tables e below (T29.setTop (mkF m 15 #[.val (.ref a), .val (.ref sa), .val (.int z)] [])) target := by
    intro target kt
    show Steps p.tables e below (T29.setTop (mkF m 15 #[.val (.ref a), .val (.ref sa), .val (.int z)] [])) _
    refine XS.aloadN X29.here hx rfl (hb hby d1_15) rfl rfl ?_
    exact kt
  obtain ⟨T41, h41, X41, e41, E41, A41, D41, -, st41⟩ := newO X29 hx hZ hown (hw _ (List.mem_of_getElem? (i := 17) rfl)) (hw _ (List.mem_of_getElem? (i := 18) rfl)) (hw _ (List.mem_of_getElem? (i := 19) rfl)) e29 (g := (mkF m 16 #[.val (.ref a), .val (.ref sa), .val (.int z)] [(.ref a)])) rfl (hb hby d1_16) (by decide) (by decide)
  obtain ⟨b41, g41⟩ : ∃ z, z = h29.size := ⟨_, rfl⟩
  rw [← g41] at A41 D41 st41
  have g_b41 : n0 ≤ b41 := Nat.le_trans Zs29 (Nat.le_of_eq g41.symm)
  have sz_b41 : h0.size ≤ b41 := Nat.le_trans K29.1 (Nat.le_of_eq g41.symm)
  have ne_a_b41 : a ≠ b41 := Nat.ne_of_lt (Nat.lt_of_lt_of_le f30.lt (Nat.le_of_eq g41.symm))
  have ne_b4_b41 : b4 ≠ b41 := Nat.ne_of_lt (Nat.lt_of_lt_of_le f38.lt (Nat.le_of_eq g41.symm))
  have Zs41 : n0 ≤ h41.size := Nat.le_trans Zs29 E41.1
  have K41 : Keep h0 h41 [a] := K29.ext E41
  have f42 : Exa Z h41 a "com/example/brelok/brelok/perf/Tally" := f30.ext E41
  have f43 : Fld Z h41 a "com/example/brelok/brelok/perf/Tally" "solo" "Ljava/util/List;" (.ref b4) := f39.ext E41
  have f44 : Fld Z h41 a "com/example/brelok/brelok/perf/Tally" "contended" "Ljava/util/List;" .null := f31.ext E41
  have f45 : Fld Z h41 a "com/example/brelok/brelok/perf/Tally" "name" "Ljava/lang/String;" .null := f32.ext E41
  have f46 : Fld Z h41 a "com/example/brelok/brelok/perf/Tally" "excludes" "Z" (.int (0 : Int32)) := f33.ext E41
  have f47 : Fld Z h41 a "com/example/brelok/brelok/perf/Tally" "waiting" "D" (.double (0 : UInt64)) := f34.ext E41
  have f48 : Fld Z h41 a "com/example/brelok/brelok/perf/Tally" "overlaps" "J" (.long (0 : Int64)) := f35.ext E41
  have f49 : Fld Z h41 a "com/example/brelok/brelok/perf/Tally" "lostUpdates" "J" (.long (0 : Int64)) := f36.ext E41
  have f50 : Old Z n0 h41 := f37.ext E41
  have f51 : Exa Z h41 b4 "java/util/ArrayList" := f38.ext E41
  have f52 : Exa Z h41 b41 "java/util/ArrayList" := A41
  have f53 : Fld Z h41 b41 "java/util/AbstractList" "modCount" "I" (.int (0 : Int32)) := D41 (Or.inl (hw _ (List.mem_of_getElem? (i := 37) rfl))) (ty := .int) (by decide)
  have f54 : Fld Z h41 b41 "java/util/ArrayList" "elementData" "[Ljava/lang/Object;" .null := D41 (Or.inl (hw _ (List.mem_of_getElem? (i := 40) rfl))) (ty := (.array (.object "java/lang/Object"))) (by decide)
  have sg55 : ∀ target, Steps p.tables e below (T41.setTop (mkF m 20 #[.val (.ref a), .val (.ref sa), .val (.int z)] [(.ref b41), (.ref b41), (.ref a)])) target → Steps p.tables e below (T41.setTop (mkF m 19 #[.val (.ref a), .val (.ref sa), .val (.int z)] [(.ref b41), (.ref a)])) target := by
    intro target kt
    show Steps p.tables e below (T41.setTop (mkF m 19 #[.val (.ref a), .val (.ref sa), .val (.int z)] [(.ref b41), (.ref a)])) _
    refine XS.dup X41.here hx rfl (hb hby d1_19) rfl rfl ?_
    exact kt
  obtain ⟨_, _, ⟨T56, L56, k56, n56⟩, -, X56, ⟨Lc56, hQ56, l56, y56, z56⟩, st56⟩ := X41.specialBack hx (y := (⟨"java/util/ArrayList", "<init>", "()V"⟩ : MethodName)) rfl hown (mvT hZ (hw _ (List.mem_of_getElem? (i := 20) rfl))) (mvT hZ (hw _ (List.mem_of_getElem? (i := 21) rfl))) (mvT hZ (hw _ (List.mem_of_getElem? (i := 22) rfl))) (by decide) (backOf (W := 2) (rm3 l Z a0 hw [] b41 d0 h41 n0 Zs41 f52 f53 f54 g_b41 f50 S0) hZ (hw _ (List.mem_of_getElem? (i := 22) rfl)) (hw _ (List.mem_of_getElem? (i := 19) rfl)) (by decide) (by decide)) (g := (mkF m 20 #[.val (.ref a), .val (.ref sa), .val (.int z)] [(.ref b41), (.ref b41), (.ref a)])) rfl (by rw [hml]; rfl) (Steps.refl _) (a := b41) (argsL := []) (rest := [(.ref b41), (.ref a)]) (lenOf pd_3 rfl) rfl (by show 2 * 0 + _ ≤ _; exact Nat.le_of_eq rfl) (hb hby d1_20) (fun _ _ => ⟨rfl, e41, (by decide : 2 + 0 ≤ _), (by decide : 6 + 0 ≤ _)⟩)
  dsimp only [Pt.U, Pt.locs, Pt.cells, Pt.slots] at X56 l56 y56 z56 st56 hQ56
  subst l56 y56 z56
  obtain ⟨rfl, N56q, c56_0, c56_1⟩ := hQ56
  have N56 := Fr.app N29 N56q
  have Zs56 : n0 ≤ T56.heap.size := Nat.le_trans Zs41 c56_0.1
  have K56 : Keep h0 T56.heap [a] := K41.trans c56_0 (allS (Or.inr sz_b41) all0)
  have f57 : Exa Z T56.heap a "com/example/brelok/brelok/perf/Tally" := f42.keep c56_0
  have f58 : Fld Z T56.heap a "com/example/brelok/brelok/perf/Tally" "solo" "Ljava/util/List;" (.ref b4) := f43.keep c56_0 (ninS ne_a_b41 nin0)
  have f59 : Fld Z T56.heap a "com/example/brelok/brelok/perf/Tally" "contended" "Ljava/util/List;" .null := f44.keep c56_0 (ninS ne_a_b41 nin0)
  have f60 : Fld Z T56.heap a "com/example/brelok/brelok/perf/Tally" "name" "Ljava/lang/String;" .null := f45.keep c56_0 (ninS ne_a_b41 nin0)
  have f61 : Fld Z T56.heap a "com/example/brelok/brelok/perf/Tally" "excludes" "Z" (.int (0 : Int32)) := f46.keep c56_0 (ninS ne_a_b41 nin0)
  have f62 : Fld Z T56.heap a "com/example/brelok/brelok/perf/Tally" "waiting" "D" (.double (0 : UInt64)) := f47.keep c56_0 (ninS ne_a_b41 nin0)
  have f63 : Fld Z T56.heap a "com/example/brelok/brelok/perf/Tally" "overlaps" "J" (.long (0 : Int64)) := f48.keep c56_0 (ninS ne_a_b41 nin0)
  have f64 : Fld Z T56.heap a "com/example/brelok/brelok/perf/Tally" "lostUpdates" "J" (.long (0 : Int64)) := f49.keep c56_0 (ninS ne_a_b41 nin0)
  have f65 : Old Z n0 T56.heap := f50.keep c56_0 (allS g_b41 all0)
  have f66 : Exa Z T56.heap b4 "java/util/ArrayList" := f51.keep c56_0
  have f67 : Exa Z T56.heap b41 "java/util/ArrayList" := c56_1
  obtain ⟨T68, h68, X68, e68, W68, st68⟩ := putF X56 hx hZ hown (host := "") (Or.inl (hw _ (List.mem_of_getElem? (i := 43) rfl))) Via.refl rfl f59 f57 (Or.inr ⟨(hw _ (List.mem_of_getElem? (i := 44) rfl)), rfl, hnm⟩) (hw _ (List.mem_of_getElem? (i := 1) rfl)) (ty := (.object "java/util/List")) (by decide) rfl rfl (g := (mkF m 23 #[.val (.ref a), .val (.ref sa), .val (.int z)] [(.ref b41), (.ref a)])) rfl rfl (hb hby d1_23)
  have N68 := Fr.snoc X68 N56 g_a
  have Zs68 : n0 ≤ h68.size := by rw [W68.size]; exact Zs56
  have K68 : Keep h0 h68 [a] := K56.wr W68 (Or.inl (List.mem_of_getElem? (i := 0) rfl))
  have f69 : Exa Z h68 a "com/example/brelok/brelok/perf/Tally" := f57.wr W68
  have f70 : Fld Z h68 a "com/example/brelok/brelok/perf/Tally" "solo" "Ljava/util/List;" (.ref b4) := f58.other W68 (Or.inr (slot_ne (Or.inr (hw _ (List.mem_of_getElem? (i := 42) rfl))) (Or.inr (hw _ (List.mem_of_getElem? (i := 44) rfl))) (by decide) (t := (.object "java/util/List")) (t' := (.object "java/util/List")) (by decide) (by decide)))
  have f71 : Fld Z h68 a "com/example/brelok/brelok/perf/Tally" "name" "Ljava/lang/String;" .null := f60.other W68 (Or.inr (slot_ne (Or.inr (hw _ (List.mem_of_getElem? (i := 46) rfl))) (Or.inr (hw _ (List.mem_of_getElem? (i := 44) rfl))) (by decide) (t := (.object "java/lang/String")) (t' := (.object "java/util/List")) (by decide) (by decide)))
  have f72 : Fld Z h68 a "com/example/brelok/brelok/perf/Tally" "excludes" "Z" (.int (0 : Int32)) := f61.other W68 (Or.inr (slot_ne (Or.inr (hw _ (List.mem_of_getElem? (i := 48) rfl))) (Or.inr (hw _ (List.mem_of_getElem? (i := 44) rfl))) (by decide) (t := .boolean) (t' := (.object "java/util/List")) (by decide) (by decide)))
  have f73 : Fld Z h68 a "com/example/brelok/brelok/perf/Tally" "waiting" "D" (.double (0 : UInt64)) := f62.other W68 (Or.inr (slot_ne (Or.inl (hw _ (List.mem_of_getElem? (i := 78) rfl))) (Or.inr (hw _ (List.mem_of_getElem? (i := 44) rfl))) (by decide) (t := .double) (t' := (.object "java/util/List")) (by decide) (by decide)))
  have f74 : Fld Z h68 a "com/example/brelok/brelok/perf/Tally" "overlaps" "J" (.long (0 : Int64)) := f63.other W68 (Or.inr (slot_ne (Or.inl (hw _ (List.mem_of_getElem? (i := 84) rfl))) (Or.inr (hw _ (List.mem_of_getElem? (i := 44) rfl))) (by decide) (t := .long) (t' := (.object "java/util/List")) (by decide) (by decide)))
  have f75 : Fld Z h68 a "com/example/brelok/brelok/perf/Tally" "lostUpdates" "J" (.long (0 : Int64)) := f64.other W68 (Or.inr (slot_ne (Or.inl (hw _ (List.mem_of_getElem? (i := 91) rfl))) (Or.inr (hw _ (List.mem_of_getElem? (i := 44) rfl))) (by decide) (t := .long) (t' := (.object "java/util/List")) (by decide) (by decide)))
  have f76 : Old Z n0 h68 := f65.wr W68 g_a
  have f77 : Exa Z h68 b4 "java/util/ArrayList" := f66.wr W68
  have f78 : Exa Z h68 b41 "java/util/ArrayList" := f67.wr W68
  have f79 : Fld Z h68 a "com/example/brelok/brelok/perf/Tally" "contended" "Ljava/util/List;" (.ref b41) := f59.same W68
  have sg80 : ∀ target, Steps p.tables e below (T68.setTop (mkF m 28 #[.val (.ref a), .val (.ref sa), .val (.int z)] [(.ref sa), (.ref a)])) target → Steps p.tables e below (T68.setTop (mkF m 26 #[.val (.ref a), .val (.ref sa), .val (.int z)] [])) target := by
    intro target kt
    show Steps p.tables e below (T68.setTop (mkF m 26 #[.val (.ref a), .val (.ref sa), .val (.int z)] [])) _
    refine XS.aloadN X68.here hx rfl (hb hby d1_26) rfl rfl ?_
    show Steps p.tables e below (T68.setTop (mkF m 27 #[.val (.ref a), .val (.ref sa), .val (.int z)] [(.ref a)])) _
    refine XS.aloadN X68.here hx rfl (hb hby d1_27) rfl rfl ?_
    exact kt
  obtain ⟨T81, h81, X81, e81, W81, st81⟩ := putF X68 hx hZ hown (host := "") (Or.inl (hw _ (List.mem_of_getElem? (i := 45) rfl))) Via.refl e68 f71 f69 (Or.inr ⟨(hw _ (List.mem_of_getElem? (i := 46) rfl)), rfl, hnm⟩) (hw _ (List.mem_of_getElem? (i := 1) rfl)) (ty := (.object "java/lang/String")) (by decide) rfl rfl (g := (mkF m 28 #[.val (.ref a), .val (.ref sa), .val (.int z)] [(.ref sa), (.ref a)])) rfl rfl (hb hby d1_28)
  have N81 := Fr.snoc X81 N68 g_a
  have Zs81 : n0 ≤ h81.size := by rw [W81.size]; exact Zs68
  have K81 : Keep h0 h81 [a] := K68.wr W81 (Or.inl (List.mem_of_getElem? (i := 0) rfl))
  have f82 : Exa Z h81 a "com/example/brelok/brelok/perf/Tally" := f69.wr W81
  have f83 : Fld Z h81 a "com/example/brelok/brelok/perf/Tally" "solo" "Ljava/util/List;" (.ref b4) := f70.other W81 (Or.inr (slot_ne (Or.inr (hw _ (List.mem_of_getElem? (i := 42) rfl))) (Or.inr (hw _ (List.mem_of_getElem? (i := 46) rfl))) (by decide) (t := (.object "java/util/List")) (t' := (.object "java/lang/String")) (by decide) (by decide)))
  have f84 : Fld Z h81 a "com/example/brelok/brelok/perf/Tally" "contended" "Ljava/util/List;" (.ref b41) := f79.other W81 (Or.inr (slot_ne (Or.inr (hw _ (List.mem_of_getElem? (i := 44) rfl))) (Or.inr (hw _ (List.mem_of_getElem? (i := 46) rfl))) (by decide) (t := (.object "java/util/List")) (t' := (.object "java/lang/String")) (by decide) (by decide)))
  have f85 : Fld Z h81 a "com/example/brelok/brelok/perf/Tally" "excludes" "Z" (.int (0 : Int32)) := f72.other W81 (Or.inr (slot_ne (Or.inr (hw _ (List.mem_of_getElem? (i := 48) rfl))) (Or.inr (hw _ (List.mem_of_getElem? (i := 46) rfl))) (by decide) (t := .boolean) (t' := (.object "java/lang/String")) (by decide) (by decide)))
  have f86 : Fld Z h81 a "com/example/brelok/brelok/perf/Tally" "waiting" "D" (.double (0 : UInt64)) := f73.other W81 (Or.inr (slot_ne (Or.inl (hw _ (List.mem_of_getElem? (i := 78) rfl))) (Or.inr (hw _ (List.mem_of_getElem? (i := 46) rfl))) (by decide) (t := .double) (t' := (.object "java/lang/String")) (by decide) (by decide)))
  have f87 : Fld Z h81 a "com/example/brelok/brelok/perf/Tally" "overlaps" "J" (.long (0 : Int64)) := f74.other W81 (Or.inr (slot_ne (Or.inl (hw _ (List.mem_of_getElem? (i := 84) rfl))) (Or.inr (hw _ (List.mem_of_getElem? (i := 46) rfl))) (by decide) (t := .long) (t' := (.object "java/lang/String")) (by decide) (by decide)))
  have f88 : Fld Z h81 a "com/example/brelok/brelok/perf/Tally" "lostUpdates" "J" (.long (0 : Int64)) := f75.other W81 (Or.inr (slot_ne (Or.inl (hw _ (List.mem_of_getElem? (i := 91) rfl))) (Or.inr (hw _ (List.mem_of_getElem? (i := 46) rfl))) (by decide) (t := .long) (t' := (.object "java/lang/String")) (by decide) (by decide)))
  have f89 : Old Z n0 h81 := f76.wr W81 g_a
  have f90 : Exa Z h81 b4 "java/util/ArrayList" := f77.wr W81
  have f91 : Exa Z h81 b41 "java/util/ArrayList" := f78.wr W81
  have f92 : Fld Z h81 a "com/example/brelok/brelok/perf/Tally" "name" "Ljava/lang/String;" (.ref sa) := f71.same W81
  have sg93 : ∀ target, Steps p.tables e below (T81.setTop (mkF m 33 #[.val (.ref a), .val (.ref sa), .val (.int z)] [(.int z), (.ref a)])) target → Steps p.tables e below (T81.setTop (mkF m 31 #[.val (.ref a), .val (.ref sa), .val (.int z)] [])) target := by
    intro target kt
    show Steps p.tables e below (T81.setTop (mkF m 31 #[.val (.ref a), .val (.ref sa), .val (.int z)] [])) _
    refine XS.aloadN X81.here hx rfl (hb hby d1_31) rfl rfl ?_
    show Steps p.tables e below (T81.setTop (mkF m 32 #[.val (.ref a), .val (.ref sa), .val (.int z)] [(.ref a)])) _
    refine XS.iloadN X81.here hx rfl (hb hby d1_32) rfl ?_
    exact kt
  obtain ⟨T94, h94, X94, e94, W94, st94⟩ := putFN X81 hx hZ hown (hw _ (List.mem_of_getElem? (i := 47) rfl)) Via.refl e81 f85 f82 (Or.inr ⟨(hw _ (List.mem_of_getElem? (i := 48) rfl)), rfl, hnm⟩) (hw _ (List.mem_of_getElem? (i := 1) rfl)) (ty := .boolean) (v := (.int z)) (v' := .int (nar .boolean z)) (by decide) rfl (fits_nar_bool _) (g := (mkF m 33 #[.val (.ref a), .val (.ref sa), .val (.int z)] [(.int z), (.ref a)])) rfl rfl (hb hby d1_33)
  have N94 := Fr.snoc X94 N81 g_a
  have Zs94 : n0 ≤ h94.size := by rw [W94.size]; exact Zs81
  have K94 : Keep h0 h94 [a] := K81.wr W94 (Or.inl (List.mem_of_getElem? (i := 0) rfl))
  have f95 : Exa Z h94 a "com/example/brelok/brelok/perf/Tally" := f82.wr W94
  have f96 : Fld Z h94 a "com/example/brelok/brelok/perf/Tally" "solo" "Ljava/util/List;" (.ref b4) := f83.other W94 (Or.inr (slot_ne (Or.inr (hw _ (List.mem_of_getElem? (i := 42) rfl))) (Or.inr (hw _ (List.mem_of_getElem? (i := 48) rfl))) (by decide) (t := (.object "java/util/List")) (t' := .boolean) (by decide) (by decide)))
  have f97 : Fld Z h94 a "com/example/brelok/brelok/perf/Tally" "contended" "Ljava/util/List;" (.ref b41) := f84.other W94 (Or.inr (slot_ne (Or.inr (hw _ (List.mem_of_getElem? (i := 44) rfl))) (Or.inr (hw _ (List.mem_of_getElem? (i := 48) rfl))) (by decide) (t := (.object "java/util/List")) (t' := .boolean) (by decide) (by decide)))
  have f98 : Fld Z h94 a "com/example/brelok/brelok/perf/Tally" "name" "Ljava/lang/String;" (.ref sa) := f92.other W94 (Or.inr (slot_ne (Or.inr (hw _ (List.mem_of_getElem? (i := 46) rfl))) (Or.inr (hw _ (List.mem_of_getElem? (i := 48) rfl))) (by decide) (t := (.object "java/lang/String")) (t' := .boolean) (by decide) (by decide)))
  have f99 : Fld Z h94 a "com/example/brelok/brelok/perf/Tally" "waiting" "D" (.double (0 : UInt64)) := f86.other W94 (Or.inr (slot_ne (Or.inl (hw _ (List.mem_of_getElem? (i := 78) rfl))) (Or.inr (hw _ (List.mem_of_getElem? (i := 48) rfl))) (by decide) (t := .double) (t' := .boolean) (by decide) (by decide)))
  have f100 : Fld Z h94 a "com/example/brelok/brelok/perf/Tally" "overlaps" "J" (.long (0 : Int64)) := f87.other W94 (Or.inr (slot_ne (Or.inl (hw _ (List.mem_of_getElem? (i := 84) rfl))) (Or.inr (hw _ (List.mem_of_getElem? (i := 48) rfl))) (by decide) (t := .long) (t' := .boolean) (by decide) (by decide)))
  have f101 : Fld Z h94 a "com/example/brelok/brelok/perf/Tally" "lostUpdates" "J" (.long (0 : Int64)) := f88.other W94 (Or.inr (slot_ne (Or.inl (hw _ (List.mem_of_getElem? (i := 91) rfl))) (Or.inr (hw _ (List.mem_of_getElem? (i := 48) rfl))) (by decide) (t := .long) (t' := .boolean) (by decide) (by decide)))
  have f102 : Old Z n0 h94 := f89.wr W94 g_a
  have f103 : Exa Z h94 b4 "java/util/ArrayList" := f90.wr W94
  have f104 : Exa Z h94 b41 "java/util/ArrayList" := f91.wr W94
  have f105 : Fld Z h94 a "com/example/brelok/brelok/perf/Tally" "excludes" "Z" (.int (nar .boolean z)) := f85.same W94
  obtain ⟨fs, hr, hrun, hended, hW, hsame⟩ := X94.leave (v := none) (fun _ => rfl)
  refine ⟨_, _, pre0 _ ?_, hrun, hended, _, _, rfl, ?_, ⟨_, rfl⟩, hW, hsame.mono (by decide) (by decide)⟩
  · show Steps p.tables e below (s₁.setTop (mkF m 0 #[.val (.ref a), .val (.ref sa), .val (.int z)] [])) _
    refine sg1 _ ?_
    refine st2 _ ?_
    refine sg3 _ ?_
    refine st4 _ ?_
    refine sg17 _ ?_
    refine st18.trans ?_
    refine st29 _ ?_
    refine sg40 _ ?_
    refine st41 _ ?_
    refine sg55 _ ?_
    refine st56.trans ?_
    refine st68 _ ?_
    refine sg80 _ ?_
    refine st81 _ ?_
    refine sg93 _ ?_
    refine st94 _ ?_
    show Steps p.tables e below (T94.setTop (mkF m 36 #[.val (.ref a), .val (.ref sa), .val (.int z)] [])) _
    exact X94.returnOut hx Bd.returns (hb hby d1_36) hr
  · show Q_rm1 Z a sa z d0 h0 n0 _ T94.heap _
    rw [e94]
    exact ⟨rfl, N94, K94, f95, f105, f99, f100, f101⟩
theorem d6_0 : decode prog_37_method_1_code 0 = .ok (.aload_n 0, 1) := by decide +kernel
theorem d6_1 : decode prog_37_method_1_code 1 = .ok (.invokespecial 1, 3) := by decide +kernel
theorem d6_4 : decode prog_37_method_1_code 4 = .ok (.aload_n 0, 1) := by decide +kernel
theorem d6_5 : decode prog_37_method_1_code 5 = .ok (.dload_n 1, 1) := by decide +kernel
theorem d6_6 : decode prog_37_method_1_code 6 = .ok (.putfield 7, 3) := by decide +kernel
theorem d6_9 : decode prog_37_method_1_code 9 = .ok (.aload_n 0, 1) := by decide +kernel
theorem d6_10 : decode prog_37_method_1_code 10 = .ok (.lload_n 3, 1) := by decide +kernel
theorem d6_11 : decode prog_37_method_1_code 11 = .ok (.putfield 13, 3) := by decide +kernel
theorem d6_14 : decode prog_37_method_1_code 14 = .ok (.aload_n 0, 1) := by decide +kernel
theorem d6_15 : decode prog_37_method_1_code 15 = .ok (.lload 5, 2) := by decide +kernel
theorem d6_17 : decode prog_37_method_1_code 17 = .ok (.putfield 17, 3) := by decide +kernel
theorem d6_20 : decode prog_37_method_1_code 20 = .ok (.return_, 1) := by decide +kernel
theorem pn_6 : plainName "com/example/brelok/brelok/perf/Timing$Measure" = true := by first | (simp [plainName, overriddenIn]; done) | decide +kernel
theorem ef_rm6 (m : MethodId) (x0 : Addr) (x1 : UInt64) (x2 : Int64) (x3 : Int64) : entryFrame m #[(.ref x0), (.double x1), (.long x2), (.long x3)] 7 = mkF m 0 #[.val (.ref x0), .val (.double x1), .second, .val (.long x2), .second, .val (.long x3), .second] [] := by first | (simp [entryFrame, mkF, argsToLocals, Value.category]; done) | rfl
def Q_rm6 (Z : State) (a : Addr) (fg : UInt64) (ov : Int64) (lu : Int64) (h0 : Heap) (n0 : Nat) (rv : Option Value) (h : Heap) (L : List Loc) : Prop := rv = none ∧ Fr n0 L ∧ Keep h0 h [a] ∧ Exa Z h a "com/example/brelok/brelok/perf/Timing$Measure" ∧ Fld Z h a "com/example/brelok/brelok/perf/Timing$Measure" "figure" "D" (.double fg) ∧ Fld Z h a "com/example/brelok/brelok/perf/Timing$Measure" "overlaps" "J" (.long ov) ∧ Fld Z h a "com/example/brelok/brelok/perf/Timing$Measure" "lostUpdates" "J" (.long lu)
set_option maxRecDepth 65536 in
set_option maxHeartbeats 40000000 in
theorem rm6 (l : Launch) (Z : State) (a0 : Array Value) (hw : ∀ d ∈ tables_1, d.before a0 Z = true) (ws : List Jvm.Cond) (a : Addr) (fg : UInt64) (ov : Int64) (lu : Int64) (h0 : Heap) (n0 : Nat) (Z0 : n0 ≤ h0.size) (E_a : Exa Z h0 a "com/example/brelok/brelok/perf/Timing$Measure") (F_figure : Fld Z h0 a "com/example/brelok/brelok/perf/Timing$Measure" "figure" "D" (.double (0 : UInt64))) (F_overlaps : Fld Z h0 a "com/example/brelok/brelok/perf/Timing$Measure" "overlaps" "J" (.long (0 : Int64))) (F_lostUpdates : Fld Z h0 a "com/example/brelok/brelok/perf/Timing$Measure" "lostUpdates" "J" (.long (0 : Int64))) (g_a : n0 ≤ a) :
    MetFree l (⟨"com/example/brelok/brelok/perf/Timing$Measure", "<init>", "(DJJ)V"⟩ : MethodName) (head1 (Jvm.Cond.code (⟨"com/example/brelok/brelok/perf/Timing$Measure", "<init>", "(DJJ)V"⟩ : MethodName) prog_37_method_1_code 7 none :: ws) ({ frames := 2, cells := 0, slots := 0, locals := 24 } : Room)) (fun av U => av = #[(.ref a), (.double fg), (.long ov), (.long lu)] ∧ Z.Warmed39 U.vm ∧ U.heap = h0) (fun _ _ _ _ _ => True) (fun _ U o U' => ∃ rv L, o = .returned rv ∧ Q_rm6 Z a fg ov lu h0 n0 rv U'.heap L ∧ FrameEnd U o U' L ({ frames := 2, cells := 0, slots := 0, locals := 24 } : Room).cells ({ frames := 2, cells := 0, slots := 0, locals := 24 } : Room).slots) := by
  refine MetFree.of_bodySF (plainFor_of_name pn_6) hisR ?_
  intro p e s m args below meth c s₁ Bd hml0 hP hK
  obtain ⟨rfl, hZ, hh⟩ := hP
  have hx := Bd.exec
  have hby := Bd.bytes
  have hml : c.maxLocals = 7 := hml0
  have hown : s.vm.findClass "com/example/brelok/brelok/perf/Timing$Measure" = some m.cls := findClass_of_methodNamed Bd.named
  have hnm := (name_of_methodNamed Bd.named Bd.method).1
  have X0 : Stand p l e ({ frames := 2, cells := 0, slots := 0, locals := 24 } : Room) s m #[(.ref a), (.double fg), (.long ov), (.long lu)] below meth c s₁ [] 0 0 := Stand.of_body Bd
  have e0 : s₁.heap = h0 := by rw [← hh, Bd.state]; rfl
  have N0 := Fr.nil n0
  have pre0 : ∀ t, Steps p.tables e below (s₁.setTop (mkF m 0 #[.val (.ref a), .val (.double fg), .second, .val (.long ov), .second, .val (.long lu), .second] [])) t → Steps p.tables e below (s₁.setTop (entryFrame m #[(.ref a), (.double fg), (.long ov), (.long lu)] 7)) t := fun t k => castTop (ef_rm6 m a fg ov lu) k
  have sg1 : ∀ target, Steps p.tables e below (s₁.setTop (mkF m 1 #[.val (.ref a), .val (.double fg), .second, .val (.long ov), .second, .val (.long lu), .second] [(.ref a)])) target → Steps p.tables e below (s₁.setTop (mkF m 0 #[.val (.ref a), .val (.double fg), .second, .val (.long ov), .second, .val (.long lu), .second] [])) target := by
    intro target kt
    show Steps p.tables e below (s₁.setTop (mkF m 0 #[.val (.ref a), .val (.double fg), .second, .val (.long ov), .second, .val (.long lu), .second] [])) _
    refine XS.aloadN X0.here hx rfl (hb hby d6_0) rfl rfl ?_
    exact kt
  obtain ⟨_, _, ⟨T2, L2, k2, n2⟩, -, X2, ⟨Lc2, hQ2, l2, y2, z2⟩, st2⟩ := X0.specialBack hx (y := (⟨"java/lang/Record", "<init>", "()V"⟩ : MethodName)) rfl hown (mvT hZ (hw _ (List.mem_of_getElem? (i := 55) rfl))) (mvT hZ (hw _ (List.mem_of_getElem? (i := 56) rfl))) (mvT hZ (hw _ (List.mem_of_getElem? (i := 59) rfl))) (by decide) (backOf (W := 0) (rm7 l Z a0 hw [] a h0 n0 Z0 ) hZ (hw _ (List.mem_of_getElem? (i := 59) rfl)) (hw _ (List.mem_of_getElem? (i := 58) rfl)) (by decide) (by decide)) (g := (mkF m 1 #[.val (.ref a), .val (.double fg), .second, .val (.long ov), .second, .val (.long lu), .second] [(.ref a)])) rfl (by rw [hml]; rfl) (Steps.refl _) (a := a) (argsL := []) (rest := []) (lenOf pd_3 rfl) rfl (by show 2 * 0 + _ ≤ _; exact Nat.le_of_eq rfl) (hb hby d6_1) (fun _ _ => ⟨rfl, e0, (by decide : 0 + 0 ≤ _), (by decide : 0 + 0 ≤ _)⟩)
  dsimp only [Pt.U, Pt.locs, Pt.cells, Pt.slots] at X2 l2 y2 z2 st2 hQ2
  subst l2 y2 z2
  obtain ⟨rfl, N2q, c2_0⟩ := hQ2
  have N2 := Fr.app N0 N2q
  have sg3 : ∀ target, Steps p.tables e below (T2.setTop (mkF m 6 #[.val (.ref a), .val (.double fg), .second, .val (.long ov), .second, .val (.long lu), .second] [(.double fg), (.ref a)])) target → Steps p.tables e below (T2.setTop (mkF m 4 #[.val (.ref a), .val (.double fg), .second, .val (.long ov), .second, .val (.long lu), .second] [])) target := by
    intro target kt
    show Steps p.tables e below (T2.setTop (mkF m 4 #[.val (.ref a), .val (.double fg), .second, .val (.long ov), .second, .val (.long lu), .second] [])) _
    refine XS.aloadN X2.here hx rfl (hb hby d6_4) rfl rfl ?_
    show Steps p.tables e below (T2.setTop (mkF m 5 #[.val (.ref a), .val (.double fg), .second, .val (.long ov), .second, .val (.long lu), .second] [(.ref a)])) _
    refine XS.dloadN X2.here hx rfl (hb hby d6_5) rfl ?_
    exact kt
  obtain ⟨T4, h4, X4, e4, W4, st4⟩ := putF X2 hx hZ hown (host := "") (Or.inl (hw _ (List.mem_of_getElem? (i := 61) rfl))) Via.refl c2_0 F_figure E_a (Or.inr ⟨(hw _ (List.mem_of_getElem? (i := 62) rfl)), rfl, hnm⟩) (hw _ (List.mem_of_getElem? (i := 50) rfl)) (ty := .double) (by decide) rfl rfl (g := (mkF m 6 #[.val (.ref a), .val (.double fg), .second, .val (.long ov), .second, .val (.long lu), .second] [(.double fg), (.ref a)])) rfl rfl (hb hby d6_6)
  have N4 := Fr.snoc X4 N2 g_a
  have Zs4 : n0 ≤ h4.size := by rw [W4.size]; exact Z0
  have K4 : Keep h0 h4 [a] := (Keep.refl h0 [a]).wr W4 (Or.inl (List.mem_of_getElem? (i := 0) rfl))
  have f5 : Exa Z h4 a "com/example/brelok/brelok/perf/Timing$Measure" := E_a.wr W4
  have f6 : Fld Z h4 a "com/example/brelok/brelok/perf/Timing$Measure" "overlaps" "J" (.long (0 : Int64)) := F_overlaps.other W4 (Or.inr (slot_ne (Or.inr (hw _ (List.mem_of_getElem? (i := 64) rfl))) (Or.inr (hw _ (List.mem_of_getElem? (i := 62) rfl))) (by decide) (t := .long) (t' := .double) (by decide) (by decide)))
  have f7 : Fld Z h4 a "com/example/brelok/brelok/perf/Timing$Measure" "lostUpdates" "J" (.long (0 : Int64)) := F_lostUpdates.other W4 (Or.inr (slot_ne (Or.inr (hw _ (List.mem_of_getElem? (i := 66) rfl))) (Or.inr (hw _ (List.mem_of_getElem? (i := 62) rfl))) (by decide) (t := .long) (t' := .double) (by decide) (by decide)))
  have f8 : Fld Z h4 a "com/example/brelok/brelok/perf/Timing$Measure" "figure" "D" (.double fg) := F_figure.same W4
  have sg9 : ∀ target, Steps p.tables e below (T4.setTop (mkF m 11 #[.val (.ref a), .val (.double fg), .second, .val (.long ov), .second, .val (.long lu), .second] [(.long ov), (.ref a)])) target → Steps p.tables e below (T4.setTop (mkF m 9 #[.val (.ref a), .val (.double fg), .second, .val (.long ov), .second, .val (.long lu), .second] [])) target := by
    intro target kt
    show Steps p.tables e below (T4.setTop (mkF m 9 #[.val (.ref a), .val (.double fg), .second, .val (.long ov), .second, .val (.long lu), .second] [])) _
    refine XS.aloadN X4.here hx rfl (hb hby d6_9) rfl rfl ?_
    show Steps p.tables e below (T4.setTop (mkF m 10 #[.val (.ref a), .val (.double fg), .second, .val (.long ov), .second, .val (.long lu), .second] [(.ref a)])) _
    refine XS.lloadN X4.here hx rfl (hb hby d6_10) rfl ?_
    exact kt
  obtain ⟨T10, h10, X10, e10, W10, st10⟩ := putF X4 hx hZ hown (host := "") (Or.inl (hw _ (List.mem_of_getElem? (i := 63) rfl))) Via.refl e4 f6 f5 (Or.inr ⟨(hw _ (List.mem_of_getElem? (i := 64) rfl)), rfl, hnm⟩) (hw _ (List.mem_of_getElem? (i := 50) rfl)) (ty := .long) (by decide) rfl rfl (g := (mkF m 11 #[.val (.ref a), .val (.double fg), .second, .val (.long ov), .second, .val (.long lu), .second] [(.long ov), (.ref a)])) rfl rfl (hb hby d6_11)
  have N10 := Fr.snoc X10 N4 g_a
  have Zs10 : n0 ≤ h10.size := by rw [W10.size]; exact Zs4
  have K10 : Keep h0 h10 [a] := K4.wr W10 (Or.inl (List.mem_of_getElem? (i := 0) rfl))
  have f11 : Exa Z h10 a "com/example/brelok/brelok/perf/Timing$Measure" := f5.wr W10
  have f12 : Fld Z h10 a "com/example/brelok/brelok/perf/Timing$Measure" "figure" "D" (.double fg) := f8.other W10 (Or.inr (slot_ne (Or.inr (hw _ (List.mem_of_getElem? (i := 62) rfl))) (Or.inr (hw _ (List.mem_of_getElem? (i := 64) rfl))) (by decide) (t := .double) (t' := .long) (by decide) (by decide)))
  have f13 : Fld Z h10 a "com/example/brelok/brelok/perf/Timing$Measure" "lostUpdates" "J" (.long (0 : Int64)) := f7.other W10 (Or.inr (slot_ne (Or.inr (hw _ (List.mem_of_getElem? (i := 66) rfl))) (Or.inr (hw _ (List.mem_of_getElem? (i := 64) rfl))) (by decide) (t := .long) (t' := .long) (by decide) (by decide)))
  have f14 : Fld Z h10 a "com/example/brelok/brelok/perf/Timing$Measure" "overlaps" "J" (.long ov) := f6.same W10
  have sg15 : ∀ target, Steps p.tables e below (T10.setTop (mkF m 17 #[.val (.ref a), .val (.double fg), .second, .val (.long ov), .second, .val (.long lu), .second] [(.long lu), (.ref a)])) target → Steps p.tables e below (T10.setTop (mkF m 14 #[.val (.ref a), .val (.double fg), .second, .val (.long ov), .second, .val (.long lu), .second] [])) target := by
    intro target kt
    show Steps p.tables e below (T10.setTop (mkF m 14 #[.val (.ref a), .val (.double fg), .second, .val (.long ov), .second, .val (.long lu), .second] [])) _
    refine XS.aloadN X10.here hx rfl (hb hby d6_14) rfl rfl ?_
    show Steps p.tables e below (T10.setTop (mkF m 15 #[.val (.ref a), .val (.double fg), .second, .val (.long ov), .second, .val (.long lu), .second] [(.ref a)])) _
    refine XS.lload X10.here hx rfl (hb hby d6_15) rfl ?_
    exact kt
  obtain ⟨T16, h16, X16, e16, W16, st16⟩ := putF X10 hx hZ hown (host := "") (Or.inl (hw _ (List.mem_of_getElem? (i := 65) rfl))) Via.refl e10 f13 f11 (Or.inr ⟨(hw _ (List.mem_of_getElem? (i := 66) rfl)), rfl, hnm⟩) (hw _ (List.mem_of_getElem? (i := 50) rfl)) (ty := .long) (by decide) rfl rfl (g := (mkF m 17 #[.val (.ref a), .val (.double fg), .second, .val (.long ov), .second, .val (.long lu), .second] [(.long lu), (.ref a)])) rfl rfl (hb hby d6_17)
  have N16 := Fr.snoc X16 N10 g_a
  have Zs16 : n0 ≤ h16.size := by rw [W16.size]; exact Zs10
  have K16 : Keep h0 h16 [a] := K10.wr W16 (Or.inl (List.mem_of_getElem? (i := 0) rfl))
  have f17 : Exa Z h16 a "com/example/brelok/brelok/perf/Timing$Measure" := f11.wr W16
  have f18 : Fld Z h16 a "com/example/brelok/brelok/perf/Timing$Measure" "figure" "D" (.double fg) := f12.other W16 (Or.inr (slot_ne (Or.inr (hw _ (List.mem_of_getElem? (i := 62) rfl))) (Or.inr (hw _ (List.mem_of_getElem? (i := 66) rfl))) (by decide) (t := .double) (t' := .long) (by decide) (by decide)))
  have f19 : Fld Z h16 a "com/example/brelok/brelok/perf/Timing$Measure" "overlaps" "J" (.long ov) := f14.other W16 (Or.inr (slot_ne (Or.inr (hw _ (List.mem_of_getElem? (i := 64) rfl))) (Or.inr (hw _ (List.mem_of_getElem? (i := 66) rfl))) (by decide) (t := .long) (t' := .long) (by decide) (by decide)))
  have f20 : Fld Z h16 a "com/example/brelok/brelok/perf/Timing$Measure" "lostUpdates" "J" (.long lu) := f13.same W16
  obtain ⟨fs, hr, hrun, hended, hW, hsame⟩ := X16.leave (v := none) (fun _ => rfl)
  refine ⟨_, _, pre0 _ ?_, hrun, hended, _, _, rfl, ?_, ⟨_, rfl⟩, hW, hsame.mono (by decide) (by decide)⟩
  · show Steps p.tables e below (s₁.setTop (mkF m 0 #[.val (.ref a), .val (.double fg), .second, .val (.long ov), .second, .val (.long lu), .second] [])) _
    refine sg1 _ ?_
    refine st2.trans ?_
    refine sg3 _ ?_
    refine st4 _ ?_
    refine sg9 _ ?_
    refine st10 _ ?_
    refine sg15 _ ?_
    refine st16 _ ?_
    show Steps p.tables e below (T16.setTop (mkF m 20 #[.val (.ref a), .val (.double fg), .second, .val (.long ov), .second, .val (.long lu), .second] [])) _
    exact X16.returnOut hx Bd.returns (hb hby d6_20) hr
  · show Q_rm6 Z a fg ov lu h0 n0 _ T16.heap _
    rw [e16]
    exact ⟨rfl, N16, K16, f17, f18, f19, f20⟩
theorem d9_0 : decode prog_37_method_5_code 0 = .ok (.aload_n 0, 1) := by decide +kernel
theorem d9_1 : decode prog_37_method_5_code 1 = .ok (.getfield 7, 3) := by decide +kernel
theorem d9_4 : decode prog_37_method_5_code 4 = .ok (.dreturn, 1) := by decide +kernel
theorem pn_9 : plainName "com/example/brelok/brelok/perf/Timing$Measure" = true := by first | (simp [plainName, overriddenIn]; done) | decide +kernel
theorem ef_rm9 (m : MethodId) (x0 : Addr) : entryFrame m #[(.ref x0)] 1 = mkF m 0 #[.val (.ref x0)] [] := by first | (simp [entryFrame, mkF, argsToLocals, Value.category]; done) | rfl
def Q_rm9 (Z : State) (a : Addr) (v : UInt64) (h0 : Heap) (n0 : Nat) (rv : Option Value) (h : Heap) (L : List Loc) : Prop := rv = some (.double v) ∧ Fr n0 L ∧ h = h0
set_option maxRecDepth 65536 in
set_option maxHeartbeats 40000000 in
theorem rm9 (l : Launch) (Z : State) (a0 : Array Value) (hw : ∀ d ∈ tables_1, d.before a0 Z = true) (ws : List Jvm.Cond) (a : Addr) (v : UInt64) (h0 : Heap) (n0 : Nat) (Z0 : n0 ≤ h0.size) (F1 : Fld Z h0 a "com/example/brelok/brelok/perf/Timing$Measure" "figure" "D" (.double v)) :
    MetFree l (⟨"com/example/brelok/brelok/perf/Timing$Measure", "figure", "()D"⟩ : MethodName) (head1 (Jvm.Cond.code (⟨"com/example/brelok/brelok/perf/Timing$Measure", "figure", "()D"⟩ : MethodName) prog_37_method_5_code 1 (some .double) :: ws) ({ frames := 0, cells := 0, slots := 0, locals := 0 } : Room)) (fun av U => av = #[(.ref a)] ∧ Z.Warmed39 U.vm ∧ U.heap = h0) (fun _ _ _ _ _ => True) (fun _ U o U' => ∃ rv L, o = .returned rv ∧ Q_rm9 Z a v h0 n0 rv U'.heap L ∧ FrameEnd U o U' L ({ frames := 0, cells := 0, slots := 0, locals := 0 } : Room).cells ({ frames := 0, cells := 0, slots := 0, locals := 0 } : Room).slots) := by
  refine MetFree.of_bodySF (plainFor_of_name pn_9) hisR ?_
  intro p e s m args below meth c s₁ Bd hml0 hP hK
  obtain ⟨rfl, hZ, hh⟩ := hP
  have hx := Bd.exec
  have hby := Bd.bytes
  have hml : c.maxLocals = 1 := hml0
  have hown : s.vm.findClass "com/example/brelok/brelok/perf/Timing$Measure" = some m.cls := findClass_of_methodNamed Bd.named
  have hnm := (name_of_methodNamed Bd.named Bd.method).1
  have X0 : Stand p l e ({ frames := 0, cells := 0, slots := 0, locals := 0 } : Room) s m #[(.ref a)] below meth c s₁ [] 0 0 := Stand.of_body Bd
  have e0 : s₁.heap = h0 := by rw [← hh, Bd.state]; rfl
  have N0 := Fr.nil n0
  have pre0 : ∀ t, Steps p.tables e below (s₁.setTop (mkF m 0 #[.val (.ref a)] [])) t → Steps p.tables e below (s₁.setTop (entryFrame m #[(.ref a)] 1)) t := fun t k => castTop (ef_rm9 m a) k
  have sg1 : ∀ target, Steps p.tables e below (s₁.setTop (mkF m 1 #[.val (.ref a)] [(.ref a)])) target → Steps p.tables e below (s₁.setTop (mkF m 0 #[.val (.ref a)] [])) target := by
    intro target kt
    show Steps p.tables e below (s₁.setTop (mkF m 0 #[.val (.ref a)] [])) _
    refine XS.aloadN X0.here hx rfl (hb hby d9_0) rfl rfl ?_
    exact kt
  obtain ⟨T2, X2, e2, st2⟩ := getF X0 hx hZ hown (host := "") (Or.inl (hw _ (List.mem_of_getElem? (i := 61) rfl))) Via.refl e0 F1 (g := (mkF m 1 #[.val (.ref a)] [(.ref a)])) rfl rfl (hb hby d9_1)
  obtain ⟨fs, hr, hrun, hended, hW, hsame⟩ := X2.leave (v := some (.double v)) (fun h => by rw [Bd.returns] at h; cases h)
  refine ⟨_, _, pre0 _ ?_, hrun, hended, _, _, rfl, ?_, ⟨_, rfl⟩, hW, hsame.mono (by decide) (by decide)⟩
  · show Steps p.tables e below (s₁.setTop (mkF m 0 #[.val (.ref a)] [])) _
    refine sg1 _ ?_
    refine st2 _ ?_
    show Steps p.tables e below (T2.setTop (mkF m 4 #[.val (.ref a)] [(.double v)])) _
    exact retOut X2 hx Bd.returns rfl (Or.inr (Or.inr (Or.inl ⟨rfl, rfl, _, rfl⟩))) (hb hby d9_4) hr
  · show Q_rm9 Z a v h0 n0 _ T2.heap _
    rw [e2]
    exact ⟨rfl, N0, rfl⟩
theorem d11_0 : decode prog_37_method_6_code 0 = .ok (.aload_n 0, 1) := by decide +kernel
theorem d11_1 : decode prog_37_method_6_code 1 = .ok (.getfield 13, 3) := by decide +kernel
theorem d11_4 : decode prog_37_method_6_code 4 = .ok (.lreturn, 1) := by decide +kernel
theorem pn_11 : plainName "com/example/brelok/brelok/perf/Timing$Measure" = true := by first | (simp [plainName, overriddenIn]; done) | decide +kernel
theorem ef_rm11 (m : MethodId) (x0 : Addr) : entryFrame m #[(.ref x0)] 1 = mkF m 0 #[.val (.ref x0)] [] := by first | (simp [entryFrame, mkF, argsToLocals, Value.category]; done) | rfl
def Q_rm11 (Z : State) (a : Addr) (v : Int64) (h0 : Heap) (n0 : Nat) (rv : Option Value) (h : Heap) (L : List Loc) : Prop := rv = some (.long v) ∧ Fr n0 L ∧ h = h0
set_option maxRecDepth 65536 in
set_option maxHeartbeats 40000000 in
theorem rm11 (l : Launch) (Z : State) (a0 : Array Value) (hw : ∀ d ∈ tables_1, d.before a0 Z = true) (ws : List Jvm.Cond) (a : Addr) (v : Int64) (h0 : Heap) (n0 : Nat) (Z0 : n0 ≤ h0.size) (F1 : Fld Z h0 a "com/example/brelok/brelok/perf/Timing$Measure" "overlaps" "J" (.long v)) :
    MetFree l (⟨"com/example/brelok/brelok/perf/Timing$Measure", "overlaps", "()J"⟩ : MethodName) (head1 (Jvm.Cond.code (⟨"com/example/brelok/brelok/perf/Timing$Measure", "overlaps", "()J"⟩ : MethodName) prog_37_method_6_code 1 (some .long) :: ws) ({ frames := 0, cells := 0, slots := 0, locals := 0 } : Room)) (fun av U => av = #[(.ref a)] ∧ Z.Warmed39 U.vm ∧ U.heap = h0) (fun _ _ _ _ _ => True) (fun _ U o U' => ∃ rv L, o = .returned rv ∧ Q_rm11 Z a v h0 n0 rv U'.heap L ∧ FrameEnd U o U' L ({ frames := 0, cells := 0, slots := 0, locals := 0 } : Room).cells ({ frames := 0, cells := 0, slots := 0, locals := 0 } : Room).slots) := by
  refine MetFree.of_bodySF (plainFor_of_name pn_11) hisR ?_
  intro p e s m args below meth c s₁ Bd hml0 hP hK
  obtain ⟨rfl, hZ, hh⟩ := hP
  have hx := Bd.exec
  have hby := Bd.bytes
  have hml : c.maxLocals = 1 := hml0
  have hown : s.vm.findClass "com/example/brelok/brelok/perf/Timing$Measure" = some m.cls := findClass_of_methodNamed Bd.named
  have hnm := (name_of_methodNamed Bd.named Bd.method).1
  have X0 : Stand p l e ({ frames := 0, cells := 0, slots := 0, locals := 0 } : Room) s m #[(.ref a)] below meth c s₁ [] 0 0 := Stand.of_body Bd
  have e0 : s₁.heap = h0 := by rw [← hh, Bd.state]; rfl
  have N0 := Fr.nil n0
  have pre0 : ∀ t, Steps p.tables e below (s₁.setTop (mkF m 0 #[.val (.ref a)] [])) t → Steps p.tables e below (s₁.setTop (entryFrame m #[(.ref a)] 1)) t := fun t k => castTop (ef_rm11 m a) k
  have sg1 : ∀ target, Steps p.tables e below (s₁.setTop (mkF m 1 #[.val (.ref a)] [(.ref a)])) target → Steps p.tables e below (s₁.setTop (mkF m 0 #[.val (.ref a)] [])) target := by
    intro target kt
    show Steps p.tables e below (s₁.setTop (mkF m 0 #[.val (.ref a)] [])) _
    refine XS.aloadN X0.here hx rfl (hb hby d11_0) rfl rfl ?_
    exact kt
  obtain ⟨T2, X2, e2, st2⟩ := getF X0 hx hZ hown (host := "") (Or.inl (hw _ (List.mem_of_getElem? (i := 63) rfl))) Via.refl e0 F1 (g := (mkF m 1 #[.val (.ref a)] [(.ref a)])) rfl rfl (hb hby d11_1)
  obtain ⟨fs, hr, hrun, hended, hW, hsame⟩ := X2.leave (v := some (.long v)) (fun h => by rw [Bd.returns] at h; cases h)
  refine ⟨_, _, pre0 _ ?_, hrun, hended, _, _, rfl, ?_, ⟨_, rfl⟩, hW, hsame.mono (by decide) (by decide)⟩
  · show Steps p.tables e below (s₁.setTop (mkF m 0 #[.val (.ref a)] [])) _
    refine sg1 _ ?_
    refine st2 _ ?_
    show Steps p.tables e below (T2.setTop (mkF m 4 #[.val (.ref a)] [(.long v)])) _
    exact retOut X2 hx Bd.returns rfl (Or.inr (Or.inl ⟨rfl, rfl, _, rfl⟩)) (hb hby d11_4) hr
  · show Q_rm11 Z a v h0 n0 _ T2.heap _
    rw [e2]
    exact ⟨rfl, N0, rfl⟩
theorem d12_0 : decode prog_37_method_7_code 0 = .ok (.aload_n 0, 1) := by decide +kernel
theorem d12_1 : decode prog_37_method_7_code 1 = .ok (.getfield 17, 3) := by decide +kernel
theorem d12_4 : decode prog_37_method_7_code 4 = .ok (.lreturn, 1) := by decide +kernel
theorem pn_12 : plainName "com/example/brelok/brelok/perf/Timing$Measure" = true := by first | (simp [plainName, overriddenIn]; done) | decide +kernel
theorem ef_rm12 (m : MethodId) (x0 : Addr) : entryFrame m #[(.ref x0)] 1 = mkF m 0 #[.val (.ref x0)] [] := by first | (simp [entryFrame, mkF, argsToLocals, Value.category]; done) | rfl
def Q_rm12 (Z : State) (a : Addr) (v : Int64) (h0 : Heap) (n0 : Nat) (rv : Option Value) (h : Heap) (L : List Loc) : Prop := rv = some (.long v) ∧ Fr n0 L ∧ h = h0
set_option maxRecDepth 65536 in
set_option maxHeartbeats 40000000 in
theorem rm12 (l : Launch) (Z : State) (a0 : Array Value) (hw : ∀ d ∈ tables_1, d.before a0 Z = true) (ws : List Jvm.Cond) (a : Addr) (v : Int64) (h0 : Heap) (n0 : Nat) (Z0 : n0 ≤ h0.size) (F1 : Fld Z h0 a "com/example/brelok/brelok/perf/Timing$Measure" "lostUpdates" "J" (.long v)) :
    MetFree l (⟨"com/example/brelok/brelok/perf/Timing$Measure", "lostUpdates", "()J"⟩ : MethodName) (head1 (Jvm.Cond.code (⟨"com/example/brelok/brelok/perf/Timing$Measure", "lostUpdates", "()J"⟩ : MethodName) prog_37_method_7_code 1 (some .long) :: ws) ({ frames := 0, cells := 0, slots := 0, locals := 0 } : Room)) (fun av U => av = #[(.ref a)] ∧ Z.Warmed39 U.vm ∧ U.heap = h0) (fun _ _ _ _ _ => True) (fun _ U o U' => ∃ rv L, o = .returned rv ∧ Q_rm12 Z a v h0 n0 rv U'.heap L ∧ FrameEnd U o U' L ({ frames := 0, cells := 0, slots := 0, locals := 0 } : Room).cells ({ frames := 0, cells := 0, slots := 0, locals := 0 } : Room).slots) := by
  refine MetFree.of_bodySF (plainFor_of_name pn_12) hisR ?_
  intro p e s m args below meth c s₁ Bd hml0 hP hK
  obtain ⟨rfl, hZ, hh⟩ := hP
  have hx := Bd.exec
  have hby := Bd.bytes
  have hml : c.maxLocals = 1 := hml0
  have hown : s.vm.findClass "com/example/brelok/brelok/perf/Timing$Measure" = some m.cls := findClass_of_methodNamed Bd.named
  have hnm := (name_of_methodNamed Bd.named Bd.method).1
  have X0 : Stand p l e ({ frames := 0, cells := 0, slots := 0, locals := 0 } : Room) s m #[(.ref a)] below meth c s₁ [] 0 0 := Stand.of_body Bd
  have e0 : s₁.heap = h0 := by rw [← hh, Bd.state]; rfl
  have N0 := Fr.nil n0
  have pre0 : ∀ t, Steps p.tables e below (s₁.setTop (mkF m 0 #[.val (.ref a)] [])) t → Steps p.tables e below (s₁.setTop (entryFrame m #[(.ref a)] 1)) t := fun t k => castTop (ef_rm12 m a) k
  have sg1 : ∀ target, Steps p.tables e below (s₁.setTop (mkF m 1 #[.val (.ref a)] [(.ref a)])) target → Steps p.tables e below (s₁.setTop (mkF m 0 #[.val (.ref a)] [])) target := by
    intro target kt
    show Steps p.tables e below (s₁.setTop (mkF m 0 #[.val (.ref a)] [])) _
    refine XS.aloadN X0.here hx rfl (hb hby d12_0) rfl rfl ?_
    exact kt
  obtain ⟨T2, X2, e2, st2⟩ := getF X0 hx hZ hown (host := "") (Or.inl (hw _ (List.mem_of_getElem? (i := 65) rfl))) Via.refl e0 F1 (g := (mkF m 1 #[.val (.ref a)] [(.ref a)])) rfl rfl (hb hby d12_1)
  obtain ⟨fs, hr, hrun, hended, hW, hsame⟩ := X2.leave (v := some (.long v)) (fun h => by rw [Bd.returns] at h; cases h)
  refine ⟨_, _, pre0 _ ?_, hrun, hended, _, _, rfl, ?_, ⟨_, rfl⟩, hW, hsame.mono (by decide) (by decide)⟩
  · show Steps p.tables e below (s₁.setTop (mkF m 0 #[.val (.ref a)] [])) _
    refine sg1 _ ?_
    refine st2 _ ?_
    show Steps p.tables e below (T2.setTop (mkF m 4 #[.val (.ref a)] [(.long v)])) _
    exact retOut X2 hx Bd.returns rfl (Or.inr (Or.inl ⟨rfl, rfl, _, rfl⟩)) (hb hby d12_4) hr
  · show Q_rm12 Z a v h0 n0 _ T2.heap _
    rw [e2]
    exact ⟨rfl, N0, rfl⟩
theorem d13_0 : decode prog_34_method_8_code 0 = .ok (.aload_n 0, 1) := by decide +kernel
theorem d13_1 : decode prog_34_method_8_code 1 = .ok (.getfield 53, 3) := by decide +kernel
theorem d13_4 : decode prog_34_method_8_code 4 = .ok (.lreturn, 1) := by decide +kernel
theorem pn_13 : plainName "com/example/brelok/brelok/perf/Tally" = true := by first | (simp [plainName, overriddenIn]; done) | decide +kernel
theorem ef_rm13 (m : MethodId) (x0 : Addr) : entryFrame m #[(.ref x0)] 1 = mkF m 0 #[.val (.ref x0)] [] := by first | (simp [entryFrame, mkF, argsToLocals, Value.category]; done) | rfl
def Q_rm13 (Z : State) (a : Addr) (v : Int64) (h0 : Heap) (n0 : Nat) (rv : Option Value) (h : Heap) (L : List Loc) : Prop := rv = some (.long v) ∧ Fr n0 L ∧ h = h0
set_option maxRecDepth 65536 in
set_option maxHeartbeats 40000000 in
theorem rm13 (l : Launch) (Z : State) (a0 : Array Value) (hw : ∀ d ∈ tables_1, d.before a0 Z = true) (ws : List Jvm.Cond) (a : Addr) (v : Int64) (h0 : Heap) (n0 : Nat) (Z0 : n0 ≤ h0.size) (F1 : Fld Z h0 a "com/example/brelok/brelok/perf/Tally" "overlaps" "J" (.long v)) :
    MetFree l (⟨"com/example/brelok/brelok/perf/Tally", "overlaps", "()J"⟩ : MethodName) (head1 (Jvm.Cond.code (⟨"com/example/brelok/brelok/perf/Tally", "overlaps", "()J"⟩ : MethodName) prog_34_method_8_code 1 (some .long) :: ws) ({ frames := 0, cells := 0, slots := 0, locals := 0 } : Room)) (fun av U => av = #[(.ref a)] ∧ Z.Warmed39 U.vm ∧ U.heap = h0) (fun _ _ _ _ _ => True) (fun _ U o U' => ∃ rv L, o = .returned rv ∧ Q_rm13 Z a v h0 n0 rv U'.heap L ∧ FrameEnd U o U' L ({ frames := 0, cells := 0, slots := 0, locals := 0 } : Room).cells ({ frames := 0, cells := 0, slots := 0, locals := 0 } : Room).slots) := by
  refine MetFree.of_bodySF (plainFor_of_name pn_13) hisR ?_
  intro p e s m args below meth c s₁ Bd hml0 hP hK
  obtain ⟨rfl, hZ, hh⟩ := hP
  have hx := Bd.exec
  have hby := Bd.bytes
  have hml : c.maxLocals = 1 := hml0
  have hown : s.vm.findClass "com/example/brelok/brelok/perf/Tally" = some m.cls := findClass_of_methodNamed Bd.named
  have hnm := (name_of_methodNamed Bd.named Bd.method).1
  have X0 : Stand p l e ({ frames := 0, cells := 0, slots := 0, locals := 0 } : Room) s m #[(.ref a)] below meth c s₁ [] 0 0 := Stand.of_body Bd
  have e0 : s₁.heap = h0 := by rw [← hh, Bd.state]; rfl
  have N0 := Fr.nil n0
  have pre0 : ∀ t, Steps p.tables e below (s₁.setTop (mkF m 0 #[.val (.ref a)] [])) t → Steps p.tables e below (s₁.setTop (entryFrame m #[(.ref a)] 1)) t := fun t k => castTop (ef_rm13 m a) k
  have sg1 : ∀ target, Steps p.tables e below (s₁.setTop (mkF m 1 #[.val (.ref a)] [(.ref a)])) target → Steps p.tables e below (s₁.setTop (mkF m 0 #[.val (.ref a)] [])) target := by
    intro target kt
    show Steps p.tables e below (s₁.setTop (mkF m 0 #[.val (.ref a)] [])) _
    refine XS.aloadN X0.here hx rfl (hb hby d13_0) rfl rfl ?_
    exact kt
  obtain ⟨T2, X2, e2, st2⟩ := getF X0 hx hZ hown (host := "") (Or.inl (hw _ (List.mem_of_getElem? (i := 83) rfl))) Via.refl e0 F1 (g := (mkF m 1 #[.val (.ref a)] [(.ref a)])) rfl rfl (hb hby d13_1)
  obtain ⟨fs, hr, hrun, hended, hW, hsame⟩ := X2.leave (v := some (.long v)) (fun h => by rw [Bd.returns] at h; cases h)
  refine ⟨_, _, pre0 _ ?_, hrun, hended, _, _, rfl, ?_, ⟨_, rfl⟩, hW, hsame.mono (by decide) (by decide)⟩
  · show Steps p.tables e below (s₁.setTop (mkF m 0 #[.val (.ref a)] [])) _
    refine sg1 _ ?_
    refine st2 _ ?_
    show Steps p.tables e below (T2.setTop (mkF m 4 #[.val (.ref a)] [(.long v)])) _
    exact retOut X2 hx Bd.returns rfl (Or.inr (Or.inl ⟨rfl, rfl, _, rfl⟩)) (hb hby d13_4) hr
  · show Q_rm13 Z a v h0 n0 _ T2.heap _
    rw [e2]
    exact ⟨rfl, N0, rfl⟩
theorem d14_0 : decode prog_34_method_9_code 0 = .ok (.aload_n 0, 1) := by decide +kernel
theorem d14_1 : decode prog_34_method_9_code 1 = .ok (.getfield 57, 3) := by decide +kernel
theorem d14_4 : decode prog_34_method_9_code 4 = .ok (.lreturn, 1) := by decide +kernel
theorem pn_14 : plainName "com/example/brelok/brelok/perf/Tally" = true := by first | (simp [plainName, overriddenIn]; done) | decide +kernel
theorem ef_rm14 (m : MethodId) (x0 : Addr) : entryFrame m #[(.ref x0)] 1 = mkF m 0 #[.val (.ref x0)] [] := by first | (simp [entryFrame, mkF, argsToLocals, Value.category]; done) | rfl
def Q_rm14 (Z : State) (a : Addr) (v : Int64) (h0 : Heap) (n0 : Nat) (rv : Option Value) (h : Heap) (L : List Loc) : Prop := rv = some (.long v) ∧ Fr n0 L ∧ h = h0
set_option maxRecDepth 65536 in
set_option maxHeartbeats 40000000 in
theorem rm14 (l : Launch) (Z : State) (a0 : Array Value) (hw : ∀ d ∈ tables_1, d.before a0 Z = true) (ws : List Jvm.Cond) (a : Addr) (v : Int64) (h0 : Heap) (n0 : Nat) (Z0 : n0 ≤ h0.size) (F1 : Fld Z h0 a "com/example/brelok/brelok/perf/Tally" "lostUpdates" "J" (.long v)) :
    MetFree l (⟨"com/example/brelok/brelok/perf/Tally", "lostUpdates", "()J"⟩ : MethodName) (head1 (Jvm.Cond.code (⟨"com/example/brelok/brelok/perf/Tally", "lostUpdates", "()J"⟩ : MethodName) prog_34_method_9_code 1 (some .long) :: ws) ({ frames := 0, cells := 0, slots := 0, locals := 0 } : Room)) (fun av U => av = #[(.ref a)] ∧ Z.Warmed39 U.vm ∧ U.heap = h0) (fun _ _ _ _ _ => True) (fun _ U o U' => ∃ rv L, o = .returned rv ∧ Q_rm14 Z a v h0 n0 rv U'.heap L ∧ FrameEnd U o U' L ({ frames := 0, cells := 0, slots := 0, locals := 0 } : Room).cells ({ frames := 0, cells := 0, slots := 0, locals := 0 } : Room).slots) := by
  refine MetFree.of_bodySF (plainFor_of_name pn_14) hisR ?_
  intro p e s m args below meth c s₁ Bd hml0 hP hK
  obtain ⟨rfl, hZ, hh⟩ := hP
  have hx := Bd.exec
  have hby := Bd.bytes
  have hml : c.maxLocals = 1 := hml0
  have hown : s.vm.findClass "com/example/brelok/brelok/perf/Tally" = some m.cls := findClass_of_methodNamed Bd.named
  have hnm := (name_of_methodNamed Bd.named Bd.method).1
  have X0 : Stand p l e ({ frames := 0, cells := 0, slots := 0, locals := 0 } : Room) s m #[(.ref a)] below meth c s₁ [] 0 0 := Stand.of_body Bd
  have e0 : s₁.heap = h0 := by rw [← hh, Bd.state]; rfl
  have N0 := Fr.nil n0
  have pre0 : ∀ t, Steps p.tables e below (s₁.setTop (mkF m 0 #[.val (.ref a)] [])) t → Steps p.tables e below (s₁.setTop (entryFrame m #[(.ref a)] 1)) t := fun t k => castTop (ef_rm14 m a) k
  have sg1 : ∀ target, Steps p.tables e below (s₁.setTop (mkF m 1 #[.val (.ref a)] [(.ref a)])) target → Steps p.tables e below (s₁.setTop (mkF m 0 #[.val (.ref a)] [])) target := by
    intro target kt
    show Steps p.tables e below (s₁.setTop (mkF m 0 #[.val (.ref a)] [])) _
    refine XS.aloadN X0.here hx rfl (hb hby d14_0) rfl rfl ?_
    exact kt
  obtain ⟨T2, X2, e2, st2⟩ := getF X0 hx hZ hown (host := "") (Or.inl (hw _ (List.mem_of_getElem? (i := 90) rfl))) Via.refl e0 F1 (g := (mkF m 1 #[.val (.ref a)] [(.ref a)])) rfl rfl (hb hby d14_1)
  obtain ⟨fs, hr, hrun, hended, hW, hsame⟩ := X2.leave (v := some (.long v)) (fun h => by rw [Bd.returns] at h; cases h)
  refine ⟨_, _, pre0 _ ?_, hrun, hended, _, _, rfl, ?_, ⟨_, rfl⟩, hW, hsame.mono (by decide) (by decide)⟩
  · show Steps p.tables e below (s₁.setTop (mkF m 0 #[.val (.ref a)] [])) _
    refine sg1 _ ?_
    refine st2 _ ?_
    show Steps p.tables e below (T2.setTop (mkF m 4 #[.val (.ref a)] [(.long v)])) _
    exact retOut X2 hx Bd.returns rfl (Or.inr (Or.inl ⟨rfl, rfl, _, rfl⟩)) (hb hby d14_4) hr
  · show Q_rm14 Z a v h0 n0 _ T2.heap _
    rw [e2]
    exact ⟨rfl, N0, rfl⟩
theorem d10_0 : decode prog_34_method_14_code 0 = .ok (.aload_n 0, 1) := by decide +kernel
theorem d10_1 : decode prog_34_method_14_code 1 = .ok (.dup, 1) := by decide +kernel
theorem d10_2 : decode prog_34_method_14_code 2 = .ok (.getfield 53, 3) := by decide +kernel
theorem d10_5 : decode prog_34_method_14_code 5 = .ok (.aload_n 1, 1) := by decide +kernel
theorem d10_6 : decode prog_34_method_14_code 6 = .ok (.invokevirtual 108, 3) := by decide +kernel
theorem pd_2 : parseMethodDescriptor "()J" = some ⟨[], some .long⟩ := by decide +kernel
theorem d10_9 : decode prog_34_method_14_code 9 = .ok (.ladd, 1) := by decide +kernel
theorem d10_10 : decode prog_34_method_14_code 10 = .ok (.putfield 53, 3) := by decide +kernel
theorem d10_13 : decode prog_34_method_14_code 13 = .ok (.aload_n 0, 1) := by decide +kernel
theorem d10_14 : decode prog_34_method_14_code 14 = .ok (.dup, 1) := by decide +kernel
theorem d10_15 : decode prog_34_method_14_code 15 = .ok (.getfield 57, 3) := by decide +kernel
theorem d10_18 : decode prog_34_method_14_code 18 = .ok (.aload_n 1, 1) := by decide +kernel
theorem d10_19 : decode prog_34_method_14_code 19 = .ok (.invokevirtual 110, 3) := by decide +kernel
theorem d10_22 : decode prog_34_method_14_code 22 = .ok (.ladd, 1) := by decide +kernel
theorem d10_23 : decode prog_34_method_14_code 23 = .ok (.putfield 57, 3) := by decide +kernel
theorem d10_26 : decode prog_34_method_14_code 26 = .ok (.return_, 1) := by decide +kernel
theorem pn_10 : plainName "com/example/brelok/brelok/perf/Tally" = true := by first | (simp [plainName, overriddenIn]; done) | decide +kernel
theorem ef_rm10 (m : MethodId) (x0 : Addr) (x1 : Addr) : entryFrame m #[(.ref x0), (.ref x1)] 2 = mkF m 0 #[.val (.ref x0), .val (.ref x1)] [] := by first | (simp [entryFrame, mkF, argsToLocals, Value.category]; done) | rfl
def Q_rm10 (Z : State) (a : Addr) (b : Addr) (ex : Int32) (wt : UInt64) (ov : Int64) (lu : Int64) (fg : UInt64) (mo : Int64) (ml : Int64) (h0 : Heap) (n0 : Nat) (rv : Option Value) (h : Heap) (L : List Loc) : Prop := rv = none ∧ Fr n0 L ∧ Keep h0 h [a] ∧ Exa Z h a "com/example/brelok/brelok/perf/Tally" ∧ Fld Z h a "com/example/brelok/brelok/perf/Tally" "excludes" "Z" (.int ex) ∧ Fld Z h a "com/example/brelok/brelok/perf/Tally" "waiting" "D" (.double wt) ∧ Fld Z h a "com/example/brelok/brelok/perf/Tally" "overlaps" "J" (.long (ov + mo)) ∧ Fld Z h a "com/example/brelok/brelok/perf/Tally" "lostUpdates" "J" (.long (lu + ml))
set_option maxRecDepth 65536 in
set_option maxHeartbeats 40000000 in
theorem rm10 (l : Launch) (Z : State) (a0 : Array Value) (hw : ∀ d ∈ tables_1, d.before a0 Z = true) (ws : List Jvm.Cond) (a : Addr) (b : Addr) (ex : Int32) (wt : UInt64) (ov : Int64) (lu : Int64) (fg : UInt64) (mo : Int64) (ml : Int64) (h0 : Heap) (n0 : Nat) (Z0 : n0 ≤ h0.size) (E_a : Exa Z h0 a "com/example/brelok/brelok/perf/Tally") (F_x : Fld Z h0 a "com/example/brelok/brelok/perf/Tally" "excludes" "Z" (.int ex)) (F_w : Fld Z h0 a "com/example/brelok/brelok/perf/Tally" "waiting" "D" (.double wt)) (F_o : Fld Z h0 a "com/example/brelok/brelok/perf/Tally" "overlaps" "J" (.long ov)) (F_l : Fld Z h0 a "com/example/brelok/brelok/perf/Tally" "lostUpdates" "J" (.long lu)) (g_a : n0 ≤ a) (E_b : Exa Z h0 b "com/example/brelok/brelok/perf/Timing$Measure") (G1 : Fld Z h0 b "com/example/brelok/brelok/perf/Timing$Measure" "figure" "D" (.double fg)) (G2 : Fld Z h0 b "com/example/brelok/brelok/perf/Timing$Measure" "overlaps" "J" (.long mo)) (G3 : Fld Z h0 b "com/example/brelok/brelok/perf/Timing$Measure" "lostUpdates" "J" (.long ml)) (ne : b ≠ a) :
    MetFree l (⟨"com/example/brelok/brelok/perf/Tally", "addExclusion", "(Lcom/example/brelok/brelok/perf/Timing$Measure;)V"⟩ : MethodName) (head1 (Jvm.Cond.code (⟨"com/example/brelok/brelok/perf/Tally", "addExclusion", "(Lcom/example/brelok/brelok/perf/Timing$Measure;)V"⟩ : MethodName) prog_34_method_14_code 2 none :: ws) ({ frames := 1, cells := 0, slots := 0, locals := 15 } : Room)) (fun av U => av = #[(.ref a), (.ref b)] ∧ Z.Warmed39 U.vm ∧ U.heap = h0) (fun _ _ _ _ _ => True) (fun _ U o U' => ∃ rv L, o = .returned rv ∧ Q_rm10 Z a b ex wt ov lu fg mo ml h0 n0 rv U'.heap L ∧ FrameEnd U o U' L ({ frames := 1, cells := 0, slots := 0, locals := 15 } : Room).cells ({ frames := 1, cells := 0, slots := 0, locals := 15 } : Room).slots) := by
  refine MetFree.of_bodySF (plainFor_of_name pn_10) hisR ?_
  intro p e s m args below meth c s₁ Bd hml0 hP hK
  obtain ⟨rfl, hZ, hh⟩ := hP
  have hx := Bd.exec
  have hby := Bd.bytes
  have hml : c.maxLocals = 2 := hml0
  have hown : s.vm.findClass "com/example/brelok/brelok/perf/Tally" = some m.cls := findClass_of_methodNamed Bd.named
  have hnm := (name_of_methodNamed Bd.named Bd.method).1
  have X0 : Stand p l e ({ frames := 1, cells := 0, slots := 0, locals := 15 } : Room) s m #[(.ref a), (.ref b)] below meth c s₁ [] 0 0 := Stand.of_body Bd
  have e0 : s₁.heap = h0 := by rw [← hh, Bd.state]; rfl
  have N0 := Fr.nil n0
  have pre0 : ∀ t, Steps p.tables e below (s₁.setTop (mkF m 0 #[.val (.ref a), .val (.ref b)] [])) t → Steps p.tables e below (s₁.setTop (entryFrame m #[(.ref a), (.ref b)] 2)) t := fun t k => castTop (ef_rm10 m a b) k
  have sg1 : ∀ target, Steps p.tables e below (s₁.setTop (mkF m 2 #[.val (.ref a), .val (.ref b)] [(.ref a), (.ref a)])) target → Steps p.tables e below (s₁.setTop (mkF m 0 #[.val (.ref a), .val (.ref b)] [])) target := by
    intro target kt
    show Steps p.tables e below (s₁.setTop (mkF m 0 #[.val (.ref a), .val (.ref b)] [])) _
    refine XS.aloadN X0.here hx rfl (hb hby d10_0) rfl rfl ?_
    show Steps p.tables e below (s₁.setTop (mkF m 1 #[.val (.ref a), .val (.ref b)] [(.ref a)])) _
    refine XS.dup X0.here hx rfl (hb hby d10_1) rfl rfl ?_
    exact kt
  obtain ⟨T2, X2, e2, st2⟩ := getF X0 hx hZ hown (host := "") (Or.inl (hw _ (List.mem_of_getElem? (i := 83) rfl))) Via.refl e0 F_o (g := (mkF m 2 #[.val (.ref a), .val (.ref b)] [(.ref a), (.ref a)])) rfl rfl (hb hby d10_2)
  have sg3 : ∀ target, Steps p.tables e below (T2.setTop (mkF m 6 #[.val (.ref a), .val (.ref b)] [(.ref b), (.long ov), (.ref a)])) target → Steps p.tables e below (T2.setTop (mkF m 5 #[.val (.ref a), .val (.ref b)] [(.long ov), (.ref a)])) target := by
    intro target kt
    show Steps p.tables e below (T2.setTop (mkF m 5 #[.val (.ref a), .val (.ref b)] [(.long ov), (.ref a)])) _
    refine XS.aloadN X2.here hx rfl (hb hby d10_5) rfl rfl ?_
    exact kt
  obtain ⟨cq4, kq4, q4a, q4b, q4c⟩ := isOf hZ e2 E_b
  obtain ⟨_, _, ⟨T4, L4, k4, n4⟩, -, X4, ⟨Lc4, hQ4, l4, y4, z4⟩, st4⟩ := X2.virtualBack hx (y := (⟨"com/example/brelok/brelok/perf/Timing$Measure", "overlaps", "()J"⟩ : MethodName)) (z := (⟨"com/example/brelok/brelok/perf/Timing$Measure", "overlaps", "()J"⟩ : MethodName)) hown (mvT hZ (hw _ (List.mem_of_getElem? (i := 85) rfl))) (mvT hZ (hw _ (List.mem_of_getElem? (i := 86) rfl))) (notFace_of_selects (args := #[]) (mvT hZ (hw _ (List.mem_of_getElem? (i := 88) rfl)))) (mvT hZ (hw _ (List.mem_of_getElem? (i := 88) rfl))) (mvT hZ (hw _ (List.mem_of_getElem? (i := 87) rfl))) (by decide) (backOf (W := 3) (rm11 l Z a0 hw [] b mo h0 n0 Z0 G2) hZ (hw _ (List.mem_of_getElem? (i := 89) rfl)) (hw _ (List.mem_of_getElem? (i := 51) rfl)) (by decide) (by decide)) q4a q4c (g := (mkF m 6 #[.val (.ref a), .val (.ref b)] [(.ref b), (.long ov), (.ref a)])) rfl (by rw [hml]; rfl) (Steps.refl _) (argsL := []) (rest := [(.long ov), (.ref a)]) (lenOf pd_2 rfl) rfl (by show 2 * 0 + _ ≤ _; exact Nat.le_of_eq rfl) (hb hby d10_6) (fun _ _ => ⟨rfl, e2, (by decide : 0 + 0 ≤ _), (by decide : 0 + 0 ≤ _)⟩)
  dsimp only [Pt.U, Pt.locs, Pt.cells, Pt.slots] at X4 l4 y4 z4 st4 hQ4
  subst l4 y4 z4
  obtain ⟨rfl, N4q, c4_0⟩ := hQ4
  have N4 := Fr.app N0 N4q
  have sg5 : ∀ target, Steps p.tables e below (T4.setTop (mkF m 10 #[.val (.ref a), .val (.ref b)] [(.long (ov + mo)), (.ref a)])) target → Steps p.tables e below (T4.setTop (mkF m 9 #[.val (.ref a), .val (.ref b)] [(.long mo), (.long ov), (.ref a)])) target := by
    intro target kt
    show Steps p.tables e below (T4.setTop (mkF m 9 #[.val (.ref a), .val (.ref b)] [(.long mo), (.long ov), (.ref a)])) _
    refine XS.ladd X4.here hx rfl (hb hby d10_9) rfl ?_
    exact kt
  obtain ⟨T6, h6, X6, e6, W6, st6⟩ := putF X4 hx hZ hown (host := "") (Or.inl (hw _ (List.mem_of_getElem? (i := 83) rfl))) Via.refl c4_0 F_o E_a (Or.inl (hw _ (List.mem_of_getElem? (i := 84) rfl))) (hw _ (List.mem_of_getElem? (i := 1) rfl)) (ty := .long) (by decide) rfl rfl (g := (mkF m 10 #[.val (.ref a), .val (.ref b)] [(.long (ov + mo)), (.ref a)])) rfl rfl (hb hby d10_10)
  have N6 := Fr.snoc X6 N4 g_a
  have Zs6 : n0 ≤ h6.size := by rw [W6.size]; exact Z0
  have K6 : Keep h0 h6 [a] := (Keep.refl h0 [a]).wr W6 (Or.inl (List.mem_of_getElem? (i := 0) rfl))
  have f7 : Exa Z h6 a "com/example/brelok/brelok/perf/Tally" := E_a.wr W6
  have f8 : Fld Z h6 a "com/example/brelok/brelok/perf/Tally" "excludes" "Z" (.int ex) := F_x.other W6 (Or.inr (slot_ne (Or.inr (hw _ (List.mem_of_getElem? (i := 48) rfl))) (Or.inl (hw _ (List.mem_of_getElem? (i := 84) rfl))) (by decide) (t := .boolean) (t' := .long) (by decide) (by decide)))
  have f9 : Fld Z h6 a "com/example/brelok/brelok/perf/Tally" "waiting" "D" (.double wt) := F_w.other W6 (Or.inr (slot_ne (Or.inl (hw _ (List.mem_of_getElem? (i := 78) rfl))) (Or.inl (hw _ (List.mem_of_getElem? (i := 84) rfl))) (by decide) (t := .double) (t' := .long) (by decide) (by decide)))
  have f10 : Fld Z h6 a "com/example/brelok/brelok/perf/Tally" "lostUpdates" "J" (.long lu) := F_l.other W6 (Or.inr (slot_ne (Or.inl (hw _ (List.mem_of_getElem? (i := 91) rfl))) (Or.inl (hw _ (List.mem_of_getElem? (i := 84) rfl))) (by decide) (t := .long) (t' := .long) (by decide) (by decide)))
  have f11 : Exa Z h6 b "com/example/brelok/brelok/perf/Timing$Measure" := E_b.wr W6
  have f12 : Fld Z h6 b "com/example/brelok/brelok/perf/Timing$Measure" "figure" "D" (.double fg) := G1.other W6 (Or.inl ne)
  have f13 : Fld Z h6 b "com/example/brelok/brelok/perf/Timing$Measure" "overlaps" "J" (.long mo) := G2.other W6 (Or.inl ne)
  have f14 : Fld Z h6 b "com/example/brelok/brelok/perf/Timing$Measure" "lostUpdates" "J" (.long ml) := G3.other W6 (Or.inl ne)
  have f15 : Fld Z h6 a "com/example/brelok/brelok/perf/Tally" "overlaps" "J" (.long (ov + mo)) := F_o.same W6
  have sg16 : ∀ target, Steps p.tables e below (T6.setTop (mkF m 15 #[.val (.ref a), .val (.ref b)] [(.ref a), (.ref a)])) target → Steps p.tables e below (T6.setTop (mkF m 13 #[.val (.ref a), .val (.ref b)] [])) target := by
    intro target kt
    show Steps p.tables e below (T6.setTop (mkF m 13 #[.val (.ref a), .val (.ref b)] [])) _
    refine XS.aloadN X6.here hx rfl (hb hby d10_13) rfl rfl ?_
    show Steps p.tables e below (T6.setTop (mkF m 14 #[.val (.ref a), .val (.ref b)] [(.ref a)])) _
    refine XS.dup X6.here hx rfl (hb hby d10_14) rfl rfl ?_
    exact kt
  obtain ⟨T17, X17, e17, st17⟩ := getF X6 hx hZ hown (host := "") (Or.inl (hw _ (List.mem_of_getElem? (i := 90) rfl))) Via.refl e6 f10 (g := (mkF m 15 #[.val (.ref a), .val (.ref b)] [(.ref a), (.ref a)])) rfl rfl (hb hby d10_15)
  have sg18 : ∀ target, Steps p.tables e below (T17.setTop (mkF m 19 #[.val (.ref a), .val (.ref b)] [(.ref b), (.long lu), (.ref a)])) target → Steps p.tables e below (T17.setTop (mkF m 18 #[.val (.ref a), .val (.ref b)] [(.long lu), (.ref a)])) target := by
    intro target kt
    show Steps p.tables e below (T17.setTop (mkF m 18 #[.val (.ref a), .val (.ref b)] [(.long lu), (.ref a)])) _
    refine XS.aloadN X17.here hx rfl (hb hby d10_18) rfl rfl ?_
    exact kt
  obtain ⟨cq19, kq19, q19a, q19b, q19c⟩ := isOf hZ e17 f11
  obtain ⟨_, _, ⟨T19, L19, k19, n19⟩, -, X19, ⟨Lc19, hQ19, l19, y19, z19⟩, st19⟩ := X17.virtualBack hx (y := (⟨"com/example/brelok/brelok/perf/Timing$Measure", "lostUpdates", "()J"⟩ : MethodName)) (z := (⟨"com/example/brelok/brelok/perf/Timing$Measure", "lostUpdates", "()J"⟩ : MethodName)) hown (mvT hZ (hw _ (List.mem_of_getElem? (i := 92) rfl))) (mvT hZ (hw _ (List.mem_of_getElem? (i := 93) rfl))) (notFace_of_selects (args := #[]) (mvT hZ (hw _ (List.mem_of_getElem? (i := 95) rfl)))) (mvT hZ (hw _ (List.mem_of_getElem? (i := 95) rfl))) (mvT hZ (hw _ (List.mem_of_getElem? (i := 94) rfl))) (by decide) (backOf (W := 3) (rm12 l Z a0 hw [] b ml h6 n0 Zs6 f14) hZ (hw _ (List.mem_of_getElem? (i := 96) rfl)) (hw _ (List.mem_of_getElem? (i := 51) rfl)) (by decide) (by decide)) q19a q19c (g := (mkF m 19 #[.val (.ref a), .val (.ref b)] [(.ref b), (.long lu), (.ref a)])) rfl (by rw [hml]; rfl) (Steps.refl _) (argsL := []) (rest := [(.long lu), (.ref a)]) (lenOf pd_2 rfl) rfl (by show 2 * 0 + _ ≤ _; exact Nat.le_of_eq rfl) (hb hby d10_19) (fun _ _ => ⟨rfl, e17, (by decide : 0 + 0 ≤ _), (by decide : 0 + 0 ≤ _)⟩)
  dsimp only [Pt.U, Pt.locs, Pt.cells, Pt.slots] at X19 l19 y19 z19 st19 hQ19
  subst l19 y19 z19
  obtain ⟨rfl, N19q, c19_0⟩ := hQ19
  have N19 := Fr.app N6 N19q
  have sg20 : ∀ target, Steps p.tables e below (T19.setTop (mkF m 23 #[.val (.ref a), .val (.ref b)] [(.long (lu + ml)), (.ref a)])) target → Steps p.tables e below (T19.setTop (mkF m 22 #[.val (.ref a), .val (.ref b)] [(.long ml), (.long lu), (.ref a)])) target := by
    intro target kt
    show Steps p.tables e below (T19.setTop (mkF m 22 #[.val (.ref a), .val (.ref b)] [(.long ml), (.long lu), (.ref a)])) _
    refine XS.ladd X19.here hx rfl (hb hby d10_22) rfl ?_
    exact kt
  obtain ⟨T21, h21, X21, e21, W21, st21⟩ := putF X19 hx hZ hown (host := "") (Or.inl (hw _ (List.mem_of_getElem? (i := 90) rfl))) Via.refl c19_0 f10 f7 (Or.inl (hw _ (List.mem_of_getElem? (i := 91) rfl))) (hw _ (List.mem_of_getElem? (i := 1) rfl)) (ty := .long) (by decide) rfl rfl (g := (mkF m 23 #[.val (.ref a), .val (.ref b)] [(.long (lu + ml)), (.ref a)])) rfl rfl (hb hby d10_23)
  have N21 := Fr.snoc X21 N19 g_a
  have Zs21 : n0 ≤ h21.size := by rw [W21.size]; exact Zs6
  have K21 : Keep h0 h21 [a] := K6.wr W21 (Or.inl (List.mem_of_getElem? (i := 0) rfl))
  have f22 : Exa Z h21 a "com/example/brelok/brelok/perf/Tally" := f7.wr W21
  have f23 : Fld Z h21 a "com/example/brelok/brelok/perf/Tally" "excludes" "Z" (.int ex) := f8.other W21 (Or.inr (slot_ne (Or.inr (hw _ (List.mem_of_getElem? (i := 48) rfl))) (Or.inl (hw _ (List.mem_of_getElem? (i := 91) rfl))) (by decide) (t := .boolean) (t' := .long) (by decide) (by decide)))
  have f24 : Fld Z h21 a "com/example/brelok/brelok/perf/Tally" "waiting" "D" (.double wt) := f9.other W21 (Or.inr (slot_ne (Or.inl (hw _ (List.mem_of_getElem? (i := 78) rfl))) (Or.inl (hw _ (List.mem_of_getElem? (i := 91) rfl))) (by decide) (t := .double) (t' := .long) (by decide) (by decide)))
  have f25 : Fld Z h21 a "com/example/brelok/brelok/perf/Tally" "overlaps" "J" (.long (ov + mo)) := f15.other W21 (Or.inr (slot_ne (Or.inl (hw _ (List.mem_of_getElem? (i := 84) rfl))) (Or.inl (hw _ (List.mem_of_getElem? (i := 91) rfl))) (by decide) (t := .long) (t' := .long) (by decide) (by decide)))
  have f26 : Exa Z h21 b "com/example/brelok/brelok/perf/Timing$Measure" := f11.wr W21
  have f27 : Fld Z h21 b "com/example/brelok/brelok/perf/Timing$Measure" "figure" "D" (.double fg) := f12.other W21 (Or.inl ne)
  have f28 : Fld Z h21 b "com/example/brelok/brelok/perf/Timing$Measure" "overlaps" "J" (.long mo) := f13.other W21 (Or.inl ne)
  have f29 : Fld Z h21 b "com/example/brelok/brelok/perf/Timing$Measure" "lostUpdates" "J" (.long ml) := f14.other W21 (Or.inl ne)
  have f30 : Fld Z h21 a "com/example/brelok/brelok/perf/Tally" "lostUpdates" "J" (.long (lu + ml)) := f10.same W21
  obtain ⟨fs, hr, hrun, hended, hW, hsame⟩ := X21.leave (v := none) (fun _ => rfl)
  refine ⟨_, _, pre0 _ ?_, hrun, hended, _, _, rfl, ?_, ⟨_, rfl⟩, hW, hsame.mono (by decide) (by decide)⟩
  · show Steps p.tables e below (s₁.setTop (mkF m 0 #[.val (.ref a), .val (.ref b)] [])) _
    refine sg1 _ ?_
    refine st2 _ ?_
    refine sg3 _ ?_
    refine st4.trans ?_
    refine sg5 _ ?_
    refine st6 _ ?_
    refine sg16 _ ?_
    refine st17 _ ?_
    refine sg18 _ ?_
    refine st19.trans ?_
    refine sg20 _ ?_
    refine st21 _ ?_
    show Steps p.tables e below (T21.setTop (mkF m 26 #[.val (.ref a), .val (.ref b)] [])) _
    exact X21.returnOut hx Bd.returns (hb hby d10_26) hr
  · show Q_rm10 Z a b ex wt ov lu fg mo ml h0 n0 _ T21.heap _
    rw [e21]
    exact ⟨rfl, N21, K21, f22, f23, f24, f25, f30⟩
theorem d8_0 : decode prog_34_method_6_code 0 = .ok (.aload_n 0, 1) := by decide +kernel
theorem d8_1 : decode prog_34_method_6_code 1 = .ok (.aload_n 1, 1) := by decide +kernel
theorem d8_2 : decode prog_34_method_6_code 2 = .ok (.invokevirtual 39, 3) := by decide +kernel
theorem pd_1 : parseMethodDescriptor "()D" = some ⟨[], some .double⟩ := by decide +kernel
theorem d8_5 : decode prog_34_method_6_code 5 = .ok (.putfield 49, 3) := by decide +kernel
theorem d8_8 : decode prog_34_method_6_code 8 = .ok (.aload_n 0, 1) := by decide +kernel
theorem d8_9 : decode prog_34_method_6_code 9 = .ok (.aload_n 1, 1) := by decide +kernel
theorem d8_10 : decode prog_34_method_6_code 10 = .ok (.invokevirtual 45, 3) := by decide +kernel
theorem pd_6 : parseMethodDescriptor "(Lcom/example/brelok/brelok/perf/Timing$Measure;)V" = some ⟨[(.object "com/example/brelok/brelok/perf/Timing$Measure")], none⟩ := by decide +kernel
theorem d8_13 : decode prog_34_method_6_code 13 = .ok (.return_, 1) := by decide +kernel
theorem pn_8 : plainName "com/example/brelok/brelok/perf/Tally" = true := by first | (simp [plainName, overriddenIn]; done) | decide +kernel
theorem ef_rm8 (m : MethodId) (x0 : Addr) (x1 : Addr) : entryFrame m #[(.ref x0), (.ref x1)] 2 = mkF m 0 #[.val (.ref x0), .val (.ref x1)] [] := by first | (simp [entryFrame, mkF, argsToLocals, Value.category]; done) | rfl
def Q_rm8 (Z : State) (a : Addr) (b : Addr) (ex : Int32) (wt : UInt64) (ov : Int64) (lu : Int64) (fg : UInt64) (mo : Int64) (ml : Int64) (h0 : Heap) (n0 : Nat) (rv : Option Value) (h : Heap) (L : List Loc) : Prop := rv = none ∧ Fr n0 L ∧ Keep h0 h [a] ∧ Exa Z h a "com/example/brelok/brelok/perf/Tally" ∧ Fld Z h a "com/example/brelok/brelok/perf/Tally" "excludes" "Z" (.int ex) ∧ Fld Z h a "com/example/brelok/brelok/perf/Tally" "waiting" "D" (.double fg) ∧ Fld Z h a "com/example/brelok/brelok/perf/Tally" "overlaps" "J" (.long (ov + mo)) ∧ Fld Z h a "com/example/brelok/brelok/perf/Tally" "lostUpdates" "J" (.long (lu + ml))
set_option maxRecDepth 65536 in
set_option maxHeartbeats 40000000 in
theorem rm8 (l : Launch) (Z : State) (a0 : Array Value) (hw : ∀ d ∈ tables_1, d.before a0 Z = true) (ws : List Jvm.Cond) (a : Addr) (b : Addr) (ex : Int32) (wt : UInt64) (ov : Int64) (lu : Int64) (fg : UInt64) (mo : Int64) (ml : Int64) (h0 : Heap) (n0 : Nat) (Z0 : n0 ≤ h0.size) (E_a : Exa Z h0 a "com/example/brelok/brelok/perf/Tally") (F_x : Fld Z h0 a "com/example/brelok/brelok/perf/Tally" "excludes" "Z" (.int ex)) (F_w : Fld Z h0 a "com/example/brelok/brelok/perf/Tally" "waiting" "D" (.double wt)) (F_o : Fld Z h0 a "com/example/brelok/brelok/perf/Tally" "overlaps" "J" (.long ov)) (F_l : Fld Z h0 a "com/example/brelok/brelok/perf/Tally" "lostUpdates" "J" (.long lu)) (g_a : n0 ≤ a) (E_b : Exa Z h0 b "com/example/brelok/brelok/perf/Timing$Measure") (G1 : Fld Z h0 b "com/example/brelok/brelok/perf/Timing$Measure" "figure" "D" (.double fg)) (G2 : Fld Z h0 b "com/example/brelok/brelok/perf/Timing$Measure" "overlaps" "J" (.long mo)) (G3 : Fld Z h0 b "com/example/brelok/brelok/perf/Timing$Measure" "lostUpdates" "J" (.long ml)) (ne : b ≠ a) :
    MetFree l (⟨"com/example/brelok/brelok/perf/Tally", "setWaiting", "(Lcom/example/brelok/brelok/perf/Timing$Measure;)V"⟩ : MethodName) (head1 (Jvm.Cond.code (⟨"com/example/brelok/brelok/perf/Tally", "setWaiting", "(Lcom/example/brelok/brelok/perf/Timing$Measure;)V"⟩ : MethodName) prog_34_method_6_code 2 none :: ws) ({ frames := 2, cells := 0, slots := 0, locals := 28 } : Room)) (fun av U => av = #[(.ref a), (.ref b)] ∧ Z.Warmed39 U.vm ∧ U.heap = h0) (fun _ _ _ _ _ => True) (fun _ U o U' => ∃ rv L, o = .returned rv ∧ Q_rm8 Z a b ex wt ov lu fg mo ml h0 n0 rv U'.heap L ∧ FrameEnd U o U' L ({ frames := 2, cells := 0, slots := 0, locals := 28 } : Room).cells ({ frames := 2, cells := 0, slots := 0, locals := 28 } : Room).slots) := by
  refine MetFree.of_bodySF (plainFor_of_name pn_8) hisR ?_
  intro p e s m args below meth c s₁ Bd hml0 hP hK
  obtain ⟨rfl, hZ, hh⟩ := hP
  have hx := Bd.exec
  have hby := Bd.bytes
  have hml : c.maxLocals = 2 := hml0
  have hown : s.vm.findClass "com/example/brelok/brelok/perf/Tally" = some m.cls := findClass_of_methodNamed Bd.named
  have hnm := (name_of_methodNamed Bd.named Bd.method).1
  have X0 : Stand p l e ({ frames := 2, cells := 0, slots := 0, locals := 28 } : Room) s m #[(.ref a), (.ref b)] below meth c s₁ [] 0 0 := Stand.of_body Bd
  have e0 : s₁.heap = h0 := by rw [← hh, Bd.state]; rfl
  have N0 := Fr.nil n0
  have pre0 : ∀ t, Steps p.tables e below (s₁.setTop (mkF m 0 #[.val (.ref a), .val (.ref b)] [])) t → Steps p.tables e below (s₁.setTop (entryFrame m #[(.ref a), (.ref b)] 2)) t := fun t k => castTop (ef_rm8 m a b) k
  have sg1 : ∀ target, Steps p.tables e below (s₁.setTop (mkF m 2 #[.val (.ref a), .val (.ref b)] [(.ref b), (.ref a)])) target → Steps p.tables e below (s₁.setTop (mkF m 0 #[.val (.ref a), .val (.ref b)] [])) target := by
    intro target kt
    show Steps p.tables e below (s₁.setTop (mkF m 0 #[.val (.ref a), .val (.ref b)] [])) _
    refine XS.aloadN X0.here hx rfl (hb hby d8_0) rfl rfl ?_
    show Steps p.tables e below (s₁.setTop (mkF m 1 #[.val (.ref a), .val (.ref b)] [(.ref a)])) _
    refine XS.aloadN X0.here hx rfl (hb hby d8_1) rfl rfl ?_
    exact kt
  obtain ⟨cq2, kq2, q2a, q2b, q2c⟩ := isOf hZ e0 E_b
  obtain ⟨_, _, ⟨T2, L2, k2, n2⟩, -, X2, ⟨Lc2, hQ2, l2, y2, z2⟩, st2⟩ := X0.virtualBack hx (y := (⟨"com/example/brelok/brelok/perf/Timing$Measure", "figure", "()D"⟩ : MethodName)) (z := (⟨"com/example/brelok/brelok/perf/Timing$Measure", "figure", "()D"⟩ : MethodName)) hown (mvT hZ (hw _ (List.mem_of_getElem? (i := 72) rfl))) (mvT hZ (hw _ (List.mem_of_getElem? (i := 73) rfl))) (notFace_of_selects (args := #[]) (mvT hZ (hw _ (List.mem_of_getElem? (i := 75) rfl)))) (mvT hZ (hw _ (List.mem_of_getElem? (i := 75) rfl))) (mvT hZ (hw _ (List.mem_of_getElem? (i := 74) rfl))) (by decide) (backOf (W := 1) (rm9 l Z a0 hw [] b fg h0 n0 Z0 G1) hZ (hw _ (List.mem_of_getElem? (i := 76) rfl)) (hw _ (List.mem_of_getElem? (i := 51) rfl)) (by decide) (by decide)) q2a q2c (g := (mkF m 2 #[.val (.ref a), .val (.ref b)] [(.ref b), (.ref a)])) rfl (by rw [hml]; rfl) (Steps.refl _) (argsL := []) (rest := [(.ref a)]) (lenOf pd_1 rfl) rfl (by show 2 * 0 + _ ≤ _; exact Nat.le_of_eq rfl) (hb hby d8_2) (fun _ _ => ⟨rfl, e0, (by decide : 0 + 0 ≤ _), (by decide : 0 + 0 ≤ _)⟩)
  dsimp only [Pt.U, Pt.locs, Pt.cells, Pt.slots] at X2 l2 y2 z2 st2 hQ2
  subst l2 y2 z2
  obtain ⟨rfl, N2q, c2_0⟩ := hQ2
  have N2 := Fr.app N0 N2q
  obtain ⟨T3, h3, X3, e3, W3, st3⟩ := putF X2 hx hZ hown (host := "") (Or.inl (hw _ (List.mem_of_getElem? (i := 77) rfl))) Via.refl c2_0 F_w E_a (Or.inl (hw _ (List.mem_of_getElem? (i := 78) rfl))) (hw _ (List.mem_of_getElem? (i := 1) rfl)) (ty := .double) (by decide) rfl rfl (g := (mkF m 5 #[.val (.ref a), .val (.ref b)] [(.double fg), (.ref a)])) rfl rfl (hb hby d8_5)
  have N3 := Fr.snoc X3 N2 g_a
  have Zs3 : n0 ≤ h3.size := by rw [W3.size]; exact Z0
  have K3 : Keep h0 h3 [a] := (Keep.refl h0 [a]).wr W3 (Or.inl (List.mem_of_getElem? (i := 0) rfl))
  have f4 : Exa Z h3 a "com/example/brelok/brelok/perf/Tally" := E_a.wr W3
  have f5 : Fld Z h3 a "com/example/brelok/brelok/perf/Tally" "excludes" "Z" (.int ex) := F_x.other W3 (Or.inr (slot_ne (Or.inr (hw _ (List.mem_of_getElem? (i := 48) rfl))) (Or.inl (hw _ (List.mem_of_getElem? (i := 78) rfl))) (by decide) (t := .boolean) (t' := .double) (by decide) (by decide)))
  have f6 : Fld Z h3 a "com/example/brelok/brelok/perf/Tally" "overlaps" "J" (.long ov) := F_o.other W3 (Or.inr (slot_ne (Or.inl (hw _ (List.mem_of_getElem? (i := 84) rfl))) (Or.inl (hw _ (List.mem_of_getElem? (i := 78) rfl))) (by decide) (t := .long) (t' := .double) (by decide) (by decide)))
  have f7 : Fld Z h3 a "com/example/brelok/brelok/perf/Tally" "lostUpdates" "J" (.long lu) := F_l.other W3 (Or.inr (slot_ne (Or.inl (hw _ (List.mem_of_getElem? (i := 91) rfl))) (Or.inl (hw _ (List.mem_of_getElem? (i := 78) rfl))) (by decide) (t := .long) (t' := .double) (by decide) (by decide)))
  have f8 : Exa Z h3 b "com/example/brelok/brelok/perf/Timing$Measure" := E_b.wr W3
  have f9 : Fld Z h3 b "com/example/brelok/brelok/perf/Timing$Measure" "figure" "D" (.double fg) := G1.other W3 (Or.inl ne)
  have f10 : Fld Z h3 b "com/example/brelok/brelok/perf/Timing$Measure" "overlaps" "J" (.long mo) := G2.other W3 (Or.inl ne)
  have f11 : Fld Z h3 b "com/example/brelok/brelok/perf/Timing$Measure" "lostUpdates" "J" (.long ml) := G3.other W3 (Or.inl ne)
  have f12 : Fld Z h3 a "com/example/brelok/brelok/perf/Tally" "waiting" "D" (.double fg) := F_w.same W3
  have sg13 : ∀ target, Steps p.tables e below (T3.setTop (mkF m 10 #[.val (.ref a), .val (.ref b)] [(.ref b), (.ref a)])) target → Steps p.tables e below (T3.setTop (mkF m 8 #[.val (.ref a), .val (.ref b)] [])) target := by
    intro target kt
    show Steps p.tables e below (T3.setTop (mkF m 8 #[.val (.ref a), .val (.ref b)] [])) _
    refine XS.aloadN X3.here hx rfl (hb hby d8_8) rfl rfl ?_
    show Steps p.tables e below (T3.setTop (mkF m 9 #[.val (.ref a), .val (.ref b)] [(.ref a)])) _
    refine XS.aloadN X3.here hx rfl (hb hby d8_9) rfl rfl ?_
    exact kt
  obtain ⟨cq14, q14, q14'⟩ := f4.cell
  obtain ⟨_, _, ⟨T14, L14, k14, n14⟩, -, X14, ⟨Lc14, hQ14, l14, y14, z14⟩, st14⟩ := X3.privateBack hx (y := (⟨"com/example/brelok/brelok/perf/Tally", "addExclusion", "(Lcom/example/brelok/brelok/perf/Timing$Measure;)V"⟩ : MethodName)) hown (mvT hZ (hw _ (List.mem_of_getElem? (i := 79) rfl))) (mvT hZ (hw _ (List.mem_of_getElem? (i := 80) rfl))) (own_selp (by decide) (mvT hZ (hw _ (List.mem_of_getElem? (i := 1) rfl))) (mvP hZ (hw _ (List.mem_of_getElem? (i := 81) rfl))) (mvT hZ (hw _ (List.mem_of_getElem? (i := 80) rfl)))) (Cond.privateMethod_at (mvP hZ (hw _ (List.mem_of_getElem? (i := 81) rfl)) (args := #[]))) (mvT hZ (hw _ (List.mem_of_getElem? (i := 82) rfl))) (by decide) (backOf (W := 0) (rm10 l Z a0 hw [] a b ex fg ov lu fg mo ml h3 n0 Zs3 f4 f5 f12 f6 f7 g_a f8 f9 f10 f11 ne) hZ (hw _ (List.mem_of_getElem? (i := 82) rfl)) (hw _ (List.mem_of_getElem? (i := 2) rfl)) (by decide) (by decide)) (g := (mkF m 10 #[.val (.ref a), .val (.ref b)] [(.ref b), (.ref a)])) rfl (by rw [hml]; rfl) (Steps.refl _) (a := a) (by rw [e3]; exact q14) q14' (argsL := [(.ref b)]) (rest := []) (lenOf pd_6 rfl) rfl (by show 2 * 0 + _ ≤ _; exact Nat.le_of_eq rfl) (hb hby d8_10) (fun _ _ => ⟨rfl, e3, (by decide : 0 + 0 ≤ _), (by decide : 0 + 0 ≤ _)⟩)
  dsimp only [Pt.U, Pt.locs, Pt.cells, Pt.slots] at X14 l14 y14 z14 st14 hQ14
  subst l14 y14 z14
  obtain ⟨rfl, N14q, c14_0, c14_1, c14_2, c14_3, c14_4, c14_5⟩ := hQ14
  have N14 := Fr.app N3 N14q
  have Zs14 : n0 ≤ T14.heap.size := Nat.le_trans Zs3 c14_0.1
  have K14 : Keep h0 T14.heap [a] := K3.trans c14_0 (allS (Or.inl (List.mem_of_getElem? (i := 0) rfl)) all0)
  have f15 : Exa Z T14.heap b "com/example/brelok/brelok/perf/Timing$Measure" := f8.keep c14_0
  have f16 : Fld Z T14.heap b "com/example/brelok/brelok/perf/Timing$Measure" "figure" "D" (.double fg) := f9.keep c14_0 (ninS ne nin0)
  have f17 : Fld Z T14.heap b "com/example/brelok/brelok/perf/Timing$Measure" "overlaps" "J" (.long mo) := f10.keep c14_0 (ninS ne nin0)
  have f18 : Fld Z T14.heap b "com/example/brelok/brelok/perf/Timing$Measure" "lostUpdates" "J" (.long ml) := f11.keep c14_0 (ninS ne nin0)
  have f19 : Exa Z T14.heap a "com/example/brelok/brelok/perf/Tally" := c14_1
  have f20 : Fld Z T14.heap a "com/example/brelok/brelok/perf/Tally" "excludes" "Z" (.int ex) := c14_2
  have f21 : Fld Z T14.heap a "com/example/brelok/brelok/perf/Tally" "waiting" "D" (.double fg) := c14_3
  have f22 : Fld Z T14.heap a "com/example/brelok/brelok/perf/Tally" "overlaps" "J" (.long (ov + mo)) := c14_4
  have f23 : Fld Z T14.heap a "com/example/brelok/brelok/perf/Tally" "lostUpdates" "J" (.long (lu + ml)) := c14_5
  obtain ⟨fs, hr, hrun, hended, hW, hsame⟩ := X14.leave (v := none) (fun _ => rfl)
  refine ⟨_, _, pre0 _ ?_, hrun, hended, _, _, rfl, ?_, ⟨_, rfl⟩, hW, hsame.mono (by decide) (by decide)⟩
  · show Steps p.tables e below (s₁.setTop (mkF m 0 #[.val (.ref a), .val (.ref b)] [])) _
    refine sg1 _ ?_
    refine st2.trans ?_
    refine st3 _ ?_
    refine sg13 _ ?_
    refine st14.trans ?_
    show Steps p.tables e below (T14.setTop (mkF m 13 #[.val (.ref a), .val (.ref b)] [])) _
    exact X14.returnOut hx Bd.returns (hb hby d8_13) hr
  · show Q_rm8 Z a b ex wt ov lu fg mo ml h0 n0 _ T14.heap _
    exact ⟨rfl, N14, K14, f19, f20, f21, f22, f23⟩
theorem d15_0 : decode prog_34_method_7_code 0 = .ok (.aload_n 0, 1) := by decide +kernel
theorem d15_1 : decode prog_34_method_7_code 1 = .ok (.getfield 23, 3) := by decide +kernel
theorem d15_4 : decode prog_34_method_7_code 4 = .ok (.ifCond .eq 25, 3) := by decide +kernel
theorem d15_29 : decode prog_34_method_7_code 29 = .ok (.iconst 0, 1) := by decide +kernel
theorem d15_30 : decode prog_34_method_7_code 30 = .ok (.ireturn, 1) := by decide +kernel
theorem d15_7 : decode prog_34_method_7_code 7 = .ok (.aload_n 0, 1) := by decide +kernel
theorem d15_8 : decode prog_34_method_7_code 8 = .ok (.getfield 53, 3) := by decide +kernel
theorem d15_11 : decode prog_34_method_7_code 11 = .ok (.lconst 0, 1) := by decide +kernel
theorem d15_12 : decode prog_34_method_7_code 12 = .ok (.lcmp, 1) := by decide +kernel
theorem d15_13 : decode prog_34_method_7_code 13 = .ok (.ifCond .gt 12, 3) := by decide +kernel
theorem d15_25 : decode prog_34_method_7_code 25 = .ok (.iconst 1, 1) := by decide +kernel
theorem d15_26 : decode prog_34_method_7_code 26 = .ok (.goto 4, 3) := by decide +kernel
theorem d15_16 : decode prog_34_method_7_code 16 = .ok (.aload_n 0, 1) := by decide +kernel
theorem d15_17 : decode prog_34_method_7_code 17 = .ok (.getfield 57, 3) := by decide +kernel
theorem d15_20 : decode prog_34_method_7_code 20 = .ok (.lconst 0, 1) := by decide +kernel
theorem d15_21 : decode prog_34_method_7_code 21 = .ok (.lcmp, 1) := by decide +kernel
theorem d15_22 : decode prog_34_method_7_code 22 = .ok (.ifCond .le 7, 3) := by decide +kernel
theorem pn_15 : plainName "com/example/brelok/brelok/perf/Tally" = true := by first | (simp [plainName, overriddenIn]; done) | decide +kernel
theorem ef_rm15 (m : MethodId) (x0 : Addr) : entryFrame m #[(.ref x0)] 1 = mkF m 0 #[.val (.ref x0)] [] := by first | (simp [entryFrame, mkF, argsToLocals, Value.category]; done) | rfl
def Q_rm15 (Z : State) (a : Addr) (ex : Int32) (ov : Int64) (lu : Int64) (h0 : Heap) (n0 : Nat) (rv : Option Value) (h : Heap) (L : List Loc) : Prop := rv = some (.int (if ex = (0 : Int32) then (0 : Int32) else (if (0 : Int32) < (lcmpW ov (0 : Int64)) then (1 : Int32) else (if (0 : Int32) < (lcmpW lu (0 : Int64)) then (1 : Int32) else (0 : Int32))))) ∧ Fr n0 L ∧ h = h0
set_option maxRecDepth 65536 in
set_option maxHeartbeats 40000000 in
theorem rm15 (l : Launch) (Z : State) (a0 : Array Value) (hw : ∀ d ∈ tables_1, d.before a0 Z = true) (ws : List Jvm.Cond) (a : Addr) (ex : Int32) (ov : Int64) (lu : Int64) (h0 : Heap) (n0 : Nat) (Z0 : n0 ≤ h0.size) (F_x : Fld Z h0 a "com/example/brelok/brelok/perf/Tally" "excludes" "Z" (.int ex)) (F_o : Fld Z h0 a "com/example/brelok/brelok/perf/Tally" "overlaps" "J" (.long ov)) (F_l : Fld Z h0 a "com/example/brelok/brelok/perf/Tally" "lostUpdates" "J" (.long lu)) :
    MetFree l (⟨"com/example/brelok/brelok/perf/Tally", "failedToExclude", "()Z"⟩ : MethodName) (head1 (Jvm.Cond.code (⟨"com/example/brelok/brelok/perf/Tally", "failedToExclude", "()Z"⟩ : MethodName) prog_34_method_7_code 1 (some .boolean) :: ws) ({ frames := 0, cells := 0, slots := 0, locals := 0 } : Room)) (fun av U => av = #[(.ref a)] ∧ Z.Warmed39 U.vm ∧ U.heap = h0) (fun _ _ _ _ _ => True) (fun _ U o U' => ∃ rv L, o = .returned rv ∧ Q_rm15 Z a ex ov lu h0 n0 rv U'.heap L ∧ FrameEnd U o U' L ({ frames := 0, cells := 0, slots := 0, locals := 0 } : Room).cells ({ frames := 0, cells := 0, slots := 0, locals := 0 } : Room).slots) := by
  refine MetFree.of_bodySF (plainFor_of_name pn_15) hisR ?_
  intro p e s m args below meth c s₁ Bd hml0 hP hK
  obtain ⟨rfl, hZ, hh⟩ := hP
  have hx := Bd.exec
  have hby := Bd.bytes
  have hml : c.maxLocals = 1 := hml0
  have hown : s.vm.findClass "com/example/brelok/brelok/perf/Tally" = some m.cls := findClass_of_methodNamed Bd.named
  have hnm := (name_of_methodNamed Bd.named Bd.method).1
  have X0 : Stand p l e ({ frames := 0, cells := 0, slots := 0, locals := 0 } : Room) s m #[(.ref a)] below meth c s₁ [] 0 0 := Stand.of_body Bd
  have e0 : s₁.heap = h0 := by rw [← hh, Bd.state]; rfl
  have N0 := Fr.nil n0
  have pre0 : ∀ t, Steps p.tables e below (s₁.setTop (mkF m 0 #[.val (.ref a)] [])) t → Steps p.tables e below (s₁.setTop (entryFrame m #[(.ref a)] 1)) t := fun t k => castTop (ef_rm15 m a) k
  have sg1 : ∀ target, Steps p.tables e below (s₁.setTop (mkF m 1 #[.val (.ref a)] [(.ref a)])) target → Steps p.tables e below (s₁.setTop (mkF m 0 #[.val (.ref a)] [])) target := by
    intro target kt
    show Steps p.tables e below (s₁.setTop (mkF m 0 #[.val (.ref a)] [])) _
    refine XS.aloadN X0.here hx rfl (hb hby d15_0) rfl rfl ?_
    exact kt
  obtain ⟨T2, X2, e2, st2⟩ := getF X0 hx hZ hown (host := "") (Or.inl (hw _ (List.mem_of_getElem? (i := 47) rfl))) Via.refl e0 F_x (g := (mkF m 1 #[.val (.ref a)] [(.ref a)])) rfl rfl (hb hby d15_1)
  by_cases hx1 : ex = (0 : Int32)
  · have sg3 : ∀ target, Steps p.tables e below (T2.setTop (mkF m 30 #[.val (.ref a)] [(.int (0 : Int32))])) target → Steps p.tables e below (T2.setTop (mkF m 4 #[.val (.ref a)] [(.int ex)])) target := by
      intro target kt
      show Steps p.tables e below (T2.setTop (mkF m 4 #[.val (.ref a)] [(.int ex)])) _
      refine XS.ifYes X2.here hx rfl (pc0 := 4) (pc' := 29) rfl (hb hby d15_4) rfl ((if0 _ _).trans (teq (hx1 : ex = (0 : Int32))).1) (by decide) (by decide) ?_
      show Steps p.tables e below (T2.setTop (mkF m 29 #[.val (.ref a)] [])) _
      refine XS.iconst X2.here hx rfl (hb hby d15_29) ?_
      exact kt
    obtain ⟨fs, hr, hrun, hended, hW, hsame⟩ := X2.leave (v := some (.int (0 : Int32))) (fun h => by rw [Bd.returns] at h; cases h)
    refine ⟨_, _, pre0 _ ?_, hrun, hended, _, _, rfl, ?_, ⟨_, rfl⟩, hW, hsame.mono (by decide) (by decide)⟩
    · show Steps p.tables e below (s₁.setTop (mkF m 0 #[.val (.ref a)] [])) _
      refine sg1 _ ?_
      refine st2 _ ?_
      refine sg3 _ ?_
      show Steps p.tables e below (T2.setTop (mkF m 30 #[.val (.ref a)] [(.int (0 : Int32))])) _
      exact retN X2 hx (t := .boolean) Bd.returns (by simp) (hb hby d15_30) hr
    · show Q_rm15 Z a ex ov lu h0 n0 _ T2.heap _
      rw [e2]
      exact ⟨(by rw [if_pos hx1]), N0, rfl⟩
  · have sg4 : ∀ target, Steps p.tables e below (T2.setTop (mkF m 8 #[.val (.ref a)] [(.ref a)])) target → Steps p.tables e below (T2.setTop (mkF m 4 #[.val (.ref a)] [(.int ex)])) target := by
      intro target kt
      show Steps p.tables e below (T2.setTop (mkF m 4 #[.val (.ref a)] [(.int ex)])) _
      refine XS.ifNo X2.here hx rfl (hb hby d15_4) rfl ((if0 _ _).trans (feq (hx1 : ¬ (ex = (0 : Int32)))).1) ?_
      show Steps p.tables e below (T2.setTop (mkF m 7 #[.val (.ref a)] [])) _
      refine XS.aloadN X2.here hx rfl (hb hby d15_7) rfl rfl ?_
      exact kt
    obtain ⟨T5, X5, e5, st5⟩ := getF X2 hx hZ hown (host := "") (Or.inl (hw _ (List.mem_of_getElem? (i := 83) rfl))) Via.refl e2 F_o (g := (mkF m 8 #[.val (.ref a)] [(.ref a)])) rfl rfl (hb hby d15_8)
    have sg6 : ∀ target, Steps p.tables e below (T5.setTop (mkF m 13 #[.val (.ref a)] [(.int (lcmpW ov (0 : Int64)))])) target → Steps p.tables e below (T5.setTop (mkF m 11 #[.val (.ref a)] [(.long ov)])) target := by
      intro target kt
      show Steps p.tables e below (T5.setTop (mkF m 11 #[.val (.ref a)] [(.long ov)])) _
      refine XS.lconst X5.here hx rfl (hb hby d15_11) ?_
      show Steps p.tables e below (T5.setTop (mkF m 12 #[.val (.ref a)] [(.long (0 : Int64)), (.long ov)])) _
      refine XS.lcmp X5.here hx rfl (hb hby d15_12) rfl ?_
      exact kt
    by_cases hx2 : (0 : Int32) < (lcmpW ov (0 : Int64))
    · have sg7 : ∀ target, Steps p.tables e below (T5.setTop (mkF m 30 #[.val (.ref a)] [(.int (1 : Int32))])) target → Steps p.tables e below (T5.setTop (mkF m 13 #[.val (.ref a)] [(.int (lcmpW ov (0 : Int64)))])) target := by
        intro target kt
        show Steps p.tables e below (T5.setTop (mkF m 13 #[.val (.ref a)] [(.int (lcmpW ov (0 : Int64)))])) _
        refine XS.ifYes X5.here hx rfl (pc0 := 13) (pc' := 25) rfl (hb hby d15_13) rfl ((if0 _ _).trans (tlt (hx2 : (0 : Int32) < (lcmpW ov (0 : Int64)))).2.2.1) (by decide) (by decide) ?_
        show Steps p.tables e below (T5.setTop (mkF m 25 #[.val (.ref a)] [])) _
        refine XS.iconst X5.here hx rfl (hb hby d15_25) ?_
        show Steps p.tables e below (T5.setTop (mkF m 26 #[.val (.ref a)] [(.int (1 : Int32))])) _
        refine XS.goto X5.here hx rfl (pc0 := 26) (pc' := 30) rfl (hb hby d15_26) (by decide) (by decide) ?_
        exact kt
      obtain ⟨fs, hr, hrun, hended, hW, hsame⟩ := X5.leave (v := some (.int (1 : Int32))) (fun h => by rw [Bd.returns] at h; cases h)
      refine ⟨_, _, pre0 _ ?_, hrun, hended, _, _, rfl, ?_, ⟨_, rfl⟩, hW, hsame.mono (by decide) (by decide)⟩
      · show Steps p.tables e below (s₁.setTop (mkF m 0 #[.val (.ref a)] [])) _
        refine sg1 _ ?_
        refine st2 _ ?_
        refine sg4 _ ?_
        refine st5 _ ?_
        refine sg6 _ ?_
        refine sg7 _ ?_
        show Steps p.tables e below (T5.setTop (mkF m 30 #[.val (.ref a)] [(.int (1 : Int32))])) _
        exact retN X5 hx (t := .boolean) Bd.returns (by simp) (hb hby d15_30) hr
      · show Q_rm15 Z a ex ov lu h0 n0 _ T5.heap _
        rw [e5]
        exact ⟨(by rw [if_neg hx1, if_pos hx2]), N0, rfl⟩
    · have sg8 : ∀ target, Steps p.tables e below (T5.setTop (mkF m 17 #[.val (.ref a)] [(.ref a)])) target → Steps p.tables e below (T5.setTop (mkF m 13 #[.val (.ref a)] [(.int (lcmpW ov (0 : Int64)))])) target := by
        intro target kt
        show Steps p.tables e below (T5.setTop (mkF m 13 #[.val (.ref a)] [(.int (lcmpW ov (0 : Int64)))])) _
        refine XS.ifNo X5.here hx rfl (hb hby d15_13) rfl ((if0 _ _).trans (flt (hx2 : ¬ ((0 : Int32) < (lcmpW ov (0 : Int64))))).2.2.1) ?_
        show Steps p.tables e below (T5.setTop (mkF m 16 #[.val (.ref a)] [])) _
        refine XS.aloadN X5.here hx rfl (hb hby d15_16) rfl rfl ?_
        exact kt
      obtain ⟨T9, X9, e9, st9⟩ := getF X5 hx hZ hown (host := "") (Or.inl (hw _ (List.mem_of_getElem? (i := 90) rfl))) Via.refl e5 F_l (g := (mkF m 17 #[.val (.ref a)] [(.ref a)])) rfl rfl (hb hby d15_17)
      have sg10 : ∀ target, Steps p.tables e below (T9.setTop (mkF m 22 #[.val (.ref a)] [(.int (lcmpW lu (0 : Int64)))])) target → Steps p.tables e below (T9.setTop (mkF m 20 #[.val (.ref a)] [(.long lu)])) target := by
        intro target kt
        show Steps p.tables e below (T9.setTop (mkF m 20 #[.val (.ref a)] [(.long lu)])) _
        refine XS.lconst X9.here hx rfl (hb hby d15_20) ?_
        show Steps p.tables e below (T9.setTop (mkF m 21 #[.val (.ref a)] [(.long (0 : Int64)), (.long lu)])) _
        refine XS.lcmp X9.here hx rfl (hb hby d15_21) rfl ?_
        exact kt
      by_cases hx3 : (0 : Int32) < (lcmpW lu (0 : Int64))
      · have sg12 : ∀ target, Steps p.tables e below (T9.setTop (mkF m 30 #[.val (.ref a)] [(.int (1 : Int32))])) target → Steps p.tables e below (T9.setTop (mkF m 22 #[.val (.ref a)] [(.int (lcmpW lu (0 : Int64)))])) target := by
          intro target kt
          show Steps p.tables e below (T9.setTop (mkF m 22 #[.val (.ref a)] [(.int (lcmpW lu (0 : Int64)))])) _
          refine XS.ifNo X9.here hx rfl (hb hby d15_22) rfl ((if0 _ _).trans (tlt (hx3 : (0 : Int32) < (lcmpW lu (0 : Int64)))).2.2.2) ?_
          show Steps p.tables e below (T9.setTop (mkF m 25 #[.val (.ref a)] [])) _
          refine XS.iconst X9.here hx rfl (hb hby d15_25) ?_
          show Steps p.tables e below (T9.setTop (mkF m 26 #[.val (.ref a)] [(.int (1 : Int32))])) _
          refine XS.goto X9.here hx rfl (pc0 := 26) (pc' := 30) rfl (hb hby d15_26) (by decide) (by decide) ?_
          exact kt
        obtain ⟨fs, hr, hrun, hended, hW, hsame⟩ := X9.leave (v := some (.int (1 : Int32))) (fun h => by rw [Bd.returns] at h; cases h)
        refine ⟨_, _, pre0 _ ?_, hrun, hended, _, _, rfl, ?_, ⟨_, rfl⟩, hW, hsame.mono (by decide) (by decide)⟩
        · show Steps p.tables e below (s₁.setTop (mkF m 0 #[.val (.ref a)] [])) _
          refine sg1 _ ?_
          refine st2 _ ?_
          refine sg4 _ ?_
          refine st5 _ ?_
          refine sg6 _ ?_
          refine sg8 _ ?_
          refine st9 _ ?_
          refine sg10 _ ?_
          refine sg12 _ ?_
          show Steps p.tables e below (T9.setTop (mkF m 30 #[.val (.ref a)] [(.int (1 : Int32))])) _
          exact retN X9 hx (t := .boolean) Bd.returns (by simp) (hb hby d15_30) hr
        · show Q_rm15 Z a ex ov lu h0 n0 _ T9.heap _
          rw [e9]
          exact ⟨(by rw [if_neg hx1, if_neg hx2, if_pos hx3]), N0, rfl⟩
      · have sg11 : ∀ target, Steps p.tables e below (T9.setTop (mkF m 30 #[.val (.ref a)] [(.int (0 : Int32))])) target → Steps p.tables e below (T9.setTop (mkF m 22 #[.val (.ref a)] [(.int (lcmpW lu (0 : Int64)))])) target := by
          intro target kt
          show Steps p.tables e below (T9.setTop (mkF m 22 #[.val (.ref a)] [(.int (lcmpW lu (0 : Int64)))])) _
          refine XS.ifYes X9.here hx rfl (pc0 := 22) (pc' := 29) rfl (hb hby d15_22) rfl ((if0 _ _).trans (flt (hx3 : ¬ ((0 : Int32) < (lcmpW lu (0 : Int64))))).2.2.2) (by decide) (by decide) ?_
          show Steps p.tables e below (T9.setTop (mkF m 29 #[.val (.ref a)] [])) _
          refine XS.iconst X9.here hx rfl (hb hby d15_29) ?_
          exact kt
        obtain ⟨fs, hr, hrun, hended, hW, hsame⟩ := X9.leave (v := some (.int (0 : Int32))) (fun h => by rw [Bd.returns] at h; cases h)
        refine ⟨_, _, pre0 _ ?_, hrun, hended, _, _, rfl, ?_, ⟨_, rfl⟩, hW, hsame.mono (by decide) (by decide)⟩
        · show Steps p.tables e below (s₁.setTop (mkF m 0 #[.val (.ref a)] [])) _
          refine sg1 _ ?_
          refine st2 _ ?_
          refine sg4 _ ?_
          refine st5 _ ?_
          refine sg6 _ ?_
          refine sg8 _ ?_
          refine st9 _ ?_
          refine sg10 _ ?_
          refine sg11 _ ?_
          show Steps p.tables e below (T9.setTop (mkF m 30 #[.val (.ref a)] [(.int (0 : Int32))])) _
          exact retN X9 hx (t := .boolean) Bd.returns (by simp) (hb hby d15_30) hr
        · show Q_rm15 Z a ex ov lu h0 n0 _ T9.heap _
          rw [e9]
          exact ⟨(by rw [if_neg hx1, if_neg hx2, if_neg hx3]), N0, rfl⟩
theorem own_l0 (x y : Int64) (h : x = y) : lcmpW x y = 0 := (lw_eq x y).mpr h
theorem own_bool {f z : Int32} (h : z = if (f &&& (1 : Int32)) = (0 : Int32) then (0 : Int32) else (1 : Int32)) : nar .boolean z = z := by
  subst h; split <;> decide
theorem pd_7 : parseMethodDescriptor "(Ljava/lang/String;Z)V" = some ⟨[(.object "java/lang/String"), .boolean], none⟩ := by decide +kernel
theorem pd_5 : parseMethodDescriptor "(DJJ)V" = some ⟨[.double, .long, .long], none⟩ := by decide +kernel
theorem pd_4 : parseMethodDescriptor "()Z" = some ⟨[], some .boolean⟩ := by decide +kernel
theorem pn_0 : plainName "com/example/brelok/brelok/perf/TallySetWaitingPinLaw" = true := by first | (simp [plainName, overriddenIn]; done) | decide +kernel
theorem ef_rm0 (m : MethodId) (x0 : Int64) (x1 : Int64) (x2 : Int64) (x3 : Int64) (x4 : Int32) : entryFrame m #[(.long x0), (.long x1), (.long x2), (.long x3), (.int x4)] maxLocals = mkF m 0 #[.val (.long x0), .second, .val (.long x1), .second, .val (.long x2), .second, .val (.long x3), .second, .val (.int x4), .unset, .unset, .unset, .unset, .unset, .unset, .unset, .unset, .unset, .unset] [] := by first | (simp [entryFrame, mkF, argsToLocals, Value.category, maxLocals]; done) | rfl
def Q_rm0 (Z : State) (o1 : Int64) (l1 : Int64) (o2 : Int64) (l2 : Int64) (p5 : Int32) (d0 : Addr) (h0 : Heap) (n0 : Nat) (rv : Option Value) (h : Heap) (L : List Loc) : Prop := rv = some (.int 1) ∧ Fr n0 L
set_option maxRecDepth 65536 in
set_option maxHeartbeats 40000000 in
theorem rm0 (l : Launch) (Z : State) (a0 : Array Value) (hw : ∀ d ∈ tables_1, d.before a0 Z = true) (ws : List Jvm.Cond) (o1 : Int64) (l1 : Int64) (o2 : Int64) (l2 : Int64) (p5 : Int32) (d0 : Addr) (h0 : Heap) (n0 : Nat) (Z0 : n0 ≤ h0.size) (O : Old Z n0 h0) (S0 : Sta Z Z.heap "java/util/ArrayList" "DEFAULTCAPACITY_EMPTY_ELEMENTDATA" "[Ljava/lang/Object;" (.ref d0)) :
    MetFree l x (head1 (Jvm.Cond.code x code maxLocals ret :: ws) room_1) (fun av U => av = #[(.long o1), (.long l1), (.long o2), (.long l2), (.int p5)] ∧ Z.Warmed39 U.vm ∧ U.heap = h0) (fun _ _ _ _ _ => True) (fun _ U o U' => ∃ rv L, o = .returned rv ∧ Q_rm0 Z o1 l1 o2 l2 p5 d0 h0 n0 rv U'.heap L ∧ ReturnedEndW U o U' L room_1.cells room_1.slots) := by
  refine MetFree.of_bodySF (plainFor_of_name pn_0) hisR ?_
  intro p e s m args below meth c s₁ Bd hml0 hP hK
  obtain ⟨rfl, hZ, hh⟩ := hP
  have hx := Bd.exec
  have hby := Bd.bytes
  have hml : c.maxLocals = 19 := hml0
  have hown : s.vm.findClass "com/example/brelok/brelok/perf/TallySetWaitingPinLaw" = some m.cls := findClass_of_methodNamed Bd.named
  have hnm := (name_of_methodNamed Bd.named Bd.method).1
  have X0 : Stand p l e room_1 s m #[(.long o1), (.long l1), (.long o2), (.long l2), (.int p5)] below meth c s₁ [] 0 0 := Stand.of_body Bd
  have e0 : s₁.heap = h0 := by rw [← hh, Bd.state]; rfl
  have N0 := Fr.nil n0
  have pre0 : ∀ t, Steps p.tables e below (s₁.setTop (mkF m 0 #[.val (.long o1), .second, .val (.long l1), .second, .val (.long o2), .second, .val (.long l2), .second, .val (.int p5), .unset, .unset, .unset, .unset, .unset, .unset, .unset, .unset, .unset, .unset] [])) t → Steps p.tables e below (s₁.setTop (entryFrame m #[(.long o1), (.long l1), (.long o2), (.long l2), (.int p5)] maxLocals)) t := fun t k => castTop (ef_rm0 m o1 l1 o2 l2 p5) k
  have hS0 : s.Since s.vm h0.size := State.WarmedH.since (State.WarmedH.refl s) _
  have sg1 : ∀ target, Steps p.tables e below (s₁.setTop (mkF m 4 #[.val (.long o1), .second, .val (.long l1), .second, .val (.long o2), .second, .val (.long l2), .second, .val (.int p5), .unset, .unset, .unset, .unset, .unset, .unset, .unset, .unset, .unset, .unset] [(.int (p5 &&& (1 : Int32)))])) target → Steps p.tables e below (s₁.setTop (mkF m 0 #[.val (.long o1), .second, .val (.long l1), .second, .val (.long o2), .second, .val (.long l2), .second, .val (.int p5), .unset, .unset, .unset, .unset, .unset, .unset, .unset, .unset, .unset, .unset] [])) target := by
    intro target kt
    show Steps p.tables e below (s₁.setTop (mkF m 0 #[.val (.long o1), .second, .val (.long l1), .second, .val (.long o2), .second, .val (.long l2), .second, .val (.int p5), .unset, .unset, .unset, .unset, .unset, .unset, .unset, .unset, .unset, .unset] [])) _
    refine XS.iload X0.here hx rfl (hb hby at_0) rfl ?_
    show Steps p.tables e below (s₁.setTop (mkF m 2 #[.val (.long o1), .second, .val (.long l1), .second, .val (.long o2), .second, .val (.long l2), .second, .val (.int p5), .unset, .unset, .unset, .unset, .unset, .unset, .unset, .unset, .unset, .unset] [(.int p5)])) _
    refine XS.iconst X0.here hx rfl (hb hby at_2) ?_
    show Steps p.tables e below (s₁.setTop (mkF m 3 #[.val (.long o1), .second, .val (.long l1), .second, .val (.long o2), .second, .val (.long l2), .second, .val (.int p5), .unset, .unset, .unset, .unset, .unset, .unset, .unset, .unset, .unset, .unset] [(.int (1 : Int32)), (.int p5)])) _
    refine XS.iand X0.here hx rfl (hb hby at_3) rfl ?_
    exact kt
  obtain ⟨ex, q_ex⟩ : ∃ z : Int32, z = (if (p5 &&& (1 : Int32)) = (0 : Int32) then (0 : Int32) else (1 : Int32)) := ⟨_, rfl⟩
  have sg4 : ∀ target, Steps p.tables e below (s₁.setTop (mkF m 12 #[.val (.long o1), .second, .val (.long l1), .second, .val (.long o2), .second, .val (.long l2), .second, .val (.int p5), .unset, .unset, .unset, .unset, .unset, .unset, .unset, .unset, .unset, .unset] [(.int ex)])) target → Steps p.tables e below (s₁.setTop (mkF m 4 #[.val (.long o1), .second, .val (.long l1), .second, .val (.long o2), .second, .val (.long l2), .second, .val (.int p5), .unset, .unset, .unset, .unset, .unset, .unset, .unset, .unset, .unset, .unset] [(.int (p5 &&& (1 : Int32)))])) target := by
    intro target kt
    by_cases hj3_4 : (p5 &&& (1 : Int32)) = (0 : Int32)
    · rw [if_pos hj3_4] at q_ex
      rw [q_ex] at kt
      show Steps p.tables e below (s₁.setTop (mkF m 4 #[.val (.long o1), .second, .val (.long l1), .second, .val (.long o2), .second, .val (.long l2), .second, .val (.int p5), .unset, .unset, .unset, .unset, .unset, .unset, .unset, .unset, .unset, .unset] [(.int (p5 &&& (1 : Int32)))])) _
      refine XS.ifYes X0.here hx rfl (pc0 := 4) (pc' := 11) rfl (hb hby at_4) rfl ((if0 _ _).trans (teq (hj3_4 : (p5 &&& (1 : Int32)) = (0 : Int32))).1) (by decide) (by decide) ?_
      show Steps p.tables e below (s₁.setTop (mkF m 11 #[.val (.long o1), .second, .val (.long l1), .second, .val (.long o2), .second, .val (.long l2), .second, .val (.int p5), .unset, .unset, .unset, .unset, .unset, .unset, .unset, .unset, .unset, .unset] [])) _
      refine XS.iconst X0.here hx rfl (hb hby at_11) ?_
      exact kt
    · rw [if_neg hj3_4] at q_ex
      rw [q_ex] at kt
      show Steps p.tables e below (s₁.setTop (mkF m 4 #[.val (.long o1), .second, .val (.long l1), .second, .val (.long o2), .second, .val (.long l2), .second, .val (.int p5), .unset, .unset, .unset, .unset, .unset, .unset, .unset, .unset, .unset, .unset] [(.int (p5 &&& (1 : Int32)))])) _
      refine XS.ifNo X0.here hx rfl (hb hby at_4) rfl ((if0 _ _).trans (feq (hj3_4 : ¬ ((p5 &&& (1 : Int32)) = (0 : Int32)))).1) ?_
      show Steps p.tables e below (s₁.setTop (mkF m 7 #[.val (.long o1), .second, .val (.long l1), .second, .val (.long o2), .second, .val (.long l2), .second, .val (.int p5), .unset, .unset, .unset, .unset, .unset, .unset, .unset, .unset, .unset, .unset] [])) _
      refine XS.iconst X0.here hx rfl (hb hby at_7) ?_
      show Steps p.tables e below (s₁.setTop (mkF m 8 #[.val (.long o1), .second, .val (.long l1), .second, .val (.long o2), .second, .val (.long l2), .second, .val (.int p5), .unset, .unset, .unset, .unset, .unset, .unset, .unset, .unset, .unset, .unset] [(.int (1 : Int32))])) _
      refine XS.goto X0.here hx rfl (pc0 := 8) (pc' := 12) rfl (hb hby at_8) (by decide) (by decide) ?_
      exact kt
  have hex := own_bool q_ex
  have sg5 : ∀ target, Steps p.tables e below (s₁.setTop (mkF m 14 #[.val (.long o1), .second, .val (.long l1), .second, .val (.long o2), .second, .val (.long l2), .second, .val (.int p5), .val (.int ex), .unset, .unset, .unset, .unset, .unset, .unset, .unset, .unset, .unset] [])) target → Steps p.tables e below (s₁.setTop (mkF m 12 #[.val (.long o1), .second, .val (.long l1), .second, .val (.long o2), .second, .val (.long l2), .second, .val (.int p5), .unset, .unset, .unset, .unset, .unset, .unset, .unset, .unset, .unset, .unset] [(.int ex)])) target := by
    intro target kt
    show Steps p.tables e below (s₁.setTop (mkF m 12 #[.val (.long o1), .second, .val (.long l1), .second, .val (.long o2), .second, .val (.long l2), .second, .val (.int p5), .unset, .unset, .unset, .unset, .unset, .unset, .unset, .unset, .unset, .unset] [(.int ex)])) _
    refine XS.istore X0.here hx rfl (hb hby at_12) rfl (l' := #[.val (.long o1), .second, .val (.long l1), .second, .val (.long o2), .second, .val (.long l2), .second, .val (.int p5), .val (.int ex), .unset, .unset, .unset, .unset, .unset, .unset, .unset, .unset, .unset]) rfl ?_
    exact kt
  obtain ⟨T6, h6, X6, e6, E6, A6, D6, -, st6⟩ := newO X0 hx hZ hown (hw _ (List.mem_of_getElem? (i := 0) rfl)) (hw _ (List.mem_of_getElem? (i := 1) rfl)) (hw _ (List.mem_of_getElem? (i := 2) rfl)) e0 (g := (mkF m 14 #[.val (.long o1), .second, .val (.long l1), .second, .val (.long o2), .second, .val (.long l2), .second, .val (.int p5), .val (.int ex), .unset, .unset, .unset, .unset, .unset, .unset, .unset, .unset, .unset] [])) rfl (hb hby at_14) (by decide) (by decide)
  obtain ⟨b6, g6⟩ : ∃ z, z = h0.size := ⟨_, rfl⟩
  rw [← g6] at A6 D6 st6
  have g_b6 : n0 ≤ b6 := Nat.le_trans Z0 (Nat.le_of_eq g6.symm)
  have Zs6 : n0 ≤ h6.size := Nat.le_trans Z0 E6.1
  have f7 : Old Z n0 h6 := O.ext E6
  have f8 : Exa Z h6 b6 "com/example/brelok/brelok/perf/Tally" := A6
  have f9 : Fld Z h6 b6 "com/example/brelok/brelok/perf/Tally" "solo" "Ljava/util/List;" .null := D6 (Or.inr (hw _ (List.mem_of_getElem? (i := 42) rfl))) (ty := (.object "java/util/List")) (by decide)
  have f10 : Fld Z h6 b6 "com/example/brelok/brelok/perf/Tally" "contended" "Ljava/util/List;" .null := D6 (Or.inr (hw _ (List.mem_of_getElem? (i := 44) rfl))) (ty := (.object "java/util/List")) (by decide)
  have f11 : Fld Z h6 b6 "com/example/brelok/brelok/perf/Tally" "name" "Ljava/lang/String;" .null := D6 (Or.inr (hw _ (List.mem_of_getElem? (i := 46) rfl))) (ty := (.object "java/lang/String")) (by decide)
  have f12 : Fld Z h6 b6 "com/example/brelok/brelok/perf/Tally" "excludes" "Z" (.int (0 : Int32)) := D6 (Or.inr (hw _ (List.mem_of_getElem? (i := 48) rfl))) (ty := .boolean) (by decide)
  have f13 : Fld Z h6 b6 "com/example/brelok/brelok/perf/Tally" "waiting" "D" (.double (0 : UInt64)) := D6 (Or.inl (hw _ (List.mem_of_getElem? (i := 78) rfl))) (ty := .double) (by decide)
  have f14 : Fld Z h6 b6 "com/example/brelok/brelok/perf/Tally" "overlaps" "J" (.long (0 : Int64)) := D6 (Or.inl (hw _ (List.mem_of_getElem? (i := 84) rfl))) (ty := .long) (by decide)
  have f15 : Fld Z h6 b6 "com/example/brelok/brelok/perf/Tally" "lostUpdates" "J" (.long (0 : Int64)) := D6 (Or.inl (hw _ (List.mem_of_getElem? (i := 91) rfl))) (ty := .long) (by decide)
  have sg16 : ∀ target, Steps p.tables e below (T6.setTop (mkF m 18 #[.val (.long o1), .second, .val (.long l1), .second, .val (.long o2), .second, .val (.long l2), .second, .val (.int p5), .val (.int ex), .unset, .unset, .unset, .unset, .unset, .unset, .unset, .unset, .unset] [(.ref b6), (.ref b6)])) target → Steps p.tables e below (T6.setTop (mkF m 17 #[.val (.long o1), .second, .val (.long l1), .second, .val (.long o2), .second, .val (.long l2), .second, .val (.int p5), .val (.int ex), .unset, .unset, .unset, .unset, .unset, .unset, .unset, .unset, .unset] [(.ref b6)])) target := by
    intro target kt
    show Steps p.tables e below (T6.setTop (mkF m 17 #[.val (.long o1), .second, .val (.long l1), .second, .val (.long o2), .second, .val (.long l2), .second, .val (.int p5), .val (.int ex), .unset, .unset, .unset, .unset, .unset, .unset, .unset, .unset, .unset] [(.ref b6)])) _
    refine XS.dup X6.here hx rfl (hb hby at_17) rfl rfl ?_
    exact kt
  obtain ⟨b17, T17, h17, k17, X17, e17, E17, hS17, hk17, hZ17, hown17, st17⟩ := ldcS (s := s) (vm0 := s.vm) X6 hx hZ (own := "com/example/brelok/brelok/perf/TallySetWaitingPinLaw") hown (hw _ (List.mem_of_getElem? (i := 3) rfl)) (own_wS hw) e6 hS0 (Nat.le_trans (Nat.le_refl h0.size) E6.1) (g := (mkF m 18 #[.val (.long o1), .second, .val (.long l1), .second, .val (.long o2), .second, .val (.long l2), .second, .val (.int p5), .val (.int ex), .unset, .unset, .unset, .unset, .unset, .unset, .unset, .unset, .unset] [(.ref b6), (.ref b6)])) rfl (hb hby at_18) (n := 4) (by decide) (by decide) (by decide) (by decide)
  have Zs17 : n0 ≤ h17.size := Nat.le_trans Zs6 E17.1
  have f18 : Old Z n0 h17 := f7.ext E17
  have f19 : Exa Z h17 b6 "com/example/brelok/brelok/perf/Tally" := f8.ext E17
  have f20 : Fld Z h17 b6 "com/example/brelok/brelok/perf/Tally" "solo" "Ljava/util/List;" .null := f9.ext E17
  have f21 : Fld Z h17 b6 "com/example/brelok/brelok/perf/Tally" "contended" "Ljava/util/List;" .null := f10.ext E17
  have f22 : Fld Z h17 b6 "com/example/brelok/brelok/perf/Tally" "name" "Ljava/lang/String;" .null := f11.ext E17
  have f23 : Fld Z h17 b6 "com/example/brelok/brelok/perf/Tally" "excludes" "Z" (.int (0 : Int32)) := f12.ext E17
  have f24 : Fld Z h17 b6 "com/example/brelok/brelok/perf/Tally" "waiting" "D" (.double (0 : UInt64)) := f13.ext E17
  have f25 : Fld Z h17 b6 "com/example/brelok/brelok/perf/Tally" "overlaps" "J" (.long (0 : Int64)) := f14.ext E17
  have f26 : Fld Z h17 b6 "com/example/brelok/brelok/perf/Tally" "lostUpdates" "J" (.long (0 : Int64)) := f15.ext E17
  have sg27 : ∀ target, Steps p.tables e below (T17.setTop (mkF m 22 #[.val (.long o1), .second, .val (.long l1), .second, .val (.long o2), .second, .val (.long l2), .second, .val (.int p5), .val (.int ex), .unset, .unset, .unset, .unset, .unset, .unset, .unset, .unset, .unset] [(.int ex), (.ref b17), (.ref b6), (.ref b6)])) target → Steps p.tables e below (T17.setTop (mkF m 20 #[.val (.long o1), .second, .val (.long l1), .second, .val (.long o2), .second, .val (.long l2), .second, .val (.int p5), .val (.int ex), .unset, .unset, .unset, .unset, .unset, .unset, .unset, .unset, .unset] [(.ref b17), (.ref b6), (.ref b6)])) target := by
    intro target kt
    show Steps p.tables e below (T17.setTop (mkF m 20 #[.val (.long o1), .second, .val (.long l1), .second, .val (.long o2), .second, .val (.long l2), .second, .val (.int p5), .val (.int ex), .unset, .unset, .unset, .unset, .unset, .unset, .unset, .unset, .unset] [(.ref b17), (.ref b6), (.ref b6)])) _
    refine XS.iload X17.here hx rfl (hb hby at_20) rfl ?_
    exact kt
  obtain ⟨_, _, ⟨T28, L28, k28, n28⟩, -, X28, ⟨Lc28, hQ28, l28, y28, z28⟩, st28⟩ := X17.specialBack hx (y := (⟨"com/example/brelok/brelok/perf/Tally", "<init>", "(Ljava/lang/String;Z)V"⟩ : MethodName)) rfl hown17 (mvT hZ17 (hw _ (List.mem_of_getElem? (i := 11) rfl))) (mvT hZ17 (hw _ (List.mem_of_getElem? (i := 12) rfl))) (mvT hZ17 (hw _ (List.mem_of_getElem? (i := 13) rfl))) (by decide) (backOf (W := 1) (rm1 l Z a0 hw [] b6 b17 ex d0 h17 n0 Zs17 f19 f20 f21 f22 f23 f24 f25 f26 g_b6 f18 S0) hZ17 (hw _ (List.mem_of_getElem? (i := 13) rfl)) (hw _ (List.mem_of_getElem? (i := 2) rfl)) (by decide) (by decide)) (g := (mkF m 22 #[.val (.long o1), .second, .val (.long l1), .second, .val (.long o2), .second, .val (.long l2), .second, .val (.int p5), .val (.int ex), .unset, .unset, .unset, .unset, .unset, .unset, .unset, .unset, .unset] [(.int ex), (.ref b17), (.ref b6), (.ref b6)])) rfl (by rw [hml]; rfl) (Steps.refl _) (a := b6) (argsL := [(.ref b17), (.int ex)]) (rest := [(.ref b6)]) (lenOf pd_7 rfl) rfl (by show 2 * 0 + _ ≤ _; exact Nat.le_of_eq rfl) (hb hby at_22) (fun _ _ => ⟨rfl, e17, (by decide : 3 + 2 ≤ _), (by decide : 15 + 6 ≤ _)⟩)
  dsimp only [Pt.U, Pt.locs, Pt.cells, Pt.slots] at X28 l28 y28 z28 st28 hQ28
  subst l28 y28 z28
  obtain ⟨rfl, N28q, c28_0, c28_1, c28_2, c28_3, c28_4, c28_5⟩ := hQ28
  have N28 := Fr.app N0 N28q
  have Zs28 : n0 ≤ T28.heap.size := Nat.le_trans Zs17 c28_0.1
  have f29 : Old Z n0 T28.heap := f18.keep c28_0 (allS g_b6 all0)
  have f30 : Exa Z T28.heap b6 "com/example/brelok/brelok/perf/Tally" := c28_1
  have f31 : Fld Z T28.heap b6 "com/example/brelok/brelok/perf/Tally" "excludes" "Z" (.int (nar .boolean ex)) := c28_2
  have f32 : Fld Z T28.heap b6 "com/example/brelok/brelok/perf/Tally" "waiting" "D" (.double (0 : UInt64)) := c28_3
  have f33 : Fld Z T28.heap b6 "com/example/brelok/brelok/perf/Tally" "overlaps" "J" (.long (0 : Int64)) := c28_4
  have f34 : Fld Z T28.heap b6 "com/example/brelok/brelok/perf/Tally" "lostUpdates" "J" (.long (0 : Int64)) := c28_5
  have sg35 : ∀ target, Steps p.tables e below (T28.setTop (mkF m 27 #[.val (.long o1), .second, .val (.long l1), .second, .val (.long o2), .second, .val (.long l2), .second, .val (.int p5), .val (.int ex), .val (.ref b6), .unset, .unset, .unset, .unset, .unset, .unset, .unset, .unset] [])) target → Steps p.tables e below (T28.setTop (mkF m 25 #[.val (.long o1), .second, .val (.long l1), .second, .val (.long o2), .second, .val (.long l2), .second, .val (.int p5), .val (.int ex), .unset, .unset, .unset, .unset, .unset, .unset, .unset, .unset, .unset] [(.ref b6)])) target := by
    intro target kt
    show Steps p.tables e below (T28.setTop (mkF m 25 #[.val (.long o1), .second, .val (.long l1), .second, .val (.long o2), .second, .val (.long l2), .second, .val (.int p5), .val (.int ex), .unset, .unset, .unset, .unset, .unset, .unset, .unset, .unset, .unset] [(.ref b6)])) _
    refine XS.astore X28.here hx rfl (hb hby at_25) rfl rfl (l' := #[.val (.long o1), .second, .val (.long l1), .second, .val (.long o2), .second, .val (.long l2), .second, .val (.int p5), .val (.int ex), .val (.ref b6), .unset, .unset, .unset, .unset, .unset, .unset, .unset, .unset]) rfl ?_
    exact kt
  obtain ⟨T36, h36, X36, e36, E36, A36, D36, -, st36⟩ := newO X28 hx hZ17 hown17 (hw _ (List.mem_of_getElem? (i := 49) rfl)) (hw _ (List.mem_of_getElem? (i := 50) rfl)) (hw _ (List.mem_of_getElem? (i := 51) rfl)) rfl (g := (mkF m 27 #[.val (.long o1), .second, .val (.long l1), .second, .val (.long o2), .second, .val (.long l2), .second, .val (.int p5), .val (.int ex), .val (.ref b6), .unset, .unset, .unset, .unset, .unset, .unset, .unset, .unset] [])) rfl (hb hby at_27) (by decide) (by decide)
  obtain ⟨b36, g36⟩ : ∃ z, z = T28.heap.size := ⟨_, rfl⟩
  rw [← g36] at A36 D36 st36
  have g_b36 : n0 ≤ b36 := Nat.le_trans Zs28 (Nat.le_of_eq g36.symm)
  have ne_b6_b36 : b6 ≠ b36 := Nat.ne_of_lt (Nat.lt_of_lt_of_le f30.lt (Nat.le_of_eq g36.symm))
  have Zs36 : n0 ≤ h36.size := Nat.le_trans Zs28 E36.1
  have f37 : Old Z n0 h36 := f29.ext E36
  have f38 : Exa Z h36 b6 "com/example/brelok/brelok/perf/Tally" := f30.ext E36
  have f39 : Fld Z h36 b6 "com/example/brelok/brelok/perf/Tally" "excludes" "Z" (.int (nar .boolean ex)) := f31.ext E36
  have f40 : Fld Z h36 b6 "com/example/brelok/brelok/perf/Tally" "waiting" "D" (.double (0 : UInt64)) := f32.ext E36
  have f41 : Fld Z h36 b6 "com/example/brelok/brelok/perf/Tally" "overlaps" "J" (.long (0 : Int64)) := f33.ext E36
  have f42 : Fld Z h36 b6 "com/example/brelok/brelok/perf/Tally" "lostUpdates" "J" (.long (0 : Int64)) := f34.ext E36
  have f43 : Exa Z h36 b36 "com/example/brelok/brelok/perf/Timing$Measure" := A36
  have f44 : Fld Z h36 b36 "com/example/brelok/brelok/perf/Timing$Measure" "figure" "D" (.double (0 : UInt64)) := D36 (Or.inr (hw _ (List.mem_of_getElem? (i := 62) rfl))) (ty := .double) (by decide)
  have f45 : Fld Z h36 b36 "com/example/brelok/brelok/perf/Timing$Measure" "overlaps" "J" (.long (0 : Int64)) := D36 (Or.inr (hw _ (List.mem_of_getElem? (i := 64) rfl))) (ty := .long) (by decide)
  have f46 : Fld Z h36 b36 "com/example/brelok/brelok/perf/Timing$Measure" "lostUpdates" "J" (.long (0 : Int64)) := D36 (Or.inr (hw _ (List.mem_of_getElem? (i := 66) rfl))) (ty := .long) (by decide)
  have sg47 : ∀ target, Steps p.tables e below (T36.setTop (mkF m 38 #[.val (.long o1), .second, .val (.long l1), .second, .val (.long o2), .second, .val (.long l2), .second, .val (.int p5), .val (.int ex), .val (.ref b6), .unset, .unset, .unset, .unset, .unset, .unset, .unset, .unset] [(.long l1), (.long o1), (.double (FP.i2d (p5 >>> ((1 : Int32) &&& 31)))), (.ref b36), (.ref b36)])) target → Steps p.tables e below (T36.setTop (mkF m 30 #[.val (.long o1), .second, .val (.long l1), .second, .val (.long o2), .second, .val (.long l2), .second, .val (.int p5), .val (.int ex), .val (.ref b6), .unset, .unset, .unset, .unset, .unset, .unset, .unset, .unset] [(.ref b36)])) target := by
    intro target kt
    show Steps p.tables e below (T36.setTop (mkF m 30 #[.val (.long o1), .second, .val (.long l1), .second, .val (.long o2), .second, .val (.long l2), .second, .val (.int p5), .val (.int ex), .val (.ref b6), .unset, .unset, .unset, .unset, .unset, .unset, .unset, .unset] [(.ref b36)])) _
    refine XS.dup X36.here hx rfl (hb hby at_30) rfl rfl ?_
    show Steps p.tables e below (T36.setTop (mkF m 31 #[.val (.long o1), .second, .val (.long l1), .second, .val (.long o2), .second, .val (.long l2), .second, .val (.int p5), .val (.int ex), .val (.ref b6), .unset, .unset, .unset, .unset, .unset, .unset, .unset, .unset] [(.ref b36), (.ref b36)])) _
    refine XS.iload X36.here hx rfl (hb hby at_31) rfl ?_
    show Steps p.tables e below (T36.setTop (mkF m 33 #[.val (.long o1), .second, .val (.long l1), .second, .val (.long o2), .second, .val (.long l2), .second, .val (.int p5), .val (.int ex), .val (.ref b6), .unset, .unset, .unset, .unset, .unset, .unset, .unset, .unset] [(.int p5), (.ref b36), (.ref b36)])) _
    refine XS.iconst X36.here hx rfl (hb hby at_33) ?_
    show Steps p.tables e below (T36.setTop (mkF m 34 #[.val (.long o1), .second, .val (.long l1), .second, .val (.long o2), .second, .val (.long l2), .second, .val (.int p5), .val (.int ex), .val (.ref b6), .unset, .unset, .unset, .unset, .unset, .unset, .unset, .unset] [(.int (1 : Int32)), (.int p5), (.ref b36), (.ref b36)])) _
    refine XS.ishr X36.here hx rfl (hb hby at_34) rfl ?_
    show Steps p.tables e below (T36.setTop (mkF m 35 #[.val (.long o1), .second, .val (.long l1), .second, .val (.long o2), .second, .val (.long l2), .second, .val (.int p5), .val (.int ex), .val (.ref b6), .unset, .unset, .unset, .unset, .unset, .unset, .unset, .unset] [(.int (p5 >>> ((1 : Int32) &&& 31))), (.ref b36), (.ref b36)])) _
    refine XS.i2dS X36.here hx rfl (v := (FP.i2d (p5 >>> ((1 : Int32) &&& 31)))) (hb hby at_35) rfl rfl ?_
    show Steps p.tables e below (T36.setTop (mkF m 36 #[.val (.long o1), .second, .val (.long l1), .second, .val (.long o2), .second, .val (.long l2), .second, .val (.int p5), .val (.int ex), .val (.ref b6), .unset, .unset, .unset, .unset, .unset, .unset, .unset, .unset] [(.double (FP.i2d (p5 >>> ((1 : Int32) &&& 31)))), (.ref b36), (.ref b36)])) _
    refine XS.lloadN X36.here hx rfl (hb hby at_36) rfl ?_
    show Steps p.tables e below (T36.setTop (mkF m 37 #[.val (.long o1), .second, .val (.long l1), .second, .val (.long o2), .second, .val (.long l2), .second, .val (.int p5), .val (.int ex), .val (.ref b6), .unset, .unset, .unset, .unset, .unset, .unset, .unset, .unset] [(.long o1), (.double (FP.i2d (p5 >>> ((1 : Int32) &&& 31)))), (.ref b36), (.ref b36)])) _
    refine XS.lloadN X36.here hx rfl (hb hby at_37) rfl ?_
    exact kt
  obtain ⟨_, _, ⟨T48, L48, k48, n48⟩, -, X48, ⟨Lc48, hQ48, l48, y48, z48⟩, st48⟩ := X36.specialBack hx (y := (⟨"com/example/brelok/brelok/perf/Timing$Measure", "<init>", "(DJJ)V"⟩ : MethodName)) rfl hown17 (mvT hZ17 (hw _ (List.mem_of_getElem? (i := 52) rfl))) (mvT hZ17 (hw _ (List.mem_of_getElem? (i := 53) rfl))) (mvT hZ17 (hw _ (List.mem_of_getElem? (i := 54) rfl))) (by decide) (backOf (W := 1) (rm6 l Z a0 hw [] b36 (FP.i2d (p5 >>> ((1 : Int32) &&& 31))) o1 l1 h36 n0 Zs36 f43 f44 f45 f46 g_b36) hZ17 (hw _ (List.mem_of_getElem? (i := 54) rfl)) (hw _ (List.mem_of_getElem? (i := 51) rfl)) (by decide) (by decide)) (g := (mkF m 38 #[.val (.long o1), .second, .val (.long l1), .second, .val (.long o2), .second, .val (.long l2), .second, .val (.int p5), .val (.int ex), .val (.ref b6), .unset, .unset, .unset, .unset, .unset, .unset, .unset, .unset] [(.long l1), (.long o1), (.double (FP.i2d (p5 >>> ((1 : Int32) &&& 31)))), (.ref b36), (.ref b36)])) rfl (by rw [hml]; rfl) (Steps.refl _) (a := b36) (argsL := [(.double (FP.i2d (p5 >>> ((1 : Int32) &&& 31)))), (.long o1), (.long l1)]) (rest := [(.ref b36)]) (lenOf pd_5 rfl) rfl (by show 2 * 0 + _ ≤ _; exact Nat.le_of_eq rfl) (hb hby at_38) (fun _ _ => ⟨rfl, e36, (by decide : 6 + 0 ≤ _), (by decide : 24 + 0 ≤ _)⟩)
  dsimp only [Pt.U, Pt.locs, Pt.cells, Pt.slots] at X48 l48 y48 z48 st48 hQ48
  subst l48 y48 z48
  obtain ⟨rfl, N48q, c48_0, c48_1, c48_2, c48_3, c48_4⟩ := hQ48
  have N48 := Fr.app N28 N48q
  have Zs48 : n0 ≤ T48.heap.size := Nat.le_trans Zs36 c48_0.1
  have f49 : Old Z n0 T48.heap := f37.keep c48_0 (allS g_b36 all0)
  have f50 : Exa Z T48.heap b6 "com/example/brelok/brelok/perf/Tally" := f38.keep c48_0
  have f51 : Fld Z T48.heap b6 "com/example/brelok/brelok/perf/Tally" "excludes" "Z" (.int (nar .boolean ex)) := f39.keep c48_0 (ninS ne_b6_b36 nin0)
  have f52 : Fld Z T48.heap b6 "com/example/brelok/brelok/perf/Tally" "waiting" "D" (.double (0 : UInt64)) := f40.keep c48_0 (ninS ne_b6_b36 nin0)
  have f53 : Fld Z T48.heap b6 "com/example/brelok/brelok/perf/Tally" "overlaps" "J" (.long (0 : Int64)) := f41.keep c48_0 (ninS ne_b6_b36 nin0)
  have f54 : Fld Z T48.heap b6 "com/example/brelok/brelok/perf/Tally" "lostUpdates" "J" (.long (0 : Int64)) := f42.keep c48_0 (ninS ne_b6_b36 nin0)
  have f55 : Exa Z T48.heap b36 "com/example/brelok/brelok/perf/Timing$Measure" := c48_1
  have f56 : Fld Z T48.heap b36 "com/example/brelok/brelok/perf/Timing$Measure" "figure" "D" (.double (FP.i2d (p5 >>> ((1 : Int32) &&& 31)))) := c48_2
  have f57 : Fld Z T48.heap b36 "com/example/brelok/brelok/perf/Timing$Measure" "overlaps" "J" (.long o1) := c48_3
  have f58 : Fld Z T48.heap b36 "com/example/brelok/brelok/perf/Timing$Measure" "lostUpdates" "J" (.long l1) := c48_4
  have sg59 : ∀ target, Steps p.tables e below (T48.setTop (mkF m 43 #[.val (.long o1), .second, .val (.long l1), .second, .val (.long o2), .second, .val (.long l2), .second, .val (.int p5), .val (.int ex), .val (.ref b6), .val (.ref b36), .unset, .unset, .unset, .unset, .unset, .unset, .unset] [])) target → Steps p.tables e below (T48.setTop (mkF m 41 #[.val (.long o1), .second, .val (.long l1), .second, .val (.long o2), .second, .val (.long l2), .second, .val (.int p5), .val (.int ex), .val (.ref b6), .unset, .unset, .unset, .unset, .unset, .unset, .unset, .unset] [(.ref b36)])) target := by
    intro target kt
    show Steps p.tables e below (T48.setTop (mkF m 41 #[.val (.long o1), .second, .val (.long l1), .second, .val (.long o2), .second, .val (.long l2), .second, .val (.int p5), .val (.int ex), .val (.ref b6), .unset, .unset, .unset, .unset, .unset, .unset, .unset, .unset] [(.ref b36)])) _
    refine XS.astore X48.here hx rfl (hb hby at_41) rfl rfl (l' := #[.val (.long o1), .second, .val (.long l1), .second, .val (.long o2), .second, .val (.long l2), .second, .val (.int p5), .val (.int ex), .val (.ref b6), .val (.ref b36), .unset, .unset, .unset, .unset, .unset, .unset, .unset]) rfl ?_
    exact kt
  obtain ⟨T60, h60, X60, e60, E60, A60, D60, -, st60⟩ := newO X48 hx hZ17 hown17 (hw _ (List.mem_of_getElem? (i := 49) rfl)) (hw _ (List.mem_of_getElem? (i := 50) rfl)) (hw _ (List.mem_of_getElem? (i := 51) rfl)) rfl (g := (mkF m 43 #[.val (.long o1), .second, .val (.long l1), .second, .val (.long o2), .second, .val (.long l2), .second, .val (.int p5), .val (.int ex), .val (.ref b6), .val (.ref b36), .unset, .unset, .unset, .unset, .unset, .unset, .unset] [])) rfl (hb hby at_43) (by decide) (by decide)
  obtain ⟨b60, g60⟩ : ∃ z, z = T48.heap.size := ⟨_, rfl⟩
  rw [← g60] at A60 D60 st60
  have g_b60 : n0 ≤ b60 := Nat.le_trans Zs48 (Nat.le_of_eq g60.symm)
  have ne_b6_b60 : b6 ≠ b60 := Nat.ne_of_lt (Nat.lt_of_lt_of_le f50.lt (Nat.le_of_eq g60.symm))
  have ne_b36_b60 : b36 ≠ b60 := Nat.ne_of_lt (Nat.lt_of_lt_of_le f55.lt (Nat.le_of_eq g60.symm))
  have Zs60 : n0 ≤ h60.size := Nat.le_trans Zs48 E60.1
  have f61 : Old Z n0 h60 := f49.ext E60
  have f62 : Exa Z h60 b6 "com/example/brelok/brelok/perf/Tally" := f50.ext E60
  have f63 : Fld Z h60 b6 "com/example/brelok/brelok/perf/Tally" "excludes" "Z" (.int (nar .boolean ex)) := f51.ext E60
  have f64 : Fld Z h60 b6 "com/example/brelok/brelok/perf/Tally" "waiting" "D" (.double (0 : UInt64)) := f52.ext E60
  have f65 : Fld Z h60 b6 "com/example/brelok/brelok/perf/Tally" "overlaps" "J" (.long (0 : Int64)) := f53.ext E60
  have f66 : Fld Z h60 b6 "com/example/brelok/brelok/perf/Tally" "lostUpdates" "J" (.long (0 : Int64)) := f54.ext E60
  have f67 : Exa Z h60 b36 "com/example/brelok/brelok/perf/Timing$Measure" := f55.ext E60
  have f68 : Fld Z h60 b36 "com/example/brelok/brelok/perf/Timing$Measure" "figure" "D" (.double (FP.i2d (p5 >>> ((1 : Int32) &&& 31)))) := f56.ext E60
  have f69 : Fld Z h60 b36 "com/example/brelok/brelok/perf/Timing$Measure" "overlaps" "J" (.long o1) := f57.ext E60
  have f70 : Fld Z h60 b36 "com/example/brelok/brelok/perf/Timing$Measure" "lostUpdates" "J" (.long l1) := f58.ext E60
  have f71 : Exa Z h60 b60 "com/example/brelok/brelok/perf/Timing$Measure" := A60
  have f72 : Fld Z h60 b60 "com/example/brelok/brelok/perf/Timing$Measure" "figure" "D" (.double (0 : UInt64)) := D60 (Or.inr (hw _ (List.mem_of_getElem? (i := 62) rfl))) (ty := .double) (by decide)
  have f73 : Fld Z h60 b60 "com/example/brelok/brelok/perf/Timing$Measure" "overlaps" "J" (.long (0 : Int64)) := D60 (Or.inr (hw _ (List.mem_of_getElem? (i := 64) rfl))) (ty := .long) (by decide)
  have f74 : Fld Z h60 b60 "com/example/brelok/brelok/perf/Timing$Measure" "lostUpdates" "J" (.long (0 : Int64)) := D60 (Or.inr (hw _ (List.mem_of_getElem? (i := 66) rfl))) (ty := .long) (by decide)
  have sg75 : ∀ target, Steps p.tables e below (T60.setTop (mkF m 56 #[.val (.long o1), .second, .val (.long l1), .second, .val (.long o2), .second, .val (.long l2), .second, .val (.int p5), .val (.int ex), .val (.ref b6), .val (.ref b36), .unset, .unset, .unset, .unset, .unset, .unset, .unset] [(.long l2), (.long o2), (.double (FP.i2d (p5 >>> ((2 : Int32) &&& 31)))), (.ref b60), (.ref b60)])) target → Steps p.tables e below (T60.setTop (mkF m 46 #[.val (.long o1), .second, .val (.long l1), .second, .val (.long o2), .second, .val (.long l2), .second, .val (.int p5), .val (.int ex), .val (.ref b6), .val (.ref b36), .unset, .unset, .unset, .unset, .unset, .unset, .unset] [(.ref b60)])) target := by
    intro target kt
    show Steps p.tables e below (T60.setTop (mkF m 46 #[.val (.long o1), .second, .val (.long l1), .second, .val (.long o2), .second, .val (.long l2), .second, .val (.int p5), .val (.int ex), .val (.ref b6), .val (.ref b36), .unset, .unset, .unset, .unset, .unset, .unset, .unset] [(.ref b60)])) _
    refine XS.dup X60.here hx rfl (hb hby at_46) rfl rfl ?_
    show Steps p.tables e below (T60.setTop (mkF m 47 #[.val (.long o1), .second, .val (.long l1), .second, .val (.long o2), .second, .val (.long l2), .second, .val (.int p5), .val (.int ex), .val (.ref b6), .val (.ref b36), .unset, .unset, .unset, .unset, .unset, .unset, .unset] [(.ref b60), (.ref b60)])) _
    refine XS.iload X60.here hx rfl (hb hby at_47) rfl ?_
    show Steps p.tables e below (T60.setTop (mkF m 49 #[.val (.long o1), .second, .val (.long l1), .second, .val (.long o2), .second, .val (.long l2), .second, .val (.int p5), .val (.int ex), .val (.ref b6), .val (.ref b36), .unset, .unset, .unset, .unset, .unset, .unset, .unset] [(.int p5), (.ref b60), (.ref b60)])) _
    refine XS.iconst X60.here hx rfl (hb hby at_49) ?_
    show Steps p.tables e below (T60.setTop (mkF m 50 #[.val (.long o1), .second, .val (.long l1), .second, .val (.long o2), .second, .val (.long l2), .second, .val (.int p5), .val (.int ex), .val (.ref b6), .val (.ref b36), .unset, .unset, .unset, .unset, .unset, .unset, .unset] [(.int (2 : Int32)), (.int p5), (.ref b60), (.ref b60)])) _
    refine XS.ishr X60.here hx rfl (hb hby at_50) rfl ?_
    show Steps p.tables e below (T60.setTop (mkF m 51 #[.val (.long o1), .second, .val (.long l1), .second, .val (.long o2), .second, .val (.long l2), .second, .val (.int p5), .val (.int ex), .val (.ref b6), .val (.ref b36), .unset, .unset, .unset, .unset, .unset, .unset, .unset] [(.int (p5 >>> ((2 : Int32) &&& 31))), (.ref b60), (.ref b60)])) _
    refine XS.i2dS X60.here hx rfl (v := (FP.i2d (p5 >>> ((2 : Int32) &&& 31)))) (hb hby at_51) rfl rfl ?_
    show Steps p.tables e below (T60.setTop (mkF m 52 #[.val (.long o1), .second, .val (.long l1), .second, .val (.long o2), .second, .val (.long l2), .second, .val (.int p5), .val (.int ex), .val (.ref b6), .val (.ref b36), .unset, .unset, .unset, .unset, .unset, .unset, .unset] [(.double (FP.i2d (p5 >>> ((2 : Int32) &&& 31)))), (.ref b60), (.ref b60)])) _
    refine XS.lload X60.here hx rfl (hb hby at_52) rfl ?_
    show Steps p.tables e below (T60.setTop (mkF m 54 #[.val (.long o1), .second, .val (.long l1), .second, .val (.long o2), .second, .val (.long l2), .second, .val (.int p5), .val (.int ex), .val (.ref b6), .val (.ref b36), .unset, .unset, .unset, .unset, .unset, .unset, .unset] [(.long o2), (.double (FP.i2d (p5 >>> ((2 : Int32) &&& 31)))), (.ref b60), (.ref b60)])) _
    refine XS.lload X60.here hx rfl (hb hby at_54) rfl ?_
    exact kt
  obtain ⟨_, _, ⟨T76, L76, k76, n76⟩, -, X76, ⟨Lc76, hQ76, l76, y76, z76⟩, st76⟩ := X60.specialBack hx (y := (⟨"com/example/brelok/brelok/perf/Timing$Measure", "<init>", "(DJJ)V"⟩ : MethodName)) rfl hown17 (mvT hZ17 (hw _ (List.mem_of_getElem? (i := 52) rfl))) (mvT hZ17 (hw _ (List.mem_of_getElem? (i := 53) rfl))) (mvT hZ17 (hw _ (List.mem_of_getElem? (i := 54) rfl))) (by decide) (backOf (W := 1) (rm6 l Z a0 hw [] b60 (FP.i2d (p5 >>> ((2 : Int32) &&& 31))) o2 l2 h60 n0 Zs60 f71 f72 f73 f74 g_b60) hZ17 (hw _ (List.mem_of_getElem? (i := 54) rfl)) (hw _ (List.mem_of_getElem? (i := 51) rfl)) (by decide) (by decide)) (g := (mkF m 56 #[.val (.long o1), .second, .val (.long l1), .second, .val (.long o2), .second, .val (.long l2), .second, .val (.int p5), .val (.int ex), .val (.ref b6), .val (.ref b36), .unset, .unset, .unset, .unset, .unset, .unset, .unset] [(.long l2), (.long o2), (.double (FP.i2d (p5 >>> ((2 : Int32) &&& 31)))), (.ref b60), (.ref b60)])) rfl (by rw [hml]; rfl) (Steps.refl _) (a := b60) (argsL := [(.double (FP.i2d (p5 >>> ((2 : Int32) &&& 31)))), (.long o2), (.long l2)]) (rest := [(.ref b60)]) (lenOf pd_5 rfl) rfl (by show 2 * 0 + _ ≤ _; exact Nat.le_of_eq rfl) (hb hby at_56) (fun _ _ => ⟨rfl, e60, (by decide : 7 + 0 ≤ _), (by decide : 27 + 0 ≤ _)⟩)
  dsimp only [Pt.U, Pt.locs, Pt.cells, Pt.slots] at X76 l76 y76 z76 st76 hQ76
  subst l76 y76 z76
  obtain ⟨rfl, N76q, c76_0, c76_1, c76_2, c76_3, c76_4⟩ := hQ76
  have N76 := Fr.app N48 N76q
  have Zs76 : n0 ≤ T76.heap.size := Nat.le_trans Zs60 c76_0.1
  have f77 : Old Z n0 T76.heap := f61.keep c76_0 (allS g_b60 all0)
  have f78 : Exa Z T76.heap b6 "com/example/brelok/brelok/perf/Tally" := f62.keep c76_0
  have f79 : Fld Z T76.heap b6 "com/example/brelok/brelok/perf/Tally" "excludes" "Z" (.int (nar .boolean ex)) := f63.keep c76_0 (ninS ne_b6_b60 nin0)
  have f80 : Fld Z T76.heap b6 "com/example/brelok/brelok/perf/Tally" "waiting" "D" (.double (0 : UInt64)) := f64.keep c76_0 (ninS ne_b6_b60 nin0)
  have f81 : Fld Z T76.heap b6 "com/example/brelok/brelok/perf/Tally" "overlaps" "J" (.long (0 : Int64)) := f65.keep c76_0 (ninS ne_b6_b60 nin0)
  have f82 : Fld Z T76.heap b6 "com/example/brelok/brelok/perf/Tally" "lostUpdates" "J" (.long (0 : Int64)) := f66.keep c76_0 (ninS ne_b6_b60 nin0)
  have f83 : Exa Z T76.heap b36 "com/example/brelok/brelok/perf/Timing$Measure" := f67.keep c76_0
  have f84 : Fld Z T76.heap b36 "com/example/brelok/brelok/perf/Timing$Measure" "figure" "D" (.double (FP.i2d (p5 >>> ((1 : Int32) &&& 31)))) := f68.keep c76_0 (ninS ne_b36_b60 nin0)
  have f85 : Fld Z T76.heap b36 "com/example/brelok/brelok/perf/Timing$Measure" "overlaps" "J" (.long o1) := f69.keep c76_0 (ninS ne_b36_b60 nin0)
  have f86 : Fld Z T76.heap b36 "com/example/brelok/brelok/perf/Timing$Measure" "lostUpdates" "J" (.long l1) := f70.keep c76_0 (ninS ne_b36_b60 nin0)
  have f87 : Exa Z T76.heap b60 "com/example/brelok/brelok/perf/Timing$Measure" := c76_1
  have f88 : Fld Z T76.heap b60 "com/example/brelok/brelok/perf/Timing$Measure" "figure" "D" (.double (FP.i2d (p5 >>> ((2 : Int32) &&& 31)))) := c76_2
  have f89 : Fld Z T76.heap b60 "com/example/brelok/brelok/perf/Timing$Measure" "overlaps" "J" (.long o2) := c76_3
  have f90 : Fld Z T76.heap b60 "com/example/brelok/brelok/perf/Timing$Measure" "lostUpdates" "J" (.long l2) := c76_4
  have sg91 : ∀ target, Steps p.tables e below (T76.setTop (mkF m 65 #[.val (.long o1), .second, .val (.long l1), .second, .val (.long o2), .second, .val (.long l2), .second, .val (.int p5), .val (.int ex), .val (.ref b6), .val (.ref b36), .val (.ref b60), .unset, .unset, .unset, .unset, .unset, .unset] [(.ref b36), (.ref b6)])) target → Steps p.tables e below (T76.setTop (mkF m 59 #[.val (.long o1), .second, .val (.long l1), .second, .val (.long o2), .second, .val (.long l2), .second, .val (.int p5), .val (.int ex), .val (.ref b6), .val (.ref b36), .unset, .unset, .unset, .unset, .unset, .unset, .unset] [(.ref b60)])) target := by
    intro target kt
    show Steps p.tables e below (T76.setTop (mkF m 59 #[.val (.long o1), .second, .val (.long l1), .second, .val (.long o2), .second, .val (.long l2), .second, .val (.int p5), .val (.int ex), .val (.ref b6), .val (.ref b36), .unset, .unset, .unset, .unset, .unset, .unset, .unset] [(.ref b60)])) _
    refine XS.astore X76.here hx rfl (hb hby at_59) rfl rfl (l' := #[.val (.long o1), .second, .val (.long l1), .second, .val (.long o2), .second, .val (.long l2), .second, .val (.int p5), .val (.int ex), .val (.ref b6), .val (.ref b36), .val (.ref b60), .unset, .unset, .unset, .unset, .unset, .unset]) rfl ?_
    show Steps p.tables e below (T76.setTop (mkF m 61 #[.val (.long o1), .second, .val (.long l1), .second, .val (.long o2), .second, .val (.long l2), .second, .val (.int p5), .val (.int ex), .val (.ref b6), .val (.ref b36), .val (.ref b60), .unset, .unset, .unset, .unset, .unset, .unset] [])) _
    refine XS.aload X76.here hx rfl (hb hby at_61) rfl rfl ?_
    show Steps p.tables e below (T76.setTop (mkF m 63 #[.val (.long o1), .second, .val (.long l1), .second, .val (.long o2), .second, .val (.long l2), .second, .val (.int p5), .val (.int ex), .val (.ref b6), .val (.ref b36), .val (.ref b60), .unset, .unset, .unset, .unset, .unset, .unset] [(.ref b6)])) _
    refine XS.aload X76.here hx rfl (hb hby at_63) rfl rfl ?_
    exact kt
  obtain ⟨cq92, kq92, q92a, q92b, q92c⟩ := isOf hZ17 rfl f78
  obtain ⟨_, _, ⟨T92, L92, k92, n92⟩, -, X92, ⟨Lc92, hQ92, l92, y92, z92⟩, st92⟩ := X76.virtualBack hx (y := (⟨"com/example/brelok/brelok/perf/Tally", "setWaiting", "(Lcom/example/brelok/brelok/perf/Timing$Measure;)V"⟩ : MethodName)) (z := (⟨"com/example/brelok/brelok/perf/Tally", "setWaiting", "(Lcom/example/brelok/brelok/perf/Timing$Measure;)V"⟩ : MethodName)) hown17 (mvT hZ17 (hw _ (List.mem_of_getElem? (i := 67) rfl))) (mvT hZ17 (hw _ (List.mem_of_getElem? (i := 68) rfl))) (notFace_of_selects (args := #[]) (mvT hZ17 (hw _ (List.mem_of_getElem? (i := 70) rfl)))) (mvT hZ17 (hw _ (List.mem_of_getElem? (i := 70) rfl))) (mvT hZ17 (hw _ (List.mem_of_getElem? (i := 69) rfl))) (by decide) (backOf (W := 0) (rm8 l Z a0 hw [] b6 b36 (nar .boolean ex) (0 : UInt64) (0 : Int64) (0 : Int64) (FP.i2d (p5 >>> ((1 : Int32) &&& 31))) o1 l1 T76.heap n0 Zs76 f78 f79 f80 f81 f82 g_b6 f83 f84 f85 f86 (Ne.symm ne_b6_b36)) hZ17 (hw _ (List.mem_of_getElem? (i := 71) rfl)) (hw _ (List.mem_of_getElem? (i := 2) rfl)) (by decide) (by decide)) q92a q92c (g := (mkF m 65 #[.val (.long o1), .second, .val (.long l1), .second, .val (.long o2), .second, .val (.long l2), .second, .val (.int p5), .val (.int ex), .val (.ref b6), .val (.ref b36), .val (.ref b60), .unset, .unset, .unset, .unset, .unset, .unset] [(.ref b36), (.ref b6)])) rfl (by rw [hml]; rfl) (Steps.refl _) (argsL := [(.ref b36)]) (rest := []) (lenOf pd_6 rfl) rfl (by show 2 * 0 + _ ≤ _; exact Nat.le_of_eq rfl) (hb hby at_65) (fun _ _ => ⟨rfl, rfl, (by decide : 7 + 0 ≤ _), (by decide : 27 + 0 ≤ _)⟩)
  dsimp only [Pt.U, Pt.locs, Pt.cells, Pt.slots] at X92 l92 y92 z92 st92 hQ92
  subst l92 y92 z92
  obtain ⟨rfl, N92q, c92_0, c92_1, c92_2, c92_3, c92_4, c92_5⟩ := hQ92
  have N92 := Fr.app N76 N92q
  have Zs92 : n0 ≤ T92.heap.size := Nat.le_trans Zs76 c92_0.1
  have f93 : Old Z n0 T92.heap := f77.keep c92_0 (allS g_b6 all0)
  have f94 : Exa Z T92.heap b36 "com/example/brelok/brelok/perf/Timing$Measure" := f83.keep c92_0
  have f95 : Fld Z T92.heap b36 "com/example/brelok/brelok/perf/Timing$Measure" "figure" "D" (.double (FP.i2d (p5 >>> ((1 : Int32) &&& 31)))) := f84.keep c92_0 (ninS (Ne.symm ne_b6_b36) nin0)
  have f96 : Fld Z T92.heap b36 "com/example/brelok/brelok/perf/Timing$Measure" "overlaps" "J" (.long o1) := f85.keep c92_0 (ninS (Ne.symm ne_b6_b36) nin0)
  have f97 : Fld Z T92.heap b36 "com/example/brelok/brelok/perf/Timing$Measure" "lostUpdates" "J" (.long l1) := f86.keep c92_0 (ninS (Ne.symm ne_b6_b36) nin0)
  have f98 : Exa Z T92.heap b60 "com/example/brelok/brelok/perf/Timing$Measure" := f87.keep c92_0
  have f99 : Fld Z T92.heap b60 "com/example/brelok/brelok/perf/Timing$Measure" "figure" "D" (.double (FP.i2d (p5 >>> ((2 : Int32) &&& 31)))) := f88.keep c92_0 (ninS (Ne.symm ne_b6_b60) nin0)
  have f100 : Fld Z T92.heap b60 "com/example/brelok/brelok/perf/Timing$Measure" "overlaps" "J" (.long o2) := f89.keep c92_0 (ninS (Ne.symm ne_b6_b60) nin0)
  have f101 : Fld Z T92.heap b60 "com/example/brelok/brelok/perf/Timing$Measure" "lostUpdates" "J" (.long l2) := f90.keep c92_0 (ninS (Ne.symm ne_b6_b60) nin0)
  have f102 : Exa Z T92.heap b6 "com/example/brelok/brelok/perf/Tally" := c92_1
  have f103 : Fld Z T92.heap b6 "com/example/brelok/brelok/perf/Tally" "excludes" "Z" (.int (nar .boolean ex)) := c92_2
  have f104 : Fld Z T92.heap b6 "com/example/brelok/brelok/perf/Tally" "waiting" "D" (.double (FP.i2d (p5 >>> ((1 : Int32) &&& 31)))) := c92_3
  have f105 : Fld Z T92.heap b6 "com/example/brelok/brelok/perf/Tally" "overlaps" "J" (.long ((0 : Int64) + o1)) := c92_4
  have f106 : Fld Z T92.heap b6 "com/example/brelok/brelok/perf/Tally" "lostUpdates" "J" (.long ((0 : Int64) + l1)) := c92_5
  have sg107 : ∀ target, Steps p.tables e below (T92.setTop (mkF m 70 #[.val (.long o1), .second, .val (.long l1), .second, .val (.long o2), .second, .val (.long l2), .second, .val (.int p5), .val (.int ex), .val (.ref b6), .val (.ref b36), .val (.ref b60), .unset, .unset, .unset, .unset, .unset, .unset] [(.ref b6)])) target → Steps p.tables e below (T92.setTop (mkF m 68 #[.val (.long o1), .second, .val (.long l1), .second, .val (.long o2), .second, .val (.long l2), .second, .val (.int p5), .val (.int ex), .val (.ref b6), .val (.ref b36), .val (.ref b60), .unset, .unset, .unset, .unset, .unset, .unset] [])) target := by
    intro target kt
    show Steps p.tables e below (T92.setTop (mkF m 68 #[.val (.long o1), .second, .val (.long l1), .second, .val (.long o2), .second, .val (.long l2), .second, .val (.int p5), .val (.int ex), .val (.ref b6), .val (.ref b36), .val (.ref b60), .unset, .unset, .unset, .unset, .unset, .unset] [])) _
    refine XS.aload X92.here hx rfl (hb hby at_68) rfl rfl ?_
    exact kt
  obtain ⟨cq108, kq108, q108a, q108b, q108c⟩ := isOf hZ17 rfl f102
  obtain ⟨_, _, ⟨T108, L108, k108, n108⟩, -, X108, ⟨Lc108, hQ108, l108, y108, z108⟩, st108⟩ := X92.virtualBack hx (y := (⟨"com/example/brelok/brelok/perf/Tally", "overlaps", "()J"⟩ : MethodName)) (z := (⟨"com/example/brelok/brelok/perf/Tally", "overlaps", "()J"⟩ : MethodName)) hown17 (mvT hZ17 (hw _ (List.mem_of_getElem? (i := 97) rfl))) (mvT hZ17 (hw _ (List.mem_of_getElem? (i := 98) rfl))) (notFace_of_selects (args := #[]) (mvT hZ17 (hw _ (List.mem_of_getElem? (i := 100) rfl)))) (mvT hZ17 (hw _ (List.mem_of_getElem? (i := 100) rfl))) (mvT hZ17 (hw _ (List.mem_of_getElem? (i := 99) rfl))) (by decide) (backOf (W := 0) (rm13 l Z a0 hw [] b6 ((0 : Int64) + o1) T92.heap n0 Zs92 f105) hZ17 (hw _ (List.mem_of_getElem? (i := 101) rfl)) (hw _ (List.mem_of_getElem? (i := 2) rfl)) (by decide) (by decide)) q108a q108c (g := (mkF m 70 #[.val (.long o1), .second, .val (.long l1), .second, .val (.long o2), .second, .val (.long l2), .second, .val (.int p5), .val (.int ex), .val (.ref b6), .val (.ref b36), .val (.ref b60), .unset, .unset, .unset, .unset, .unset, .unset] [(.ref b6)])) rfl (by rw [hml]; rfl) (Steps.refl _) (argsL := []) (rest := []) (lenOf pd_2 rfl) rfl (by show 2 * 0 + _ ≤ _; exact Nat.le_of_eq rfl) (hb hby at_70) (fun _ _ => ⟨rfl, rfl, (by decide : 7 + 0 ≤ _), (by decide : 27 + 0 ≤ _)⟩)
  dsimp only [Pt.U, Pt.locs, Pt.cells, Pt.slots] at X108 l108 y108 z108 st108 hQ108
  subst l108 y108 z108
  obtain ⟨rfl, N108q, c108_0⟩ := hQ108
  have N108 := Fr.app N92 N108q
  have sg109 : ∀ target, Steps p.tables e below (T108.setTop (mkF m 80 #[.val (.long o1), .second, .val (.long l1), .second, .val (.long o2), .second, .val (.long l2), .second, .val (.int p5), .val (.int ex), .val (.ref b6), .val (.ref b36), .val (.ref b60), .unset, .unset, .unset, .unset, .unset, .unset] [(.ref b6)])) target → Steps p.tables e below (T108.setTop (mkF m 73 #[.val (.long o1), .second, .val (.long l1), .second, .val (.long o2), .second, .val (.long l2), .second, .val (.int p5), .val (.int ex), .val (.ref b6), .val (.ref b36), .val (.ref b60), .unset, .unset, .unset, .unset, .unset, .unset] [(.long ((0 : Int64) + o1))])) target := by
    intro target kt
    show Steps p.tables e below (T108.setTop (mkF m 73 #[.val (.long o1), .second, .val (.long l1), .second, .val (.long o2), .second, .val (.long l2), .second, .val (.int p5), .val (.int ex), .val (.ref b6), .val (.ref b36), .val (.ref b60), .unset, .unset, .unset, .unset, .unset, .unset] [(.long ((0 : Int64) + o1))])) _
    refine XS.lloadN X108.here hx rfl (hb hby at_73) rfl ?_
    show Steps p.tables e below (T108.setTop (mkF m 74 #[.val (.long o1), .second, .val (.long l1), .second, .val (.long o2), .second, .val (.long l2), .second, .val (.int p5), .val (.int ex), .val (.ref b6), .val (.ref b36), .val (.ref b60), .unset, .unset, .unset, .unset, .unset, .unset] [(.long o1), (.long ((0 : Int64) + o1))])) _
    refine XS.lcmp X108.here hx rfl (hb hby at_74) rfl ?_
    show Steps p.tables e below (T108.setTop (mkF m 75 #[.val (.long o1), .second, .val (.long l1), .second, .val (.long o2), .second, .val (.long l2), .second, .val (.int p5), .val (.int ex), .val (.ref b6), .val (.ref b36), .val (.ref b60), .unset, .unset, .unset, .unset, .unset, .unset] [(.int (lcmpW ((0 : Int64) + o1) o1))])) _
    rw [show (lcmpW ((0 : Int64) + o1) o1) = (0 : Int32) from own_l0 _ _ (Int64.zero_add _)]
    show Steps p.tables e below (T108.setTop (mkF m 75 #[.val (.long o1), .second, .val (.long l1), .second, .val (.long o2), .second, .val (.long l2), .second, .val (.int p5), .val (.int ex), .val (.ref b6), .val (.ref b36), .val (.ref b60), .unset, .unset, .unset, .unset, .unset, .unset] [(.int (0 : Int32))])) _
    refine XS.ifNo X108.here hx rfl (hb hby at_75) rfl ((if0 _ _).trans (teq (by decide : (0 : Int32) = (0 : Int32))).2) ?_
    show Steps p.tables e below (T108.setTop (mkF m 78 #[.val (.long o1), .second, .val (.long l1), .second, .val (.long o2), .second, .val (.long l2), .second, .val (.int p5), .val (.int ex), .val (.ref b6), .val (.ref b36), .val (.ref b60), .unset, .unset, .unset, .unset, .unset, .unset] [])) _
    refine XS.aload X108.here hx rfl (hb hby at_78) rfl rfl ?_
    exact kt
  obtain ⟨cq110, kq110, q110a, q110b, q110c⟩ := isOf hZ17 c108_0 f102
  obtain ⟨_, _, ⟨T110, L110, k110, n110⟩, -, X110, ⟨Lc110, hQ110, l110, y110, z110⟩, st110⟩ := X108.virtualBack hx (y := (⟨"com/example/brelok/brelok/perf/Tally", "lostUpdates", "()J"⟩ : MethodName)) (z := (⟨"com/example/brelok/brelok/perf/Tally", "lostUpdates", "()J"⟩ : MethodName)) hown17 (mvT hZ17 (hw _ (List.mem_of_getElem? (i := 102) rfl))) (mvT hZ17 (hw _ (List.mem_of_getElem? (i := 103) rfl))) (notFace_of_selects (args := #[]) (mvT hZ17 (hw _ (List.mem_of_getElem? (i := 105) rfl)))) (mvT hZ17 (hw _ (List.mem_of_getElem? (i := 105) rfl))) (mvT hZ17 (hw _ (List.mem_of_getElem? (i := 104) rfl))) (by decide) (backOf (W := 0) (rm14 l Z a0 hw [] b6 ((0 : Int64) + l1) T92.heap n0 Zs92 f106) hZ17 (hw _ (List.mem_of_getElem? (i := 106) rfl)) (hw _ (List.mem_of_getElem? (i := 2) rfl)) (by decide) (by decide)) q110a q110c (g := (mkF m 80 #[.val (.long o1), .second, .val (.long l1), .second, .val (.long o2), .second, .val (.long l2), .second, .val (.int p5), .val (.int ex), .val (.ref b6), .val (.ref b36), .val (.ref b60), .unset, .unset, .unset, .unset, .unset, .unset] [(.ref b6)])) rfl (by rw [hml]; rfl) (Steps.refl _) (argsL := []) (rest := []) (lenOf pd_2 rfl) rfl (by show 2 * 0 + _ ≤ _; exact Nat.le_of_eq rfl) (hb hby at_80) (fun _ _ => ⟨rfl, c108_0, (by decide : 7 + 0 ≤ _), (by decide : 27 + 0 ≤ _)⟩)
  dsimp only [Pt.U, Pt.locs, Pt.cells, Pt.slots] at X110 l110 y110 z110 st110 hQ110
  subst l110 y110 z110
  obtain ⟨rfl, N110q, c110_0⟩ := hQ110
  have N110 := Fr.app N108 N110q
  have sg111 : ∀ target, Steps p.tables e below (T110.setTop (mkF m 99 #[.val (.long o1), .second, .val (.long l1), .second, .val (.long o2), .second, .val (.long l2), .second, .val (.int p5), .val (.int ex), .val (.ref b6), .val (.ref b36), .val (.ref b60), .val (.int (1 : Int32)), .unset, .unset, .unset, .unset, .unset] [(.ref b60), (.ref b6)])) target → Steps p.tables e below (T110.setTop (mkF m 83 #[.val (.long o1), .second, .val (.long l1), .second, .val (.long o2), .second, .val (.long l2), .second, .val (.int p5), .val (.int ex), .val (.ref b6), .val (.ref b36), .val (.ref b60), .unset, .unset, .unset, .unset, .unset, .unset] [(.long ((0 : Int64) + l1))])) target := by
    intro target kt
    show Steps p.tables e below (T110.setTop (mkF m 83 #[.val (.long o1), .second, .val (.long l1), .second, .val (.long o2), .second, .val (.long l2), .second, .val (.int p5), .val (.int ex), .val (.ref b6), .val (.ref b36), .val (.ref b60), .unset, .unset, .unset, .unset, .unset, .unset] [(.long ((0 : Int64) + l1))])) _
    refine XS.lloadN X110.here hx rfl (hb hby at_83) rfl ?_
    show Steps p.tables e below (T110.setTop (mkF m 84 #[.val (.long o1), .second, .val (.long l1), .second, .val (.long o2), .second, .val (.long l2), .second, .val (.int p5), .val (.int ex), .val (.ref b6), .val (.ref b36), .val (.ref b60), .unset, .unset, .unset, .unset, .unset, .unset] [(.long l1), (.long ((0 : Int64) + l1))])) _
    refine XS.lcmp X110.here hx rfl (hb hby at_84) rfl ?_
    show Steps p.tables e below (T110.setTop (mkF m 85 #[.val (.long o1), .second, .val (.long l1), .second, .val (.long o2), .second, .val (.long l2), .second, .val (.int p5), .val (.int ex), .val (.ref b6), .val (.ref b36), .val (.ref b60), .unset, .unset, .unset, .unset, .unset, .unset] [(.int (lcmpW ((0 : Int64) + l1) l1))])) _
    rw [show (lcmpW ((0 : Int64) + l1) l1) = (0 : Int32) from own_l0 _ _ (Int64.zero_add _)]
    show Steps p.tables e below (T110.setTop (mkF m 85 #[.val (.long o1), .second, .val (.long l1), .second, .val (.long o2), .second, .val (.long l2), .second, .val (.int p5), .val (.int ex), .val (.ref b6), .val (.ref b36), .val (.ref b60), .unset, .unset, .unset, .unset, .unset, .unset] [(.int (0 : Int32))])) _
    refine XS.ifNo X110.here hx rfl (hb hby at_85) rfl ((if0 _ _).trans (teq (by decide : (0 : Int32) = (0 : Int32))).2) ?_
    show Steps p.tables e below (T110.setTop (mkF m 88 #[.val (.long o1), .second, .val (.long l1), .second, .val (.long o2), .second, .val (.long l2), .second, .val (.int p5), .val (.int ex), .val (.ref b6), .val (.ref b36), .val (.ref b60), .unset, .unset, .unset, .unset, .unset, .unset] [])) _
    refine XS.iconst X110.here hx rfl (hb hby at_88) ?_
    show Steps p.tables e below (T110.setTop (mkF m 89 #[.val (.long o1), .second, .val (.long l1), .second, .val (.long o2), .second, .val (.long l2), .second, .val (.int p5), .val (.int ex), .val (.ref b6), .val (.ref b36), .val (.ref b60), .unset, .unset, .unset, .unset, .unset, .unset] [(.int (1 : Int32))])) _
    refine XS.goto X110.here hx rfl (pc0 := 89) (pc' := 93) rfl (hb hby at_89) (by decide) (by decide) ?_
    show Steps p.tables e below (T110.setTop (mkF m 93 #[.val (.long o1), .second, .val (.long l1), .second, .val (.long o2), .second, .val (.long l2), .second, .val (.int p5), .val (.int ex), .val (.ref b6), .val (.ref b36), .val (.ref b60), .unset, .unset, .unset, .unset, .unset, .unset] [(.int (1 : Int32))])) _
    refine XS.istore X110.here hx rfl (hb hby at_93) rfl (l' := #[.val (.long o1), .second, .val (.long l1), .second, .val (.long o2), .second, .val (.long l2), .second, .val (.int p5), .val (.int ex), .val (.ref b6), .val (.ref b36), .val (.ref b60), .val (.int (1 : Int32)), .unset, .unset, .unset, .unset, .unset]) rfl ?_
    show Steps p.tables e below (T110.setTop (mkF m 95 #[.val (.long o1), .second, .val (.long l1), .second, .val (.long o2), .second, .val (.long l2), .second, .val (.int p5), .val (.int ex), .val (.ref b6), .val (.ref b36), .val (.ref b60), .val (.int (1 : Int32)), .unset, .unset, .unset, .unset, .unset] [])) _
    refine XS.aload X110.here hx rfl (hb hby at_95) rfl rfl ?_
    show Steps p.tables e below (T110.setTop (mkF m 97 #[.val (.long o1), .second, .val (.long l1), .second, .val (.long o2), .second, .val (.long l2), .second, .val (.int p5), .val (.int ex), .val (.ref b6), .val (.ref b36), .val (.ref b60), .val (.int (1 : Int32)), .unset, .unset, .unset, .unset, .unset] [(.ref b6)])) _
    refine XS.aload X110.here hx rfl (hb hby at_97) rfl rfl ?_
    exact kt
  obtain ⟨cq112, kq112, q112a, q112b, q112c⟩ := isOf hZ17 c110_0 f102
  obtain ⟨_, _, ⟨T112, L112, k112, n112⟩, -, X112, ⟨Lc112, hQ112, l112, y112, z112⟩, st112⟩ := X110.virtualBack hx (y := (⟨"com/example/brelok/brelok/perf/Tally", "setWaiting", "(Lcom/example/brelok/brelok/perf/Timing$Measure;)V"⟩ : MethodName)) (z := (⟨"com/example/brelok/brelok/perf/Tally", "setWaiting", "(Lcom/example/brelok/brelok/perf/Timing$Measure;)V"⟩ : MethodName)) hown17 (mvT hZ17 (hw _ (List.mem_of_getElem? (i := 67) rfl))) (mvT hZ17 (hw _ (List.mem_of_getElem? (i := 68) rfl))) (notFace_of_selects (args := #[]) (mvT hZ17 (hw _ (List.mem_of_getElem? (i := 70) rfl)))) (mvT hZ17 (hw _ (List.mem_of_getElem? (i := 70) rfl))) (mvT hZ17 (hw _ (List.mem_of_getElem? (i := 69) rfl))) (by decide) (backOf (W := 0) (rm8 l Z a0 hw [] b6 b60 (nar .boolean ex) (FP.i2d (p5 >>> ((1 : Int32) &&& 31))) ((0 : Int64) + o1) ((0 : Int64) + l1) (FP.i2d (p5 >>> ((2 : Int32) &&& 31))) o2 l2 T92.heap n0 Zs92 f102 f103 f104 f105 f106 g_b6 f98 f99 f100 f101 (Ne.symm ne_b6_b60)) hZ17 (hw _ (List.mem_of_getElem? (i := 71) rfl)) (hw _ (List.mem_of_getElem? (i := 2) rfl)) (by decide) (by decide)) q112a q112c (g := (mkF m 99 #[.val (.long o1), .second, .val (.long l1), .second, .val (.long o2), .second, .val (.long l2), .second, .val (.int p5), .val (.int ex), .val (.ref b6), .val (.ref b36), .val (.ref b60), .val (.int (1 : Int32)), .unset, .unset, .unset, .unset, .unset] [(.ref b60), (.ref b6)])) rfl (by rw [hml]; rfl) (Steps.refl _) (argsL := [(.ref b60)]) (rest := []) (lenOf pd_6 rfl) rfl (by show 2 * 0 + _ ≤ _; exact Nat.le_of_eq rfl) (hb hby at_99) (fun _ _ => ⟨rfl, c110_0, (by decide : 7 + 0 ≤ _), (by decide : 27 + 0 ≤ _)⟩)
  dsimp only [Pt.U, Pt.locs, Pt.cells, Pt.slots] at X112 l112 y112 z112 st112 hQ112
  subst l112 y112 z112
  obtain ⟨rfl, N112q, c112_0, c112_1, c112_2, c112_3, c112_4, c112_5⟩ := hQ112
  have N112 := Fr.app N110 N112q
  have Zs112 : n0 ≤ T112.heap.size := Nat.le_trans Zs92 c112_0.1
  have f113 : Old Z n0 T112.heap := f93.keep c112_0 (allS g_b6 all0)
  have f114 : Exa Z T112.heap b36 "com/example/brelok/brelok/perf/Timing$Measure" := f94.keep c112_0
  have f115 : Fld Z T112.heap b36 "com/example/brelok/brelok/perf/Timing$Measure" "figure" "D" (.double (FP.i2d (p5 >>> ((1 : Int32) &&& 31)))) := f95.keep c112_0 (ninS (Ne.symm ne_b6_b36) nin0)
  have f116 : Fld Z T112.heap b36 "com/example/brelok/brelok/perf/Timing$Measure" "overlaps" "J" (.long o1) := f96.keep c112_0 (ninS (Ne.symm ne_b6_b36) nin0)
  have f117 : Fld Z T112.heap b36 "com/example/brelok/brelok/perf/Timing$Measure" "lostUpdates" "J" (.long l1) := f97.keep c112_0 (ninS (Ne.symm ne_b6_b36) nin0)
  have f118 : Exa Z T112.heap b60 "com/example/brelok/brelok/perf/Timing$Measure" := f98.keep c112_0
  have f119 : Fld Z T112.heap b60 "com/example/brelok/brelok/perf/Timing$Measure" "figure" "D" (.double (FP.i2d (p5 >>> ((2 : Int32) &&& 31)))) := f99.keep c112_0 (ninS (Ne.symm ne_b6_b60) nin0)
  have f120 : Fld Z T112.heap b60 "com/example/brelok/brelok/perf/Timing$Measure" "overlaps" "J" (.long o2) := f100.keep c112_0 (ninS (Ne.symm ne_b6_b60) nin0)
  have f121 : Fld Z T112.heap b60 "com/example/brelok/brelok/perf/Timing$Measure" "lostUpdates" "J" (.long l2) := f101.keep c112_0 (ninS (Ne.symm ne_b6_b60) nin0)
  have f122 : Exa Z T112.heap b6 "com/example/brelok/brelok/perf/Tally" := c112_1
  have f123 : Fld Z T112.heap b6 "com/example/brelok/brelok/perf/Tally" "excludes" "Z" (.int (nar .boolean ex)) := c112_2
  have f124 : Fld Z T112.heap b6 "com/example/brelok/brelok/perf/Tally" "waiting" "D" (.double (FP.i2d (p5 >>> ((2 : Int32) &&& 31)))) := c112_3
  have f125 : Fld Z T112.heap b6 "com/example/brelok/brelok/perf/Tally" "overlaps" "J" (.long (((0 : Int64) + o1) + o2)) := c112_4
  have f126 : Fld Z T112.heap b6 "com/example/brelok/brelok/perf/Tally" "lostUpdates" "J" (.long (((0 : Int64) + l1) + l2)) := c112_5
  have sg127 : ∀ target, Steps p.tables e below (T112.setTop (mkF m 116 #[.val (.long o1), .second, .val (.long l1), .second, .val (.long o2), .second, .val (.long l2), .second, .val (.int p5), .val (.int ex), .val (.ref b6), .val (.ref b36), .val (.ref b60), .val (.int (1 : Int32)), .val (.long (o1 + o2)), .second, .val (.long (l1 + l2)), .second, .unset] [(.ref b6)])) target → Steps p.tables e below (T112.setTop (mkF m 102 #[.val (.long o1), .second, .val (.long l1), .second, .val (.long o2), .second, .val (.long l2), .second, .val (.int p5), .val (.int ex), .val (.ref b6), .val (.ref b36), .val (.ref b60), .val (.int (1 : Int32)), .unset, .unset, .unset, .unset, .unset] [])) target := by
    intro target kt
    show Steps p.tables e below (T112.setTop (mkF m 102 #[.val (.long o1), .second, .val (.long l1), .second, .val (.long o2), .second, .val (.long l2), .second, .val (.int p5), .val (.int ex), .val (.ref b6), .val (.ref b36), .val (.ref b60), .val (.int (1 : Int32)), .unset, .unset, .unset, .unset, .unset] [])) _
    refine XS.lloadN X112.here hx rfl (hb hby at_102) rfl ?_
    show Steps p.tables e below (T112.setTop (mkF m 103 #[.val (.long o1), .second, .val (.long l1), .second, .val (.long o2), .second, .val (.long l2), .second, .val (.int p5), .val (.int ex), .val (.ref b6), .val (.ref b36), .val (.ref b60), .val (.int (1 : Int32)), .unset, .unset, .unset, .unset, .unset] [(.long o1)])) _
    refine XS.lload X112.here hx rfl (hb hby at_103) rfl ?_
    show Steps p.tables e below (T112.setTop (mkF m 105 #[.val (.long o1), .second, .val (.long l1), .second, .val (.long o2), .second, .val (.long l2), .second, .val (.int p5), .val (.int ex), .val (.ref b6), .val (.ref b36), .val (.ref b60), .val (.int (1 : Int32)), .unset, .unset, .unset, .unset, .unset] [(.long o2), (.long o1)])) _
    refine XS.ladd X112.here hx rfl (hb hby at_105) rfl ?_
    show Steps p.tables e below (T112.setTop (mkF m 106 #[.val (.long o1), .second, .val (.long l1), .second, .val (.long o2), .second, .val (.long l2), .second, .val (.int p5), .val (.int ex), .val (.ref b6), .val (.ref b36), .val (.ref b60), .val (.int (1 : Int32)), .unset, .unset, .unset, .unset, .unset] [(.long (o1 + o2))])) _
    refine XS.lstore X112.here hx rfl (hb hby at_106) rfl (l' := #[.val (.long o1), .second, .val (.long l1), .second, .val (.long o2), .second, .val (.long l2), .second, .val (.int p5), .val (.int ex), .val (.ref b6), .val (.ref b36), .val (.ref b60), .val (.int (1 : Int32)), .val (.long (o1 + o2)), .second, .unset, .unset, .unset]) rfl ?_
    show Steps p.tables e below (T112.setTop (mkF m 108 #[.val (.long o1), .second, .val (.long l1), .second, .val (.long o2), .second, .val (.long l2), .second, .val (.int p5), .val (.int ex), .val (.ref b6), .val (.ref b36), .val (.ref b60), .val (.int (1 : Int32)), .val (.long (o1 + o2)), .second, .unset, .unset, .unset] [])) _
    refine XS.lloadN X112.here hx rfl (hb hby at_108) rfl ?_
    show Steps p.tables e below (T112.setTop (mkF m 109 #[.val (.long o1), .second, .val (.long l1), .second, .val (.long o2), .second, .val (.long l2), .second, .val (.int p5), .val (.int ex), .val (.ref b6), .val (.ref b36), .val (.ref b60), .val (.int (1 : Int32)), .val (.long (o1 + o2)), .second, .unset, .unset, .unset] [(.long l1)])) _
    refine XS.lload X112.here hx rfl (hb hby at_109) rfl ?_
    show Steps p.tables e below (T112.setTop (mkF m 111 #[.val (.long o1), .second, .val (.long l1), .second, .val (.long o2), .second, .val (.long l2), .second, .val (.int p5), .val (.int ex), .val (.ref b6), .val (.ref b36), .val (.ref b60), .val (.int (1 : Int32)), .val (.long (o1 + o2)), .second, .unset, .unset, .unset] [(.long l2), (.long l1)])) _
    refine XS.ladd X112.here hx rfl (hb hby at_111) rfl ?_
    show Steps p.tables e below (T112.setTop (mkF m 112 #[.val (.long o1), .second, .val (.long l1), .second, .val (.long o2), .second, .val (.long l2), .second, .val (.int p5), .val (.int ex), .val (.ref b6), .val (.ref b36), .val (.ref b60), .val (.int (1 : Int32)), .val (.long (o1 + o2)), .second, .unset, .unset, .unset] [(.long (l1 + l2))])) _
    refine XS.lstore X112.here hx rfl (hb hby at_112) rfl (l' := #[.val (.long o1), .second, .val (.long l1), .second, .val (.long o2), .second, .val (.long l2), .second, .val (.int p5), .val (.int ex), .val (.ref b6), .val (.ref b36), .val (.ref b60), .val (.int (1 : Int32)), .val (.long (o1 + o2)), .second, .val (.long (l1 + l2)), .second, .unset]) rfl ?_
    show Steps p.tables e below (T112.setTop (mkF m 114 #[.val (.long o1), .second, .val (.long l1), .second, .val (.long o2), .second, .val (.long l2), .second, .val (.int p5), .val (.int ex), .val (.ref b6), .val (.ref b36), .val (.ref b60), .val (.int (1 : Int32)), .val (.long (o1 + o2)), .second, .val (.long (l1 + l2)), .second, .unset] [])) _
    refine XS.aload X112.here hx rfl (hb hby at_114) rfl rfl ?_
    exact kt
  obtain ⟨cq128, kq128, q128a, q128b, q128c⟩ := isOf hZ17 rfl f122
  obtain ⟨_, _, ⟨T128, L128, k128, n128⟩, -, X128, ⟨Lc128, hQ128, l128, y128, z128⟩, st128⟩ := X112.virtualBack hx (y := (⟨"com/example/brelok/brelok/perf/Tally", "overlaps", "()J"⟩ : MethodName)) (z := (⟨"com/example/brelok/brelok/perf/Tally", "overlaps", "()J"⟩ : MethodName)) hown17 (mvT hZ17 (hw _ (List.mem_of_getElem? (i := 97) rfl))) (mvT hZ17 (hw _ (List.mem_of_getElem? (i := 98) rfl))) (notFace_of_selects (args := #[]) (mvT hZ17 (hw _ (List.mem_of_getElem? (i := 100) rfl)))) (mvT hZ17 (hw _ (List.mem_of_getElem? (i := 100) rfl))) (mvT hZ17 (hw _ (List.mem_of_getElem? (i := 99) rfl))) (by decide) (backOf (W := 0) (rm13 l Z a0 hw [] b6 (((0 : Int64) + o1) + o2) T112.heap n0 Zs112 f125) hZ17 (hw _ (List.mem_of_getElem? (i := 101) rfl)) (hw _ (List.mem_of_getElem? (i := 2) rfl)) (by decide) (by decide)) q128a q128c (g := (mkF m 116 #[.val (.long o1), .second, .val (.long l1), .second, .val (.long o2), .second, .val (.long l2), .second, .val (.int p5), .val (.int ex), .val (.ref b6), .val (.ref b36), .val (.ref b60), .val (.int (1 : Int32)), .val (.long (o1 + o2)), .second, .val (.long (l1 + l2)), .second, .unset] [(.ref b6)])) rfl (by rw [hml]; rfl) (Steps.refl _) (argsL := []) (rest := []) (lenOf pd_2 rfl) rfl (by show 2 * 0 + _ ≤ _; exact Nat.le_of_eq rfl) (hb hby at_116) (fun _ _ => ⟨rfl, rfl, (by decide : 7 + 0 ≤ _), (by decide : 27 + 0 ≤ _)⟩)
  dsimp only [Pt.U, Pt.locs, Pt.cells, Pt.slots] at X128 l128 y128 z128 st128 hQ128
  subst l128 y128 z128
  obtain ⟨rfl, N128q, c128_0⟩ := hQ128
  have N128 := Fr.app N112 N128q
  have sg129 : ∀ target, Steps p.tables e below (T128.setTop (mkF m 127 #[.val (.long o1), .second, .val (.long l1), .second, .val (.long o2), .second, .val (.long l2), .second, .val (.int p5), .val (.int ex), .val (.ref b6), .val (.ref b36), .val (.ref b60), .val (.int (1 : Int32)), .val (.long (o1 + o2)), .second, .val (.long (l1 + l2)), .second, .unset] [(.ref b6)])) target → Steps p.tables e below (T128.setTop (mkF m 119 #[.val (.long o1), .second, .val (.long l1), .second, .val (.long o2), .second, .val (.long l2), .second, .val (.int p5), .val (.int ex), .val (.ref b6), .val (.ref b36), .val (.ref b60), .val (.int (1 : Int32)), .val (.long (o1 + o2)), .second, .val (.long (l1 + l2)), .second, .unset] [(.long (((0 : Int64) + o1) + o2))])) target := by
    intro target kt
    show Steps p.tables e below (T128.setTop (mkF m 119 #[.val (.long o1), .second, .val (.long l1), .second, .val (.long o2), .second, .val (.long l2), .second, .val (.int p5), .val (.int ex), .val (.ref b6), .val (.ref b36), .val (.ref b60), .val (.int (1 : Int32)), .val (.long (o1 + o2)), .second, .val (.long (l1 + l2)), .second, .unset] [(.long (((0 : Int64) + o1) + o2))])) _
    refine XS.lload X128.here hx rfl (hb hby at_119) rfl ?_
    show Steps p.tables e below (T128.setTop (mkF m 121 #[.val (.long o1), .second, .val (.long l1), .second, .val (.long o2), .second, .val (.long l2), .second, .val (.int p5), .val (.int ex), .val (.ref b6), .val (.ref b36), .val (.ref b60), .val (.int (1 : Int32)), .val (.long (o1 + o2)), .second, .val (.long (l1 + l2)), .second, .unset] [(.long (o1 + o2)), (.long (((0 : Int64) + o1) + o2))])) _
    refine XS.lcmp X128.here hx rfl (hb hby at_121) rfl ?_
    show Steps p.tables e below (T128.setTop (mkF m 122 #[.val (.long o1), .second, .val (.long l1), .second, .val (.long o2), .second, .val (.long l2), .second, .val (.int p5), .val (.int ex), .val (.ref b6), .val (.ref b36), .val (.ref b60), .val (.int (1 : Int32)), .val (.long (o1 + o2)), .second, .val (.long (l1 + l2)), .second, .unset] [(.int (lcmpW (((0 : Int64) + o1) + o2) (o1 + o2)))])) _
    rw [show (lcmpW (((0 : Int64) + o1) + o2) (o1 + o2)) = (0 : Int32) from own_l0 _ _ (by rw [Int64.zero_add])]
    show Steps p.tables e below (T128.setTop (mkF m 122 #[.val (.long o1), .second, .val (.long l1), .second, .val (.long o2), .second, .val (.long l2), .second, .val (.int p5), .val (.int ex), .val (.ref b6), .val (.ref b36), .val (.ref b60), .val (.int (1 : Int32)), .val (.long (o1 + o2)), .second, .val (.long (l1 + l2)), .second, .unset] [(.int (0 : Int32))])) _
    refine XS.ifNo X128.here hx rfl (hb hby at_122) rfl ((if0 _ _).trans (teq (by decide : (0 : Int32) = (0 : Int32))).2) ?_
    show Steps p.tables e below (T128.setTop (mkF m 125 #[.val (.long o1), .second, .val (.long l1), .second, .val (.long o2), .second, .val (.long l2), .second, .val (.int p5), .val (.int ex), .val (.ref b6), .val (.ref b36), .val (.ref b60), .val (.int (1 : Int32)), .val (.long (o1 + o2)), .second, .val (.long (l1 + l2)), .second, .unset] [])) _
    refine XS.aload X128.here hx rfl (hb hby at_125) rfl rfl ?_
    exact kt
  obtain ⟨cq130, kq130, q130a, q130b, q130c⟩ := isOf hZ17 c128_0 f122
  obtain ⟨_, _, ⟨T130, L130, k130, n130⟩, -, X130, ⟨Lc130, hQ130, l130, y130, z130⟩, st130⟩ := X128.virtualBack hx (y := (⟨"com/example/brelok/brelok/perf/Tally", "lostUpdates", "()J"⟩ : MethodName)) (z := (⟨"com/example/brelok/brelok/perf/Tally", "lostUpdates", "()J"⟩ : MethodName)) hown17 (mvT hZ17 (hw _ (List.mem_of_getElem? (i := 102) rfl))) (mvT hZ17 (hw _ (List.mem_of_getElem? (i := 103) rfl))) (notFace_of_selects (args := #[]) (mvT hZ17 (hw _ (List.mem_of_getElem? (i := 105) rfl)))) (mvT hZ17 (hw _ (List.mem_of_getElem? (i := 105) rfl))) (mvT hZ17 (hw _ (List.mem_of_getElem? (i := 104) rfl))) (by decide) (backOf (W := 0) (rm14 l Z a0 hw [] b6 (((0 : Int64) + l1) + l2) T112.heap n0 Zs112 f126) hZ17 (hw _ (List.mem_of_getElem? (i := 106) rfl)) (hw _ (List.mem_of_getElem? (i := 2) rfl)) (by decide) (by decide)) q130a q130c (g := (mkF m 127 #[.val (.long o1), .second, .val (.long l1), .second, .val (.long o2), .second, .val (.long l2), .second, .val (.int p5), .val (.int ex), .val (.ref b6), .val (.ref b36), .val (.ref b60), .val (.int (1 : Int32)), .val (.long (o1 + o2)), .second, .val (.long (l1 + l2)), .second, .unset] [(.ref b6)])) rfl (by rw [hml]; rfl) (Steps.refl _) (argsL := []) (rest := []) (lenOf pd_2 rfl) rfl (by show 2 * 0 + _ ≤ _; exact Nat.le_of_eq rfl) (hb hby at_127) (fun _ _ => ⟨rfl, c128_0, (by decide : 7 + 0 ≤ _), (by decide : 27 + 0 ≤ _)⟩)
  dsimp only [Pt.U, Pt.locs, Pt.cells, Pt.slots] at X130 l130 y130 z130 st130 hQ130
  subst l130 y130 z130
  obtain ⟨rfl, N130q, c130_0⟩ := hQ130
  have N130 := Fr.app N128 N130q
  have sg131 : ∀ target, Steps p.tables e below (T130.setTop (mkF m 138 #[.val (.long o1), .second, .val (.long l1), .second, .val (.long o2), .second, .val (.long l2), .second, .val (.int p5), .val (.int ex), .val (.ref b6), .val (.ref b36), .val (.ref b60), .val (.int (1 : Int32)), .val (.long (o1 + o2)), .second, .val (.long (l1 + l2)), .second, .unset] [(.ref b6)])) target → Steps p.tables e below (T130.setTop (mkF m 130 #[.val (.long o1), .second, .val (.long l1), .second, .val (.long o2), .second, .val (.long l2), .second, .val (.int p5), .val (.int ex), .val (.ref b6), .val (.ref b36), .val (.ref b60), .val (.int (1 : Int32)), .val (.long (o1 + o2)), .second, .val (.long (l1 + l2)), .second, .unset] [(.long (((0 : Int64) + l1) + l2))])) target := by
    intro target kt
    show Steps p.tables e below (T130.setTop (mkF m 130 #[.val (.long o1), .second, .val (.long l1), .second, .val (.long o2), .second, .val (.long l2), .second, .val (.int p5), .val (.int ex), .val (.ref b6), .val (.ref b36), .val (.ref b60), .val (.int (1 : Int32)), .val (.long (o1 + o2)), .second, .val (.long (l1 + l2)), .second, .unset] [(.long (((0 : Int64) + l1) + l2))])) _
    refine XS.lload X130.here hx rfl (hb hby at_130) rfl ?_
    show Steps p.tables e below (T130.setTop (mkF m 132 #[.val (.long o1), .second, .val (.long l1), .second, .val (.long o2), .second, .val (.long l2), .second, .val (.int p5), .val (.int ex), .val (.ref b6), .val (.ref b36), .val (.ref b60), .val (.int (1 : Int32)), .val (.long (o1 + o2)), .second, .val (.long (l1 + l2)), .second, .unset] [(.long (l1 + l2)), (.long (((0 : Int64) + l1) + l2))])) _
    refine XS.lcmp X130.here hx rfl (hb hby at_132) rfl ?_
    show Steps p.tables e below (T130.setTop (mkF m 133 #[.val (.long o1), .second, .val (.long l1), .second, .val (.long o2), .second, .val (.long l2), .second, .val (.int p5), .val (.int ex), .val (.ref b6), .val (.ref b36), .val (.ref b60), .val (.int (1 : Int32)), .val (.long (o1 + o2)), .second, .val (.long (l1 + l2)), .second, .unset] [(.int (lcmpW (((0 : Int64) + l1) + l2) (l1 + l2)))])) _
    rw [show (lcmpW (((0 : Int64) + l1) + l2) (l1 + l2)) = (0 : Int32) from own_l0 _ _ (by rw [Int64.zero_add])]
    show Steps p.tables e below (T130.setTop (mkF m 133 #[.val (.long o1), .second, .val (.long l1), .second, .val (.long o2), .second, .val (.long l2), .second, .val (.int p5), .val (.int ex), .val (.ref b6), .val (.ref b36), .val (.ref b60), .val (.int (1 : Int32)), .val (.long (o1 + o2)), .second, .val (.long (l1 + l2)), .second, .unset] [(.int (0 : Int32))])) _
    refine XS.ifNo X130.here hx rfl (hb hby at_133) rfl ((if0 _ _).trans (teq (by decide : (0 : Int32) = (0 : Int32))).2) ?_
    show Steps p.tables e below (T130.setTop (mkF m 136 #[.val (.long o1), .second, .val (.long l1), .second, .val (.long o2), .second, .val (.long l2), .second, .val (.int p5), .val (.int ex), .val (.ref b6), .val (.ref b36), .val (.ref b60), .val (.int (1 : Int32)), .val (.long (o1 + o2)), .second, .val (.long (l1 + l2)), .second, .unset] [])) _
    refine XS.aload X130.here hx rfl (hb hby at_136) rfl rfl ?_
    exact kt
  obtain ⟨cq132, kq132, q132a, q132b, q132c⟩ := isOf hZ17 c130_0 f122
  obtain ⟨_, _, ⟨T132, L132, k132, n132⟩, -, X132, ⟨Lc132, hQ132, l132, y132, z132⟩, st132⟩ := X130.virtualBack hx (y := (⟨"com/example/brelok/brelok/perf/Tally", "failedToExclude", "()Z"⟩ : MethodName)) (z := (⟨"com/example/brelok/brelok/perf/Tally", "failedToExclude", "()Z"⟩ : MethodName)) hown17 (mvT hZ17 (hw _ (List.mem_of_getElem? (i := 107) rfl))) (mvT hZ17 (hw _ (List.mem_of_getElem? (i := 108) rfl))) (notFace_of_selects (args := #[]) (mvT hZ17 (hw _ (List.mem_of_getElem? (i := 110) rfl)))) (mvT hZ17 (hw _ (List.mem_of_getElem? (i := 110) rfl))) (mvT hZ17 (hw _ (List.mem_of_getElem? (i := 109) rfl))) (by decide) (backOf (W := 0) (rm15 l Z a0 hw [] b6 (nar .boolean ex) (((0 : Int64) + o1) + o2) (((0 : Int64) + l1) + l2) T112.heap n0 Zs112 f123 f125 f126) hZ17 (hw _ (List.mem_of_getElem? (i := 111) rfl)) (hw _ (List.mem_of_getElem? (i := 2) rfl)) (by decide) (by decide)) q132a q132c (g := (mkF m 138 #[.val (.long o1), .second, .val (.long l1), .second, .val (.long o2), .second, .val (.long l2), .second, .val (.int p5), .val (.int ex), .val (.ref b6), .val (.ref b36), .val (.ref b60), .val (.int (1 : Int32)), .val (.long (o1 + o2)), .second, .val (.long (l1 + l2)), .second, .unset] [(.ref b6)])) rfl (by rw [hml]; rfl) (Steps.refl _) (argsL := []) (rest := []) (lenOf pd_4 rfl) rfl (by show 2 * 0 + _ ≤ _; exact Nat.le_of_eq rfl) (hb hby at_138) (fun _ _ => ⟨rfl, c130_0, (by decide : 7 + 0 ≤ _), (by decide : 27 + 0 ≤ _)⟩)
  dsimp only [Pt.U, Pt.locs, Pt.cells, Pt.slots] at X132 l132 y132 z132 st132 hQ132
  subst l132 y132 z132
  obtain ⟨rfl, N132q, c132_0⟩ := hQ132
  have N132 := Fr.app N130 N132q
  have sg133 : ∀ target, Steps p.tables e below (T132.setTop (mkF m 143 #[.val (.long o1), .second, .val (.long l1), .second, .val (.long o2), .second, .val (.long l2), .second, .val (.int p5), .val (.int ex), .val (.ref b6), .val (.ref b36), .val (.ref b60), .val (.int (1 : Int32)), .val (.long (o1 + o2)), .second, .val (.long (l1 + l2)), .second, .unset] [(.int ex), (.int (if (nar .boolean ex) = (0 : Int32) then (0 : Int32) else (if (0 : Int32) < (lcmpW (((0 : Int64) + o1) + o2) (0 : Int64)) then (1 : Int32) else (if (0 : Int32) < (lcmpW (((0 : Int64) + l1) + l2) (0 : Int64)) then (1 : Int32) else (0 : Int32)))))])) target → Steps p.tables e below (T132.setTop (mkF m 141 #[.val (.long o1), .second, .val (.long l1), .second, .val (.long o2), .second, .val (.long l2), .second, .val (.int p5), .val (.int ex), .val (.ref b6), .val (.ref b36), .val (.ref b60), .val (.int (1 : Int32)), .val (.long (o1 + o2)), .second, .val (.long (l1 + l2)), .second, .unset] [(.int (if (nar .boolean ex) = (0 : Int32) then (0 : Int32) else (if (0 : Int32) < (lcmpW (((0 : Int64) + o1) + o2) (0 : Int64)) then (1 : Int32) else (if (0 : Int32) < (lcmpW (((0 : Int64) + l1) + l2) (0 : Int64)) then (1 : Int32) else (0 : Int32)))))])) target := by
    intro target kt
    show Steps p.tables e below (T132.setTop (mkF m 141 #[.val (.long o1), .second, .val (.long l1), .second, .val (.long o2), .second, .val (.long l2), .second, .val (.int p5), .val (.int ex), .val (.ref b6), .val (.ref b36), .val (.ref b60), .val (.int (1 : Int32)), .val (.long (o1 + o2)), .second, .val (.long (l1 + l2)), .second, .unset] [(.int (if (nar .boolean ex) = (0 : Int32) then (0 : Int32) else (if (0 : Int32) < (lcmpW (((0 : Int64) + o1) + o2) (0 : Int64)) then (1 : Int32) else (if (0 : Int32) < (lcmpW (((0 : Int64) + l1) + l2) (0 : Int64)) then (1 : Int32) else (0 : Int32)))))])) _
    refine XS.iload X132.here hx rfl (hb hby at_141) rfl ?_
    exact kt
  obtain ⟨jv, q_jv⟩ : ∃ z : Int32, z = (if ex = (0 : Int32) then (0 : Int32) else (if (0 : Int32) < (lcmpW (o1 + o2) (0 : Int64)) then (1 : Int32) else (if (0 : Int32) < (lcmpW (l1 + l2) (0 : Int64)) then (1 : Int32) else (0 : Int32)))) := ⟨_, rfl⟩
  have sg138 : ∀ target, Steps p.tables e below (T132.setTop (mkF m 165 #[.val (.long o1), .second, .val (.long l1), .second, .val (.long o2), .second, .val (.long l2), .second, .val (.int p5), .val (.int ex), .val (.ref b6), .val (.ref b36), .val (.ref b60), .val (.int (1 : Int32)), .val (.long (o1 + o2)), .second, .val (.long (l1 + l2)), .second, .unset] [(.int jv), (.int (if (nar .boolean ex) = (0 : Int32) then (0 : Int32) else (if (0 : Int32) < (lcmpW (((0 : Int64) + o1) + o2) (0 : Int64)) then (1 : Int32) else (if (0 : Int32) < (lcmpW (((0 : Int64) + l1) + l2) (0 : Int64)) then (1 : Int32) else (0 : Int32)))))])) target → Steps p.tables e below (T132.setTop (mkF m 143 #[.val (.long o1), .second, .val (.long l1), .second, .val (.long o2), .second, .val (.long l2), .second, .val (.int p5), .val (.int ex), .val (.ref b6), .val (.ref b36), .val (.ref b60), .val (.int (1 : Int32)), .val (.long (o1 + o2)), .second, .val (.long (l1 + l2)), .second, .unset] [(.int ex), (.int (if (nar .boolean ex) = (0 : Int32) then (0 : Int32) else (if (0 : Int32) < (lcmpW (((0 : Int64) + o1) + o2) (0 : Int64)) then (1 : Int32) else (if (0 : Int32) < (lcmpW (((0 : Int64) + l1) + l2) (0 : Int64)) then (1 : Int32) else (0 : Int32)))))])) target := by
    intro target kt
    by_cases hj135_143 : ex = (0 : Int32)
    · rw [if_pos hj135_143] at q_jv
      rw [q_jv] at kt
      show Steps p.tables e below (T132.setTop (mkF m 143 #[.val (.long o1), .second, .val (.long l1), .second, .val (.long o2), .second, .val (.long l2), .second, .val (.int p5), .val (.int ex), .val (.ref b6), .val (.ref b36), .val (.ref b60), .val (.int (1 : Int32)), .val (.long (o1 + o2)), .second, .val (.long (l1 + l2)), .second, .unset] [(.int ex), (.int (if (nar .boolean ex) = (0 : Int32) then (0 : Int32) else (if (0 : Int32) < (lcmpW (((0 : Int64) + o1) + o2) (0 : Int64)) then (1 : Int32) else (if (0 : Int32) < (lcmpW (((0 : Int64) + l1) + l2) (0 : Int64)) then (1 : Int32) else (0 : Int32)))))])) _
      refine XS.ifYes X132.here hx rfl (pc0 := 143) (pc' := 164) rfl (hb hby at_143) rfl ((if0 _ _).trans (teq (hj135_143 : ex = (0 : Int32))).1) (by decide) (by decide) ?_
      show Steps p.tables e below (T132.setTop (mkF m 164 #[.val (.long o1), .second, .val (.long l1), .second, .val (.long o2), .second, .val (.long l2), .second, .val (.int p5), .val (.int ex), .val (.ref b6), .val (.ref b36), .val (.ref b60), .val (.int (1 : Int32)), .val (.long (o1 + o2)), .second, .val (.long (l1 + l2)), .second, .unset] [(.int (if (nar .boolean ex) = (0 : Int32) then (0 : Int32) else (if (0 : Int32) < (lcmpW (((0 : Int64) + o1) + o2) (0 : Int64)) then (1 : Int32) else (if (0 : Int32) < (lcmpW (((0 : Int64) + l1) + l2) (0 : Int64)) then (1 : Int32) else (0 : Int32)))))])) _
      refine XS.iconst X132.here hx rfl (hb hby at_164) ?_
      exact kt
    · by_cases hj136_150 : (0 : Int32) < (lcmpW (o1 + o2) (0 : Int64))
      · rw [if_neg hj135_143, if_pos hj136_150] at q_jv
        rw [q_jv] at kt
        show Steps p.tables e below (T132.setTop (mkF m 143 #[.val (.long o1), .second, .val (.long l1), .second, .val (.long o2), .second, .val (.long l2), .second, .val (.int p5), .val (.int ex), .val (.ref b6), .val (.ref b36), .val (.ref b60), .val (.int (1 : Int32)), .val (.long (o1 + o2)), .second, .val (.long (l1 + l2)), .second, .unset] [(.int ex), (.int (if (nar .boolean ex) = (0 : Int32) then (0 : Int32) else (if (0 : Int32) < (lcmpW (((0 : Int64) + o1) + o2) (0 : Int64)) then (1 : Int32) else (if (0 : Int32) < (lcmpW (((0 : Int64) + l1) + l2) (0 : Int64)) then (1 : Int32) else (0 : Int32)))))])) _
        refine XS.ifNo X132.here hx rfl (hb hby at_143) rfl ((if0 _ _).trans (feq (hj135_143 : ¬ (ex = (0 : Int32)))).1) ?_
        show Steps p.tables e below (T132.setTop (mkF m 146 #[.val (.long o1), .second, .val (.long l1), .second, .val (.long o2), .second, .val (.long l2), .second, .val (.int p5), .val (.int ex), .val (.ref b6), .val (.ref b36), .val (.ref b60), .val (.int (1 : Int32)), .val (.long (o1 + o2)), .second, .val (.long (l1 + l2)), .second, .unset] [(.int (if (nar .boolean ex) = (0 : Int32) then (0 : Int32) else (if (0 : Int32) < (lcmpW (((0 : Int64) + o1) + o2) (0 : Int64)) then (1 : Int32) else (if (0 : Int32) < (lcmpW (((0 : Int64) + l1) + l2) (0 : Int64)) then (1 : Int32) else (0 : Int32)))))])) _
        refine XS.lload X132.here hx rfl (hb hby at_146) rfl ?_
        show Steps p.tables e below (T132.setTop (mkF m 148 #[.val (.long o1), .second, .val (.long l1), .second, .val (.long o2), .second, .val (.long l2), .second, .val (.int p5), .val (.int ex), .val (.ref b6), .val (.ref b36), .val (.ref b60), .val (.int (1 : Int32)), .val (.long (o1 + o2)), .second, .val (.long (l1 + l2)), .second, .unset] [(.long (o1 + o2)), (.int (if (nar .boolean ex) = (0 : Int32) then (0 : Int32) else (if (0 : Int32) < (lcmpW (((0 : Int64) + o1) + o2) (0 : Int64)) then (1 : Int32) else (if (0 : Int32) < (lcmpW (((0 : Int64) + l1) + l2) (0 : Int64)) then (1 : Int32) else (0 : Int32)))))])) _
        refine XS.lconst X132.here hx rfl (hb hby at_148) ?_
        show Steps p.tables e below (T132.setTop (mkF m 149 #[.val (.long o1), .second, .val (.long l1), .second, .val (.long o2), .second, .val (.long l2), .second, .val (.int p5), .val (.int ex), .val (.ref b6), .val (.ref b36), .val (.ref b60), .val (.int (1 : Int32)), .val (.long (o1 + o2)), .second, .val (.long (l1 + l2)), .second, .unset] [(.long (0 : Int64)), (.long (o1 + o2)), (.int (if (nar .boolean ex) = (0 : Int32) then (0 : Int32) else (if (0 : Int32) < (lcmpW (((0 : Int64) + o1) + o2) (0 : Int64)) then (1 : Int32) else (if (0 : Int32) < (lcmpW (((0 : Int64) + l1) + l2) (0 : Int64)) then (1 : Int32) else (0 : Int32)))))])) _
        refine XS.lcmp X132.here hx rfl (hb hby at_149) rfl ?_
        show Steps p.tables e below (T132.setTop (mkF m 150 #[.val (.long o1), .second, .val (.long l1), .second, .val (.long o2), .second, .val (.long l2), .second, .val (.int p5), .val (.int ex), .val (.ref b6), .val (.ref b36), .val (.ref b60), .val (.int (1 : Int32)), .val (.long (o1 + o2)), .second, .val (.long (l1 + l2)), .second, .unset] [(.int (lcmpW (o1 + o2) (0 : Int64))), (.int (if (nar .boolean ex) = (0 : Int32) then (0 : Int32) else (if (0 : Int32) < (lcmpW (((0 : Int64) + o1) + o2) (0 : Int64)) then (1 : Int32) else (if (0 : Int32) < (lcmpW (((0 : Int64) + l1) + l2) (0 : Int64)) then (1 : Int32) else (0 : Int32)))))])) _
        refine XS.ifYes X132.here hx rfl (pc0 := 150) (pc' := 160) rfl (hb hby at_150) rfl ((if0 _ _).trans (tlt (hj136_150 : (0 : Int32) < (lcmpW (o1 + o2) (0 : Int64)))).2.2.1) (by decide) (by decide) ?_
        show Steps p.tables e below (T132.setTop (mkF m 160 #[.val (.long o1), .second, .val (.long l1), .second, .val (.long o2), .second, .val (.long l2), .second, .val (.int p5), .val (.int ex), .val (.ref b6), .val (.ref b36), .val (.ref b60), .val (.int (1 : Int32)), .val (.long (o1 + o2)), .second, .val (.long (l1 + l2)), .second, .unset] [(.int (if (nar .boolean ex) = (0 : Int32) then (0 : Int32) else (if (0 : Int32) < (lcmpW (((0 : Int64) + o1) + o2) (0 : Int64)) then (1 : Int32) else (if (0 : Int32) < (lcmpW (((0 : Int64) + l1) + l2) (0 : Int64)) then (1 : Int32) else (0 : Int32)))))])) _
        refine XS.iconst X132.here hx rfl (hb hby at_160) ?_
        show Steps p.tables e below (T132.setTop (mkF m 161 #[.val (.long o1), .second, .val (.long l1), .second, .val (.long o2), .second, .val (.long l2), .second, .val (.int p5), .val (.int ex), .val (.ref b6), .val (.ref b36), .val (.ref b60), .val (.int (1 : Int32)), .val (.long (o1 + o2)), .second, .val (.long (l1 + l2)), .second, .unset] [(.int (1 : Int32)), (.int (if (nar .boolean ex) = (0 : Int32) then (0 : Int32) else (if (0 : Int32) < (lcmpW (((0 : Int64) + o1) + o2) (0 : Int64)) then (1 : Int32) else (if (0 : Int32) < (lcmpW (((0 : Int64) + l1) + l2) (0 : Int64)) then (1 : Int32) else (0 : Int32)))))])) _
        refine XS.goto X132.here hx rfl (pc0 := 161) (pc' := 165) rfl (hb hby at_161) (by decide) (by decide) ?_
        exact kt
      · by_cases hj137_157 : (0 : Int32) < (lcmpW (l1 + l2) (0 : Int64))
        · rw [if_neg hj135_143, if_neg hj136_150, if_pos hj137_157] at q_jv
          rw [q_jv] at kt
          show Steps p.tables e below (T132.setTop (mkF m 143 #[.val (.long o1), .second, .val (.long l1), .second, .val (.long o2), .second, .val (.long l2), .second, .val (.int p5), .val (.int ex), .val (.ref b6), .val (.ref b36), .val (.ref b60), .val (.int (1 : Int32)), .val (.long (o1 + o2)), .second, .val (.long (l1 + l2)), .second, .unset] [(.int ex), (.int (if (nar .boolean ex) = (0 : Int32) then (0 : Int32) else (if (0 : Int32) < (lcmpW (((0 : Int64) + o1) + o2) (0 : Int64)) then (1 : Int32) else (if (0 : Int32) < (lcmpW (((0 : Int64) + l1) + l2) (0 : Int64)) then (1 : Int32) else (0 : Int32)))))])) _
          refine XS.ifNo X132.here hx rfl (hb hby at_143) rfl ((if0 _ _).trans (feq (hj135_143 : ¬ (ex = (0 : Int32)))).1) ?_
          show Steps p.tables e below (T132.setTop (mkF m 146 #[.val (.long o1), .second, .val (.long l1), .second, .val (.long o2), .second, .val (.long l2), .second, .val (.int p5), .val (.int ex), .val (.ref b6), .val (.ref b36), .val (.ref b60), .val (.int (1 : Int32)), .val (.long (o1 + o2)), .second, .val (.long (l1 + l2)), .second, .unset] [(.int (if (nar .boolean ex) = (0 : Int32) then (0 : Int32) else (if (0 : Int32) < (lcmpW (((0 : Int64) + o1) + o2) (0 : Int64)) then (1 : Int32) else (if (0 : Int32) < (lcmpW (((0 : Int64) + l1) + l2) (0 : Int64)) then (1 : Int32) else (0 : Int32)))))])) _
          refine XS.lload X132.here hx rfl (hb hby at_146) rfl ?_
          show Steps p.tables e below (T132.setTop (mkF m 148 #[.val (.long o1), .second, .val (.long l1), .second, .val (.long o2), .second, .val (.long l2), .second, .val (.int p5), .val (.int ex), .val (.ref b6), .val (.ref b36), .val (.ref b60), .val (.int (1 : Int32)), .val (.long (o1 + o2)), .second, .val (.long (l1 + l2)), .second, .unset] [(.long (o1 + o2)), (.int (if (nar .boolean ex) = (0 : Int32) then (0 : Int32) else (if (0 : Int32) < (lcmpW (((0 : Int64) + o1) + o2) (0 : Int64)) then (1 : Int32) else (if (0 : Int32) < (lcmpW (((0 : Int64) + l1) + l2) (0 : Int64)) then (1 : Int32) else (0 : Int32)))))])) _
          refine XS.lconst X132.here hx rfl (hb hby at_148) ?_
          show Steps p.tables e below (T132.setTop (mkF m 149 #[.val (.long o1), .second, .val (.long l1), .second, .val (.long o2), .second, .val (.long l2), .second, .val (.int p5), .val (.int ex), .val (.ref b6), .val (.ref b36), .val (.ref b60), .val (.int (1 : Int32)), .val (.long (o1 + o2)), .second, .val (.long (l1 + l2)), .second, .unset] [(.long (0 : Int64)), (.long (o1 + o2)), (.int (if (nar .boolean ex) = (0 : Int32) then (0 : Int32) else (if (0 : Int32) < (lcmpW (((0 : Int64) + o1) + o2) (0 : Int64)) then (1 : Int32) else (if (0 : Int32) < (lcmpW (((0 : Int64) + l1) + l2) (0 : Int64)) then (1 : Int32) else (0 : Int32)))))])) _
          refine XS.lcmp X132.here hx rfl (hb hby at_149) rfl ?_
          show Steps p.tables e below (T132.setTop (mkF m 150 #[.val (.long o1), .second, .val (.long l1), .second, .val (.long o2), .second, .val (.long l2), .second, .val (.int p5), .val (.int ex), .val (.ref b6), .val (.ref b36), .val (.ref b60), .val (.int (1 : Int32)), .val (.long (o1 + o2)), .second, .val (.long (l1 + l2)), .second, .unset] [(.int (lcmpW (o1 + o2) (0 : Int64))), (.int (if (nar .boolean ex) = (0 : Int32) then (0 : Int32) else (if (0 : Int32) < (lcmpW (((0 : Int64) + o1) + o2) (0 : Int64)) then (1 : Int32) else (if (0 : Int32) < (lcmpW (((0 : Int64) + l1) + l2) (0 : Int64)) then (1 : Int32) else (0 : Int32)))))])) _
          refine XS.ifNo X132.here hx rfl (hb hby at_150) rfl ((if0 _ _).trans (flt (hj136_150 : ¬ ((0 : Int32) < (lcmpW (o1 + o2) (0 : Int64))))).2.2.1) ?_
          show Steps p.tables e below (T132.setTop (mkF m 153 #[.val (.long o1), .second, .val (.long l1), .second, .val (.long o2), .second, .val (.long l2), .second, .val (.int p5), .val (.int ex), .val (.ref b6), .val (.ref b36), .val (.ref b60), .val (.int (1 : Int32)), .val (.long (o1 + o2)), .second, .val (.long (l1 + l2)), .second, .unset] [(.int (if (nar .boolean ex) = (0 : Int32) then (0 : Int32) else (if (0 : Int32) < (lcmpW (((0 : Int64) + o1) + o2) (0 : Int64)) then (1 : Int32) else (if (0 : Int32) < (lcmpW (((0 : Int64) + l1) + l2) (0 : Int64)) then (1 : Int32) else (0 : Int32)))))])) _
          refine XS.lload X132.here hx rfl (hb hby at_153) rfl ?_
          show Steps p.tables e below (T132.setTop (mkF m 155 #[.val (.long o1), .second, .val (.long l1), .second, .val (.long o2), .second, .val (.long l2), .second, .val (.int p5), .val (.int ex), .val (.ref b6), .val (.ref b36), .val (.ref b60), .val (.int (1 : Int32)), .val (.long (o1 + o2)), .second, .val (.long (l1 + l2)), .second, .unset] [(.long (l1 + l2)), (.int (if (nar .boolean ex) = (0 : Int32) then (0 : Int32) else (if (0 : Int32) < (lcmpW (((0 : Int64) + o1) + o2) (0 : Int64)) then (1 : Int32) else (if (0 : Int32) < (lcmpW (((0 : Int64) + l1) + l2) (0 : Int64)) then (1 : Int32) else (0 : Int32)))))])) _
          refine XS.lconst X132.here hx rfl (hb hby at_155) ?_
          show Steps p.tables e below (T132.setTop (mkF m 156 #[.val (.long o1), .second, .val (.long l1), .second, .val (.long o2), .second, .val (.long l2), .second, .val (.int p5), .val (.int ex), .val (.ref b6), .val (.ref b36), .val (.ref b60), .val (.int (1 : Int32)), .val (.long (o1 + o2)), .second, .val (.long (l1 + l2)), .second, .unset] [(.long (0 : Int64)), (.long (l1 + l2)), (.int (if (nar .boolean ex) = (0 : Int32) then (0 : Int32) else (if (0 : Int32) < (lcmpW (((0 : Int64) + o1) + o2) (0 : Int64)) then (1 : Int32) else (if (0 : Int32) < (lcmpW (((0 : Int64) + l1) + l2) (0 : Int64)) then (1 : Int32) else (0 : Int32)))))])) _
          refine XS.lcmp X132.here hx rfl (hb hby at_156) rfl ?_
          show Steps p.tables e below (T132.setTop (mkF m 157 #[.val (.long o1), .second, .val (.long l1), .second, .val (.long o2), .second, .val (.long l2), .second, .val (.int p5), .val (.int ex), .val (.ref b6), .val (.ref b36), .val (.ref b60), .val (.int (1 : Int32)), .val (.long (o1 + o2)), .second, .val (.long (l1 + l2)), .second, .unset] [(.int (lcmpW (l1 + l2) (0 : Int64))), (.int (if (nar .boolean ex) = (0 : Int32) then (0 : Int32) else (if (0 : Int32) < (lcmpW (((0 : Int64) + o1) + o2) (0 : Int64)) then (1 : Int32) else (if (0 : Int32) < (lcmpW (((0 : Int64) + l1) + l2) (0 : Int64)) then (1 : Int32) else (0 : Int32)))))])) _
          refine XS.ifNo X132.here hx rfl (hb hby at_157) rfl ((if0 _ _).trans (tlt (hj137_157 : (0 : Int32) < (lcmpW (l1 + l2) (0 : Int64)))).2.2.2) ?_
          show Steps p.tables e below (T132.setTop (mkF m 160 #[.val (.long o1), .second, .val (.long l1), .second, .val (.long o2), .second, .val (.long l2), .second, .val (.int p5), .val (.int ex), .val (.ref b6), .val (.ref b36), .val (.ref b60), .val (.int (1 : Int32)), .val (.long (o1 + o2)), .second, .val (.long (l1 + l2)), .second, .unset] [(.int (if (nar .boolean ex) = (0 : Int32) then (0 : Int32) else (if (0 : Int32) < (lcmpW (((0 : Int64) + o1) + o2) (0 : Int64)) then (1 : Int32) else (if (0 : Int32) < (lcmpW (((0 : Int64) + l1) + l2) (0 : Int64)) then (1 : Int32) else (0 : Int32)))))])) _
          refine XS.iconst X132.here hx rfl (hb hby at_160) ?_
          show Steps p.tables e below (T132.setTop (mkF m 161 #[.val (.long o1), .second, .val (.long l1), .second, .val (.long o2), .second, .val (.long l2), .second, .val (.int p5), .val (.int ex), .val (.ref b6), .val (.ref b36), .val (.ref b60), .val (.int (1 : Int32)), .val (.long (o1 + o2)), .second, .val (.long (l1 + l2)), .second, .unset] [(.int (1 : Int32)), (.int (if (nar .boolean ex) = (0 : Int32) then (0 : Int32) else (if (0 : Int32) < (lcmpW (((0 : Int64) + o1) + o2) (0 : Int64)) then (1 : Int32) else (if (0 : Int32) < (lcmpW (((0 : Int64) + l1) + l2) (0 : Int64)) then (1 : Int32) else (0 : Int32)))))])) _
          refine XS.goto X132.here hx rfl (pc0 := 161) (pc' := 165) rfl (hb hby at_161) (by decide) (by decide) ?_
          exact kt
        · rw [if_neg hj135_143, if_neg hj136_150, if_neg hj137_157] at q_jv
          rw [q_jv] at kt
          show Steps p.tables e below (T132.setTop (mkF m 143 #[.val (.long o1), .second, .val (.long l1), .second, .val (.long o2), .second, .val (.long l2), .second, .val (.int p5), .val (.int ex), .val (.ref b6), .val (.ref b36), .val (.ref b60), .val (.int (1 : Int32)), .val (.long (o1 + o2)), .second, .val (.long (l1 + l2)), .second, .unset] [(.int ex), (.int (if (nar .boolean ex) = (0 : Int32) then (0 : Int32) else (if (0 : Int32) < (lcmpW (((0 : Int64) + o1) + o2) (0 : Int64)) then (1 : Int32) else (if (0 : Int32) < (lcmpW (((0 : Int64) + l1) + l2) (0 : Int64)) then (1 : Int32) else (0 : Int32)))))])) _
          refine XS.ifNo X132.here hx rfl (hb hby at_143) rfl ((if0 _ _).trans (feq (hj135_143 : ¬ (ex = (0 : Int32)))).1) ?_
          show Steps p.tables e below (T132.setTop (mkF m 146 #[.val (.long o1), .second, .val (.long l1), .second, .val (.long o2), .second, .val (.long l2), .second, .val (.int p5), .val (.int ex), .val (.ref b6), .val (.ref b36), .val (.ref b60), .val (.int (1 : Int32)), .val (.long (o1 + o2)), .second, .val (.long (l1 + l2)), .second, .unset] [(.int (if (nar .boolean ex) = (0 : Int32) then (0 : Int32) else (if (0 : Int32) < (lcmpW (((0 : Int64) + o1) + o2) (0 : Int64)) then (1 : Int32) else (if (0 : Int32) < (lcmpW (((0 : Int64) + l1) + l2) (0 : Int64)) then (1 : Int32) else (0 : Int32)))))])) _
          refine XS.lload X132.here hx rfl (hb hby at_146) rfl ?_
          show Steps p.tables e below (T132.setTop (mkF m 148 #[.val (.long o1), .second, .val (.long l1), .second, .val (.long o2), .second, .val (.long l2), .second, .val (.int p5), .val (.int ex), .val (.ref b6), .val (.ref b36), .val (.ref b60), .val (.int (1 : Int32)), .val (.long (o1 + o2)), .second, .val (.long (l1 + l2)), .second, .unset] [(.long (o1 + o2)), (.int (if (nar .boolean ex) = (0 : Int32) then (0 : Int32) else (if (0 : Int32) < (lcmpW (((0 : Int64) + o1) + o2) (0 : Int64)) then (1 : Int32) else (if (0 : Int32) < (lcmpW (((0 : Int64) + l1) + l2) (0 : Int64)) then (1 : Int32) else (0 : Int32)))))])) _
          refine XS.lconst X132.here hx rfl (hb hby at_148) ?_
          show Steps p.tables e below (T132.setTop (mkF m 149 #[.val (.long o1), .second, .val (.long l1), .second, .val (.long o2), .second, .val (.long l2), .second, .val (.int p5), .val (.int ex), .val (.ref b6), .val (.ref b36), .val (.ref b60), .val (.int (1 : Int32)), .val (.long (o1 + o2)), .second, .val (.long (l1 + l2)), .second, .unset] [(.long (0 : Int64)), (.long (o1 + o2)), (.int (if (nar .boolean ex) = (0 : Int32) then (0 : Int32) else (if (0 : Int32) < (lcmpW (((0 : Int64) + o1) + o2) (0 : Int64)) then (1 : Int32) else (if (0 : Int32) < (lcmpW (((0 : Int64) + l1) + l2) (0 : Int64)) then (1 : Int32) else (0 : Int32)))))])) _
          refine XS.lcmp X132.here hx rfl (hb hby at_149) rfl ?_
          show Steps p.tables e below (T132.setTop (mkF m 150 #[.val (.long o1), .second, .val (.long l1), .second, .val (.long o2), .second, .val (.long l2), .second, .val (.int p5), .val (.int ex), .val (.ref b6), .val (.ref b36), .val (.ref b60), .val (.int (1 : Int32)), .val (.long (o1 + o2)), .second, .val (.long (l1 + l2)), .second, .unset] [(.int (lcmpW (o1 + o2) (0 : Int64))), (.int (if (nar .boolean ex) = (0 : Int32) then (0 : Int32) else (if (0 : Int32) < (lcmpW (((0 : Int64) + o1) + o2) (0 : Int64)) then (1 : Int32) else (if (0 : Int32) < (lcmpW (((0 : Int64) + l1) + l2) (0 : Int64)) then (1 : Int32) else (0 : Int32)))))])) _
          refine XS.ifNo X132.here hx rfl (hb hby at_150) rfl ((if0 _ _).trans (flt (hj136_150 : ¬ ((0 : Int32) < (lcmpW (o1 + o2) (0 : Int64))))).2.2.1) ?_
          show Steps p.tables e below (T132.setTop (mkF m 153 #[.val (.long o1), .second, .val (.long l1), .second, .val (.long o2), .second, .val (.long l2), .second, .val (.int p5), .val (.int ex), .val (.ref b6), .val (.ref b36), .val (.ref b60), .val (.int (1 : Int32)), .val (.long (o1 + o2)), .second, .val (.long (l1 + l2)), .second, .unset] [(.int (if (nar .boolean ex) = (0 : Int32) then (0 : Int32) else (if (0 : Int32) < (lcmpW (((0 : Int64) + o1) + o2) (0 : Int64)) then (1 : Int32) else (if (0 : Int32) < (lcmpW (((0 : Int64) + l1) + l2) (0 : Int64)) then (1 : Int32) else (0 : Int32)))))])) _
          refine XS.lload X132.here hx rfl (hb hby at_153) rfl ?_
          show Steps p.tables e below (T132.setTop (mkF m 155 #[.val (.long o1), .second, .val (.long l1), .second, .val (.long o2), .second, .val (.long l2), .second, .val (.int p5), .val (.int ex), .val (.ref b6), .val (.ref b36), .val (.ref b60), .val (.int (1 : Int32)), .val (.long (o1 + o2)), .second, .val (.long (l1 + l2)), .second, .unset] [(.long (l1 + l2)), (.int (if (nar .boolean ex) = (0 : Int32) then (0 : Int32) else (if (0 : Int32) < (lcmpW (((0 : Int64) + o1) + o2) (0 : Int64)) then (1 : Int32) else (if (0 : Int32) < (lcmpW (((0 : Int64) + l1) + l2) (0 : Int64)) then (1 : Int32) else (0 : Int32)))))])) _
          refine XS.lconst X132.here hx rfl (hb hby at_155) ?_
          show Steps p.tables e below (T132.setTop (mkF m 156 #[.val (.long o1), .second, .val (.long l1), .second, .val (.long o2), .second, .val (.long l2), .second, .val (.int p5), .val (.int ex), .val (.ref b6), .val (.ref b36), .val (.ref b60), .val (.int (1 : Int32)), .val (.long (o1 + o2)), .second, .val (.long (l1 + l2)), .second, .unset] [(.long (0 : Int64)), (.long (l1 + l2)), (.int (if (nar .boolean ex) = (0 : Int32) then (0 : Int32) else (if (0 : Int32) < (lcmpW (((0 : Int64) + o1) + o2) (0 : Int64)) then (1 : Int32) else (if (0 : Int32) < (lcmpW (((0 : Int64) + l1) + l2) (0 : Int64)) then (1 : Int32) else (0 : Int32)))))])) _
          refine XS.lcmp X132.here hx rfl (hb hby at_156) rfl ?_
          show Steps p.tables e below (T132.setTop (mkF m 157 #[.val (.long o1), .second, .val (.long l1), .second, .val (.long o2), .second, .val (.long l2), .second, .val (.int p5), .val (.int ex), .val (.ref b6), .val (.ref b36), .val (.ref b60), .val (.int (1 : Int32)), .val (.long (o1 + o2)), .second, .val (.long (l1 + l2)), .second, .unset] [(.int (lcmpW (l1 + l2) (0 : Int64))), (.int (if (nar .boolean ex) = (0 : Int32) then (0 : Int32) else (if (0 : Int32) < (lcmpW (((0 : Int64) + o1) + o2) (0 : Int64)) then (1 : Int32) else (if (0 : Int32) < (lcmpW (((0 : Int64) + l1) + l2) (0 : Int64)) then (1 : Int32) else (0 : Int32)))))])) _
          refine XS.ifYes X132.here hx rfl (pc0 := 157) (pc' := 164) rfl (hb hby at_157) rfl ((if0 _ _).trans (flt (hj137_157 : ¬ ((0 : Int32) < (lcmpW (l1 + l2) (0 : Int64))))).2.2.2) (by decide) (by decide) ?_
          show Steps p.tables e below (T132.setTop (mkF m 164 #[.val (.long o1), .second, .val (.long l1), .second, .val (.long o2), .second, .val (.long l2), .second, .val (.int p5), .val (.int ex), .val (.ref b6), .val (.ref b36), .val (.ref b60), .val (.int (1 : Int32)), .val (.long (o1 + o2)), .second, .val (.long (l1 + l2)), .second, .unset] [(.int (if (nar .boolean ex) = (0 : Int32) then (0 : Int32) else (if (0 : Int32) < (lcmpW (((0 : Int64) + o1) + o2) (0 : Int64)) then (1 : Int32) else (if (0 : Int32) < (lcmpW (((0 : Int64) + l1) + l2) (0 : Int64)) then (1 : Int32) else (0 : Int32)))))])) _
          refine XS.iconst X132.here hx rfl (hb hby at_164) ?_
          exact kt
  have sg139 : ∀ target, Steps p.tables e below (T132.setTop (mkF m 190 #[.val (.long o1), .second, .val (.long l1), .second, .val (.long o2), .second, .val (.long l2), .second, .val (.int p5), .val (.int ex), .val (.ref b6), .val (.ref b36), .val (.ref b60), .val (.int (1 : Int32)), .val (.long (o1 + o2)), .second, .val (.long (l1 + l2)), .second, .val (.int (1 : Int32))] [(.int (1 : Int32))])) target → Steps p.tables e below (T132.setTop (mkF m 165 #[.val (.long o1), .second, .val (.long l1), .second, .val (.long o2), .second, .val (.long l2), .second, .val (.int p5), .val (.int ex), .val (.ref b6), .val (.ref b36), .val (.ref b60), .val (.int (1 : Int32)), .val (.long (o1 + o2)), .second, .val (.long (l1 + l2)), .second, .unset] [(.int jv), (.int (if (nar .boolean ex) = (0 : Int32) then (0 : Int32) else (if (0 : Int32) < (lcmpW (((0 : Int64) + o1) + o2) (0 : Int64)) then (1 : Int32) else (if (0 : Int32) < (lcmpW (((0 : Int64) + l1) + l2) (0 : Int64)) then (1 : Int32) else (0 : Int32)))))])) target := by
    intro target kt
    show Steps p.tables e below (T132.setTop (mkF m 165 #[.val (.long o1), .second, .val (.long l1), .second, .val (.long o2), .second, .val (.long l2), .second, .val (.int p5), .val (.int ex), .val (.ref b6), .val (.ref b36), .val (.ref b60), .val (.int (1 : Int32)), .val (.long (o1 + o2)), .second, .val (.long (l1 + l2)), .second, .unset] [(.int jv), (.int (if (nar .boolean ex) = (0 : Int32) then (0 : Int32) else (if (0 : Int32) < (lcmpW (((0 : Int64) + o1) + o2) (0 : Int64)) then (1 : Int32) else (if (0 : Int32) < (lcmpW (((0 : Int64) + l1) + l2) (0 : Int64)) then (1 : Int32) else (0 : Int32)))))])) _
    refine XS.icmpNo X132.here hx rfl (hb hby at_165) rfl (teq (by rw [q_jv, hex, Int64.zero_add, Int64.zero_add] : (if (nar .boolean ex) = (0 : Int32) then (0 : Int32) else (if (0 : Int32) < (lcmpW (((0 : Int64) + o1) + o2) (0 : Int64)) then (1 : Int32) else (if (0 : Int32) < (lcmpW (((0 : Int64) + l1) + l2) (0 : Int64)) then (1 : Int32) else (0 : Int32)))) = jv)).2 ?_
    show Steps p.tables e below (T132.setTop (mkF m 168 #[.val (.long o1), .second, .val (.long l1), .second, .val (.long o2), .second, .val (.long l2), .second, .val (.int p5), .val (.int ex), .val (.ref b6), .val (.ref b36), .val (.ref b60), .val (.int (1 : Int32)), .val (.long (o1 + o2)), .second, .val (.long (l1 + l2)), .second, .unset] [])) _
    refine XS.iconst X132.here hx rfl (hb hby at_168) ?_
    show Steps p.tables e below (T132.setTop (mkF m 169 #[.val (.long o1), .second, .val (.long l1), .second, .val (.long o2), .second, .val (.long l2), .second, .val (.int p5), .val (.int ex), .val (.ref b6), .val (.ref b36), .val (.ref b60), .val (.int (1 : Int32)), .val (.long (o1 + o2)), .second, .val (.long (l1 + l2)), .second, .unset] [(.int (1 : Int32))])) _
    refine XS.goto X132.here hx rfl (pc0 := 169) (pc' := 173) rfl (hb hby at_169) (by decide) (by decide) ?_
    show Steps p.tables e below (T132.setTop (mkF m 173 #[.val (.long o1), .second, .val (.long l1), .second, .val (.long o2), .second, .val (.long l2), .second, .val (.int p5), .val (.int ex), .val (.ref b6), .val (.ref b36), .val (.ref b60), .val (.int (1 : Int32)), .val (.long (o1 + o2)), .second, .val (.long (l1 + l2)), .second, .unset] [(.int (1 : Int32))])) _
    refine XS.istore X132.here hx rfl (hb hby at_173) rfl (l' := #[.val (.long o1), .second, .val (.long l1), .second, .val (.long o2), .second, .val (.long l2), .second, .val (.int p5), .val (.int ex), .val (.ref b6), .val (.ref b36), .val (.ref b60), .val (.int (1 : Int32)), .val (.long (o1 + o2)), .second, .val (.long (l1 + l2)), .second, .val (.int (1 : Int32))]) rfl ?_
    show Steps p.tables e below (T132.setTop (mkF m 175 #[.val (.long o1), .second, .val (.long l1), .second, .val (.long o2), .second, .val (.long l2), .second, .val (.int p5), .val (.int ex), .val (.ref b6), .val (.ref b36), .val (.ref b60), .val (.int (1 : Int32)), .val (.long (o1 + o2)), .second, .val (.long (l1 + l2)), .second, .val (.int (1 : Int32))] [])) _
    refine XS.iload X132.here hx rfl (hb hby at_175) rfl ?_
    show Steps p.tables e below (T132.setTop (mkF m 177 #[.val (.long o1), .second, .val (.long l1), .second, .val (.long o2), .second, .val (.long l2), .second, .val (.int p5), .val (.int ex), .val (.ref b6), .val (.ref b36), .val (.ref b60), .val (.int (1 : Int32)), .val (.long (o1 + o2)), .second, .val (.long (l1 + l2)), .second, .val (.int (1 : Int32))] [(.int (1 : Int32))])) _
    refine XS.ifNo X132.here hx rfl (hb hby at_177) rfl ((if0 _ _).trans (feq (by decide : ¬ ((1 : Int32) = (0 : Int32)))).1) ?_
    show Steps p.tables e below (T132.setTop (mkF m 180 #[.val (.long o1), .second, .val (.long l1), .second, .val (.long o2), .second, .val (.long l2), .second, .val (.int p5), .val (.int ex), .val (.ref b6), .val (.ref b36), .val (.ref b60), .val (.int (1 : Int32)), .val (.long (o1 + o2)), .second, .val (.long (l1 + l2)), .second, .val (.int (1 : Int32))] [])) _
    refine XS.iload X132.here hx rfl (hb hby at_180) rfl ?_
    show Steps p.tables e below (T132.setTop (mkF m 182 #[.val (.long o1), .second, .val (.long l1), .second, .val (.long o2), .second, .val (.long l2), .second, .val (.int p5), .val (.int ex), .val (.ref b6), .val (.ref b36), .val (.ref b60), .val (.int (1 : Int32)), .val (.long (o1 + o2)), .second, .val (.long (l1 + l2)), .second, .val (.int (1 : Int32))] [(.int (1 : Int32))])) _
    refine XS.ifNo X132.here hx rfl (hb hby at_182) rfl ((if0 _ _).trans (feq (by decide : ¬ ((1 : Int32) = (0 : Int32)))).1) ?_
    show Steps p.tables e below (T132.setTop (mkF m 185 #[.val (.long o1), .second, .val (.long l1), .second, .val (.long o2), .second, .val (.long l2), .second, .val (.int p5), .val (.int ex), .val (.ref b6), .val (.ref b36), .val (.ref b60), .val (.int (1 : Int32)), .val (.long (o1 + o2)), .second, .val (.long (l1 + l2)), .second, .val (.int (1 : Int32))] [])) _
    refine XS.iconst X132.here hx rfl (hb hby at_185) ?_
    show Steps p.tables e below (T132.setTop (mkF m 186 #[.val (.long o1), .second, .val (.long l1), .second, .val (.long o2), .second, .val (.long l2), .second, .val (.int p5), .val (.int ex), .val (.ref b6), .val (.ref b36), .val (.ref b60), .val (.int (1 : Int32)), .val (.long (o1 + o2)), .second, .val (.long (l1 + l2)), .second, .val (.int (1 : Int32))] [(.int (1 : Int32))])) _
    refine XS.goto X132.here hx rfl (pc0 := 186) (pc' := 190) rfl (hb hby at_186) (by decide) (by decide) ?_
    exact kt
  obtain ⟨fs, hr, hrun, hended, hWE⟩ := Stand.leaveW (s := s) (vm₁ := T17.vm) X132 hS17 (by rw [c132_0]; exact (Nat.le_trans (Nat.le_trans (Nat.le_trans (Nat.le_trans (Nat.le_trans (Nat.le_trans (Nat.le_trans hk17 c28_0.1) E36.1) c48_0.1) E60.1) c76_0.1) c92_0.1) c112_0.1)) (v := some (.int (1 : Int32))) (fun h => by rw [Bd.returns] at h; cases h)
  refine ⟨_, _, pre0 _ ?_, hrun, hended, _, _, rfl, ?_, hWE.1, hWE.2.1, hWE.2.2.1, hWE.2.2.2.mono (by decide) (by decide)⟩
  · show Steps p.tables e below (s₁.setTop (mkF m 0 #[.val (.long o1), .second, .val (.long l1), .second, .val (.long o2), .second, .val (.long l2), .second, .val (.int p5), .unset, .unset, .unset, .unset, .unset, .unset, .unset, .unset, .unset, .unset] [])) _
    refine sg1 _ ?_
    refine sg4 _ ?_
    refine sg5 _ ?_
    refine st6 _ ?_
    refine sg16 _ ?_
    refine st17 _ ?_
    refine sg27 _ ?_
    refine st28.trans ?_
    refine sg35 _ ?_
    refine st36 _ ?_
    refine sg47 _ ?_
    refine st48.trans ?_
    refine sg59 _ ?_
    refine st60 _ ?_
    refine sg75 _ ?_
    refine st76.trans ?_
    refine sg91 _ ?_
    refine st92.trans ?_
    refine sg107 _ ?_
    refine st108.trans ?_
    refine sg109 _ ?_
    refine st110.trans ?_
    refine sg111 _ ?_
    refine st112.trans ?_
    refine sg127 _ ?_
    refine st128.trans ?_
    refine sg129 _ ?_
    refine st130.trans ?_
    refine sg131 _ ?_
    refine st132.trans ?_
    refine sg133 _ ?_
    refine sg138 _ ?_
    refine sg139 _ ?_
    show Steps p.tables e below (T132.setTop (mkF m 190 #[.val (.long o1), .second, .val (.long l1), .second, .val (.long o2), .second, .val (.long l2), .second, .val (.int p5), .val (.int ex), .val (.ref b6), .val (.ref b36), .val (.ref b60), .val (.int (1 : Int32)), .val (.long (o1 + o2)), .second, .val (.long (l1 + l2)), .second, .val (.int (1 : Int32))] [(.int (1 : Int32))])) _
    exact retN X132 hx (t := .boolean) Bd.returns (by simp) (hb hby at_190) hr
  · show Q_rm0 Z o1 l1 o2 l2 p5 d0 h0 n0 _ T132.heap _
    rw [c132_0]
    exact ⟨rfl, N132⟩
set_option maxRecDepth 65536 in
set_option maxHeartbeats 40000000 in
theorem comes_1 {Post : Tables → Env → Array Value → State → Outcome → State → Prop} (hpost : ∀ tb e args s v u, (limb_1_1.after args s (.returned v) u = true ∧ limb_1_2.after args s (.returned v) u = true ∧ True) → ReturnedEndW s (.returned v) u (Jvm.fieldLocs frame_1_writes args s ++ Jvm.arrayLocs frame_1_arrays args s ++ Jvm.staticLocs frame_1_statics s) 24 1152 → Post tb e args s (.returned v) u) :
    ArmFor flags0 classFile x code maxLocals ret World_1 tables_1 room_1 Calls_1 rest_1 Pre_1 Post := by
  intro l hfl _ _ p e ha hc hk s m args below hf hA hF happ hP
  obtain ⟨hcalls, hrest, hpre⟩ := hP
  obtain ⟨-, -, -, hnamed, -, -, -, hat⟩ := (Spec.applies_iff hf).mp happ
  obtain ⟨hg, hn⟩ := and_e (Cond.before_iff.mp (show (Jvm.Cond.and given_1 narrow_1).before args s = true from hpre))
  obtain ⟨g1, g2⟩ := and_e hg
  obtain ⟨g3, g4⟩ := and_e g2
  obtain ⟨g5, g6⟩ := and_e g4
  obtain ⟨g7, g8⟩ := and_e g6
  obtain ⟨g9, g10⟩ := and_e g8
  obtain ⟨w0, w1, w2, w3, w4, rfl⟩ : ∃ w0 w1 w2 w3 w4 : Value, args = #[w0, w1, w2, w3, w4] := by
    have hs : args.size = 5 := by simpa [Cond.value, given_1] using g1
    obtain ⟨L⟩ := args
    match L, hs with
    | [w0, w1, w2, w3, w4], _ => exact ⟨w0, w1, w2, w3, w4, rfl⟩
  have hw := fun d (hd : d ∈ tables_1) => atoms_spec (ws := Jvm.Cond.code x code maxLocals ret :: tables_1) hat d (List.mem_cons_of_mem _ hd)
  have hfit : Fit s := fun {y c} hc i hi => by
    obtain ⟨ha, rfl⟩ := Array.getElem?_eq_some_iff.mp hc
    have q := List.all_eq_true.mp ((Array.all_eq_true_iff_forall_mem.mp hF) _ (Array.getElem_mem ha)) i (List.mem_range.mpr hi)
    simpa [Array.getElem?_eq_getElem hi] using q
  obtain ⟨hsets, hown0⟩ := atoms_of _ (rest_1_c_eq ▸ (show rest_1_c.before _ s = true from hrest))
  have hr0 := Cond.before_iff.mp hown0
  obtain ⟨i0, ei0⟩ := isL_v g3
  obtain rfl : w0 = (.long i0) := Option.some.inj ei0
  obtain ⟨i1, ei1⟩ := isL_v g5
  obtain rfl : w1 = (.long i1) := Option.some.inj ei1
  obtain ⟨i2, ei2⟩ := isL_v g7
  obtain rfl : w2 = (.long i2) := Option.some.inj ei2
  obtain ⟨i3, ei3⟩ := isL_v g9
  obtain rfl : w3 = (.long i3) := Option.some.inj ei3
  obtain ⟨i4, ei4⟩ := is_v g10
  obtain rfl : w4 = (.int i4) := Option.some.inj ei4
  have l2 := hsets _ (List.mem_of_getElem? (i := 2) rfl)
  have l6 := Cond.before_iff.mp (hsets _ (List.mem_of_getElem? (i := 6) rfl))
  obtain ⟨d0, ed0⟩ := arr_v l6
  have S0 := Sta.start ed0 (Or.inr ⟨hw _ (List.mem_of_getElem? (i := 19) rfl), l2⟩)
  obtain ⟨n, o, h1, h2, h3, _, L, rfl, ⟨rfl, N⟩, hq⟩ := rm0 l s _ hw tables_1 i0 i1 i2 i3 i4 d0 s.heap s.heap.size (Nat.le_refl _) (Old.start s) S0 p e ha hc hk s m _ below hf ((Spec.applies_iff_loose hf).mp happ).1 ⟨rfl, State.Warmed39.refl s, rfl⟩ trivial
  refine ⟨n, _, h1, h2, h3, hpost _ _ _ _ _ _ ⟨Cond.after_iff.mpr rfl, Cond.after_iff.mpr (eq_i res_at (Term.int_eval (1)) rfl), trivial⟩ ⟨hq.1, hq.2.1, hq.2.2.1, (hq.2.2.2.sift fun y hy => Or.inr (N y hy)).mono (by decide) (by decide)⟩⟩
theorem main_1_1 : Claimed_1_1 := comes_1 fun _ _ _ _ _ _ h hF => ⟨h.1, hF⟩
theorem main_1_2 : Claimed_1_2 := comes_1 fun _ _ _ _ _ _ h hF => ⟨h.2.1, hF⟩
end Jvm.Pilot.@@N@@
namespace Jvm.Pilot.@@N@@
open Jvm Jvm.ClassFile Sem Op Lib Jvm.Free Jvm.Stand Jvm.Pilot.@@N@@.Jvm.D
/-! MADE BY PROGRAM (witnessworld.py) out of the Statement's table words and the real class files: 25 classes; the members and pool entries that the words name. The judged class is class 1, her method 1. -/
namespace start1
open Jvm.ClassFile
def u (s : String) : CpInfo := .utf8 (stringToUtf16 s)
/-- a pool by its gaps: so many unusable entries, then the entry; so many at the end -/
def gap : Nat → List CpInfo → List CpInfo
  | 0, r => r
  | n + 1, r => .unusable :: gap n r
def poolList (es : List (Nat × CpInfo)) (last : Nat) : List CpInfo := es.foldr (fun e r => gap e.1 (e.2 :: r)) (gap last [])
def pool (es : List (Nat × CpInfo)) (last : Nat) : Array CpInfo := ⟨poolList es last⟩
def fileOf (pool : Array CpInfo) (this : Nat) (attrs : Array Attribute := #[]) (ms : Array MethodInfo := #[]) (fl : Nat := 33) (sup : Nat := 0) (ifs : Array Nat := #[]) (fds : Array FieldInfo := #[]) : ClassFile where
  minorVersion := 0
  majorVersion := 65
  constantPool := pool
  accessFlags := fl
  thisClass := this
  superClass := sup
  interfaces := ifs
  fields := fds
  methods := ms
  attributes := attrs
def plain (name : String) (sup : Option ClassId) : Class where
  name := name
  kind := .ordinary
  loader := none
  accessFlags := 33
  super := sup
  interfaces := #[]
  cf := none
  fields := #[]
  methods := #[]
  instanceTypes := #[]
  staticTypes := #[]
  resolved := #[]
  callSites := []
  init := .initialized
  statics := none
  mirror := none

def pool0 : Array CpInfo := pool [(5, u "<init>"), (0, u "()V"), (1, .class_ 10), (1, u "java/lang/Object")] 113

def k0c0 : Code := { maxStack := 0, maxLocals := 1, code := object_method_1_code, exceptionTable := #[], attributes := #[] }
def k0m0 : Method := { name := "<init>", desc := "()V", sig := { parameters := [], returnType := none }, accessFlags := 1, code := some k0c0 }
/-- java/lang/Object -/
def k0 : Class := { plain "java/lang/Object" none with
  accessFlags := 33
  interfaces := #[]
  cf := some (fileOf pool0 8 #[] #[{ accessFlags := 1, nameIndex := 5, descriptorIndex := 6, attributes := #[] }] 33 0 #[] #[])
  fields := #[]
  methods := #[k0m0]
  instanceTypes := #[]
  staticTypes := #[]
  resolved := Array.replicate 124 none
  statics := none }

def pool1 : Array CpInfo := pool [(2, .class_ 4), (1, u "java/lang/Object"), (0, u "<init>"), (0, u "()V"), (0, .class_ 8), (0, u "com/example/brelok/brelok/perf/Tally"), (0, .string 10), (0, u "x"), (0, .methodref 7 12), (0, .nameAndType 5 13), (0, u "(Ljava/lang/String;Z)V"), (0, .class_ 15), (0, u "com/example/brelok/brelok/perf/Timing$Measure"), (0, .methodref 14 17), (0, .nameAndType 5 18), (0, u "(DJJ)V"), (0, .methodref 7 20), (0, .nameAndType 21 22), (0, u "setWaiting"), (0, u "(Lcom/example/brelok/brelok/perf/Timing$Measure;)V"), (0, .methodref 7 24), (0, .nameAndType 25 26), (0, u "overlaps"), (0, u "()J"), (0, .methodref 7 28), (0, .nameAndType 29 26), (0, u "lostUpdates"), (0, .methodref 7 31), (0, .nameAndType 32 33), (0, u "failedToExclude"), (0, u "()Z"), (0, .class_ 35), (0, u "com/example/brelok/brelok/perf/TallySetWaitingPinLaw"), (2, u "law"), (0, u "(JJJJI)Z")] 7

def k1m0 : Method := { name := "<init>", desc := "()V", sig := { parameters := [], returnType := none }, accessFlags := 1, code := none }
def k1c1 : Code := { maxStack := 8, maxLocals := 19, code := code, exceptionTable := #[], attributes := #[] }
def k1m1 : Method := { name := "law", desc := "(JJJJI)Z", sig := { parameters := [.long, .long, .long, .long, .int], returnType := some .boolean }, accessFlags := 9, code := some k1c1 }
/-- com/example/brelok/brelok/perf/TallySetWaitingPinLaw -/
def k1 : Class := { plain "com/example/brelok/brelok/perf/TallySetWaitingPinLaw" (some 0) with
  accessFlags := 49
  interfaces := #[]
  cf := some (fileOf pool1 34 #[] #[{ accessFlags := 1, nameIndex := 5, descriptorIndex := 6, attributes := #[] }, { accessFlags := 9, nameIndex := 38, descriptorIndex := 39, attributes := #[] }] 49 2 #[] #[])
  fields := #[]
  methods := #[k1m0, k1m1]
  instanceTypes := #[]
  staticTypes := #[]
  resolved := Array.replicate 47 none
  statics := none }

def pool2 : Array CpInfo := pool [(1, .methodref 2 3), (0, .class_ 4), (0, .nameAndType 5 6), (0, u "java/lang/Object"), (0, u "<init>"), (0, u "()V"), (0, .class_ 8), (0, u "java/util/ArrayList"), (0, .methodref 7 3), (0, .fieldref 11 12), (0, .class_ 13), (0, .nameAndType 14 15), (0, u "com/example/brelok/brelok/perf/Tally"), (0, u "solo"), (0, u "Ljava/util/List;"), (0, .fieldref 11 17), (0, .nameAndType 18 15), (0, u "contended"), (0, .fieldref 11 20), (0, .nameAndType 21 22), (0, u "name"), (0, u "Ljava/lang/String;"), (0, .fieldref 11 24), (0, .nameAndType 25 26), (0, u "excludes"), (0, u "Z"), (12, .methodref 40 41), (0, .class_ 42), (0, .nameAndType 43 44), (0, u "com/example/brelok/brelok/perf/Timing$Measure"), (0, u "figure"), (0, u "()D"), (0, .methodref 11 46), (0, .nameAndType 47 48), (0, u "addExclusion"), (0, u "(Lcom/example/brelok/brelok/perf/Timing$Measure;)V"), (0, .fieldref 11 50), (0, .nameAndType 51 52), (0, u "waiting"), (0, u "D"), (0, .fieldref 11 54), (0, .nameAndType 55 56), (0, u "overlaps"), (0, u "J"), (0, .fieldref 11 58), (0, .nameAndType 59 56), (0, u "lostUpdates"), (21, u "()J"), (26, .methodref 40 109), (0, .nameAndType 55 81), (0, .methodref 40 111), (0, .nameAndType 59 81), (54, u "(Ljava/lang/String;Z)V"), (2, u "()Z"), (3, u "setWaiting"), (0, u "failedToExclude")] 28

def k2c0 : Code := { maxStack := 3, maxLocals := 3, code := prog_34_method_1_code, exceptionTable := #[], attributes := #[] }
def k2m0 : Method := { name := "<init>", desc := "(Ljava/lang/String;Z)V", sig := { parameters := [(.object "java/lang/String"), .boolean], returnType := none }, accessFlags := 0, code := some k2c0 }
def k2c1 : Code := { maxStack := 3, maxLocals := 2, code := prog_34_method_6_code, exceptionTable := #[], attributes := #[] }
def k2m1 : Method := { name := "setWaiting", desc := "(Lcom/example/brelok/brelok/perf/Timing$Measure;)V", sig := { parameters := [(.object "com/example/brelok/brelok/perf/Timing$Measure")], returnType := none }, accessFlags := 0, code := some k2c1 }
def k2c2 : Code := { maxStack := 4, maxLocals := 1, code := prog_34_method_7_code, exceptionTable := #[], attributes := #[] }
def k2m2 : Method := { name := "failedToExclude", desc := "()Z", sig := { parameters := [], returnType := some .boolean }, accessFlags := 0, code := some k2c2 }
def k2c3 : Code := { maxStack := 2, maxLocals := 1, code := prog_34_method_8_code, exceptionTable := #[], attributes := #[] }
def k2m3 : Method := { name := "overlaps", desc := "()J", sig := { parameters := [], returnType := some .long }, accessFlags := 0, code := some k2c3 }
def k2c4 : Code := { maxStack := 2, maxLocals := 1, code := prog_34_method_9_code, exceptionTable := #[], attributes := #[] }
def k2m4 : Method := { name := "lostUpdates", desc := "()J", sig := { parameters := [], returnType := some .long }, accessFlags := 0, code := some k2c4 }
def k2c5 : Code := { maxStack := 5, maxLocals := 2, code := prog_34_method_14_code, exceptionTable := #[], attributes := #[] }
def k2m5 : Method := { name := "addExclusion", desc := "(Lcom/example/brelok/brelok/perf/Timing$Measure;)V", sig := { parameters := [(.object "com/example/brelok/brelok/perf/Timing$Measure")], returnType := none }, accessFlags := 2, code := some k2c5 }
/-- com/example/brelok/brelok/perf/Tally -/
def k2 : Class := { plain "com/example/brelok/brelok/perf/Tally" (some 0) with
  accessFlags := 32
  interfaces := #[]
  cf := some (fileOf pool2 11 #[] #[{ accessFlags := 0, nameIndex := 5, descriptorIndex := 166, attributes := #[] }, { accessFlags := 0, nameIndex := 173, descriptorIndex := 48, attributes := #[] }, { accessFlags := 0, nameIndex := 174, descriptorIndex := 169, attributes := #[] }, { accessFlags := 0, nameIndex := 55, descriptorIndex := 81, attributes := #[] }, { accessFlags := 0, nameIndex := 59, descriptorIndex := 81, attributes := #[] }, { accessFlags := 2, nameIndex := 47, descriptorIndex := 48, attributes := #[] }] 32 2 #[] #[{ accessFlags := 18, nameIndex := 21, descriptorIndex := 22, attributes := #[] }, { accessFlags := 18, nameIndex := 25, descriptorIndex := 26, attributes := #[] }, { accessFlags := 18, nameIndex := 14, descriptorIndex := 15, attributes := #[] }, { accessFlags := 18, nameIndex := 18, descriptorIndex := 15, attributes := #[] }, { accessFlags := 2, nameIndex := 51, descriptorIndex := 52, attributes := #[] }, { accessFlags := 2, nameIndex := 55, descriptorIndex := 56, attributes := #[] }, { accessFlags := 2, nameIndex := 59, descriptorIndex := 56, attributes := #[] }])
  fields := #[{ name := "name", type := (.object "java/lang/String"), accessFlags := 18, slot := 0, constantValue := 0 }, { name := "excludes", type := .boolean, accessFlags := 18, slot := 1, constantValue := 0 }, { name := "solo", type := (.object "java/util/List"), accessFlags := 18, slot := 2, constantValue := 0 }, { name := "contended", type := (.object "java/util/List"), accessFlags := 18, slot := 3, constantValue := 0 }, { name := "waiting", type := .double, accessFlags := 2, slot := 4, constantValue := 0 }, { name := "overlaps", type := .long, accessFlags := 2, slot := 5, constantValue := 0 }, { name := "lostUpdates", type := .long, accessFlags := 2, slot := 6, constantValue := 0 }]
  methods := #[k2m0, k2m1, k2m2, k2m3, k2m4, k2m5]
  instanceTypes := #[(.object "java/lang/String"), .boolean, (.object "java/util/List"), (.object "java/util/List"), .double, .long, .long]
  staticTypes := #[]
  resolved := Array.replicate 203 none
  statics := none }

def pool3 : Array CpInfo := pool [(1, .class_ 2), (0, u "java/io/Serializable"), (0, .class_ 4), (0, u "java/lang/Object")] 2

/-- java/io/Serializable -/
def k3 : Class := { plain "java/io/Serializable" (some 0) with
  accessFlags := 1537
  interfaces := #[]
  cf := some (fileOf pool3 1 #[] #[] 1537 3 #[] #[])
  fields := #[]
  methods := #[]
  instanceTypes := #[]
  staticTypes := #[]
  resolved := Array.replicate 7 none
  statics := none }

def pool4 : Array CpInfo := pool [(1, .class_ 2), (0, u "java/lang/Comparable"), (0, .class_ 4), (0, u "java/lang/Object")] 7

/-- java/lang/Comparable -/
def k4 : Class := { plain "java/lang/Comparable" (some 0) with
  accessFlags := 1537
  interfaces := #[]
  cf := some (fileOf pool4 1 #[] #[] 1537 3 #[] #[])
  fields := #[]
  methods := #[]
  instanceTypes := #[]
  staticTypes := #[]
  resolved := Array.replicate 12 none
  statics := none }

def pool5 : Array CpInfo := pool [(2, .class_ 4), (1, u "java/lang/CharSequence"), (42, .class_ 48), (0, u "java/lang/CharSequence$1CodePointIterator"), (10, .class_ 60), (0, u "java/lang/CharSequence$1CharIterator"), (5, .class_ 67), (0, u "java/lang/Object")] 63

/-- java/lang/CharSequence -/
def k5 : Class := { plain "java/lang/CharSequence" (some 0) with
  accessFlags := 1537
  interfaces := #[]
  cf := some (fileOf pool5 2 #[.nestMembers #[47, 59]] #[] 1537 66 #[] #[])
  fields := #[]
  methods := #[]
  instanceTypes := #[]
  staticTypes := #[]
  resolved := Array.replicate 131 none
  statics := none }

def pool6 : Array CpInfo := pool [(1, .class_ 2), (0, u "java/lang/constant/Constable"), (0, .class_ 4), (0, u "java/lang/Object")] 6

/-- java/lang/constant/Constable -/
def k6 : Class := { plain "java/lang/constant/Constable" (some 0) with
  accessFlags := 1537
  interfaces := #[]
  cf := some (fileOf pool6 1 #[] #[] 1537 3 #[] #[])
  fields := #[]
  methods := #[]
  instanceTypes := #[]
  staticTypes := #[]
  resolved := Array.replicate 11 none
  statics := none }

def pool7 : Array CpInfo := pool [(1, .class_ 2), (0, u "java/lang/constant/ConstantDesc"), (0, .class_ 4), (0, u "java/lang/Object")] 32

/-- java/lang/constant/ConstantDesc -/
def k7 : Class := { plain "java/lang/constant/ConstantDesc" (some 0) with
  accessFlags := 1537
  interfaces := #[]
  cf := some (fileOf pool7 1 #[] #[] 1537 3 #[] #[])
  fields := #[]
  methods := #[]
  instanceTypes := #[]
  staticTypes := #[]
  resolved := Array.replicate 37 none
  statics := none }

def pool8 : Array CpInfo := pool [(2, .class_ 4), (1, u "java/lang/Object"), (0, u "<init>"), (0, u "()V"), (3, .class_ 12), (1, u "java/lang/String"), (0, u "value"), (0, u "[B"), (2, u "coder"), (0, u "B"), (2, u "hash"), (0, u "I"), (2, u "hashIsZero"), (0, u "Z"), (13, u "COMPACT_STRINGS"), (534, .class_ 576), (0, u "java/lang/CharSequence"), (22, u "CASE_INSENSITIVE_ORDER"), (0, u "Ljava/util/Comparator;"), (500, u "serialPersistentFields"), (0, u "[Ljava/io/ObjectStreamField;"), (0, .class_ 1104), (0, u "java/lang/String$CaseInsensitiveComparator"), (1, .class_ 1107), (0, u "java/io/Serializable"), (0, .class_ 1109), (0, u "java/lang/Comparable"), (0, .class_ 1111), (0, u "java/lang/constant/Constable"), (0, .class_ 1113), (0, u "java/lang/constant/ConstantDesc"), (2, u "serialVersionUID"), (0, u "J"), (3, u "REPL"), (0, u "C"), (2, u "LATIN1"), (1, u "UTF16")] 323

def k8m0 : Method := { name := "<init>", desc := "()V", sig := { parameters := [], returnType := none }, accessFlags := 1, code := none }
/-- java/lang/String -/
def k8 : Class := { plain "java/lang/String" (some 0) with
  accessFlags := 49
  interfaces := #[3, 4, 5, 6, 7]
  cf := some (fileOf pool8 10 #[.nestMembers #[1103]] #[{ accessFlags := 1, nameIndex := 5, descriptorIndex := 6, attributes := #[] }] 49 2 #[1106, 1108, 575, 1110, 1112] #[{ accessFlags := 18, nameIndex := 13, descriptorIndex := 14, attributes := #[] }, { accessFlags := 18, nameIndex := 17, descriptorIndex := 18, attributes := #[] }, { accessFlags := 2, nameIndex := 21, descriptorIndex := 22, attributes := #[] }, { accessFlags := 2, nameIndex := 25, descriptorIndex := 26, attributes := #[] }, { accessFlags := 26, nameIndex := 1116, descriptorIndex := 1117, attributes := #[] }, { accessFlags := 24, nameIndex := 40, descriptorIndex := 26, attributes := #[] }, { accessFlags := 26, nameIndex := 1101, descriptorIndex := 1102, attributes := #[] }, { accessFlags := 26, nameIndex := 1121, descriptorIndex := 1122, attributes := #[] }, { accessFlags := 25, nameIndex := 599, descriptorIndex := 600, attributes := #[] }, { accessFlags := 24, nameIndex := 1125, descriptorIndex := 18, attributes := #[] }, { accessFlags := 24, nameIndex := 1127, descriptorIndex := 18, attributes := #[] }])
  fields := #[{ name := "value", type := (.array .byte), accessFlags := 18, slot := 0, constantValue := 0 }, { name := "coder", type := .byte, accessFlags := 18, slot := 1, constantValue := 0 }, { name := "hash", type := .int, accessFlags := 2, slot := 2, constantValue := 0 }, { name := "hashIsZero", type := .boolean, accessFlags := 2, slot := 3, constantValue := 0 }, { name := "serialVersionUID", type := .long, accessFlags := 26, slot := 0, constantValue := 0 }, { name := "COMPACT_STRINGS", type := .boolean, accessFlags := 24, slot := 1, constantValue := 0 }, { name := "serialPersistentFields", type := (.array (.object "java/io/ObjectStreamField")), accessFlags := 26, slot := 2, constantValue := 0 }, { name := "REPL", type := .char, accessFlags := 26, slot := 3, constantValue := 0 }, { name := "CASE_INSENSITIVE_ORDER", type := (.object "java/util/Comparator"), accessFlags := 25, slot := 4, constantValue := 0 }, { name := "LATIN1", type := .byte, accessFlags := 24, slot := 5, constantValue := 0 }, { name := "UTF16", type := .byte, accessFlags := 24, slot := 6, constantValue := 0 }]
  methods := #[k8m0]
  instanceTypes := #[(.array .byte), .byte, .int, .boolean]
  staticTypes := #[.long, .boolean, (.array (.object "java/io/ObjectStreamField")), .char, (.object "java/util/Comparator"), .byte, .byte]
  resolved := Array.replicate 1451 none
  statics := none }

def pool9 : Array CpInfo := pool [(8, .class_ 10), (1, u "java/lang/Iterable"), (24, .class_ 36), (0, u "java/lang/Object")] 25

/-- java/lang/Iterable -/
def k9 : Class := { plain "java/lang/Iterable" (some 0) with
  accessFlags := 1537
  interfaces := #[]
  cf := some (fileOf pool9 8 #[] #[] 1537 35 #[] #[])
  fields := #[]
  methods := #[]
  instanceTypes := #[]
  staticTypes := #[]
  resolved := Array.replicate 62 none
  statics := none }

def pool10 : Array CpInfo := pool [(10, .class_ 12), (1, u "java/util/Collection"), (47, .class_ 61), (0, u "java/lang/Object"), (0, .class_ 63), (0, u "java/lang/Iterable")] 51

/-- java/util/Collection -/
def k10 : Class := { plain "java/util/Collection" (some 0) with
  accessFlags := 1537
  interfaces := #[9]
  cf := some (fileOf pool10 10 #[] #[] 1537 60 #[62] #[])
  fields := #[]
  methods := #[]
  instanceTypes := #[]
  staticTypes := #[]
  resolved := Array.replicate 115 none
  statics := none }

def pool11 : Array CpInfo := pool [(1, .methodref 2 3), (0, .class_ 4), (0, .nameAndType 5 6), (0, u "java/lang/Object"), (0, u "<init>"), (0, u "()V"), (1, .class_ 10), (1, u "java/util/AbstractCollection"), (66, .class_ 78), (0, u "java/util/Collection")] 81

def k11c0 : Code := { maxStack := 1, maxLocals := 1, code := jdk_22_method_1_code, exceptionTable := #[], attributes := #[] }
def k11m0 : Method := { name := "<init>", desc := "()V", sig := { parameters := [], returnType := none }, accessFlags := 4, code := some k11c0 }
/-- java/util/AbstractCollection -/
def k11 : Class := { plain "java/util/AbstractCollection" (some 0) with
  accessFlags := 1057
  interfaces := #[10]
  cf := some (fileOf pool11 8 #[] #[{ accessFlags := 4, nameIndex := 5, descriptorIndex := 6, attributes := #[] }] 1057 2 #[77] #[])
  fields := #[]
  methods := #[k11m0]
  instanceTypes := #[]
  staticTypes := #[]
  resolved := Array.replicate 160 none
  statics := none }

def pool12 : Array CpInfo := pool [(8, .class_ 10), (1, u "java/util/SequencedCollection"), (15, .class_ 27), (0, u "java/lang/Object"), (0, .class_ 29), (0, u "java/util/Collection")] 27

/-- java/util/SequencedCollection -/
def k12 : Class := { plain "java/util/SequencedCollection" (some 0) with
  accessFlags := 1537
  interfaces := #[10]
  cf := some (fileOf pool12 8 #[] #[] 1537 26 #[28] #[])
  fields := #[]
  methods := #[]
  instanceTypes := #[]
  staticTypes := #[]
  resolved := Array.replicate 57 none
  statics := none }

def pool13 : Array CpInfo := pool [(8, .class_ 10), (1, u "java/util/List"), (92, .class_ 104), (0, u "java/lang/Object"), (15, .class_ 121), (0, u "java/util/SequencedCollection")] 129

/-- java/util/List -/
def k13 : Class := { plain "java/util/List" (some 0) with
  accessFlags := 1537
  interfaces := #[12]
  cf := some (fileOf pool13 8 #[] #[] 1537 103 #[120] #[])
  fields := #[]
  methods := #[]
  instanceTypes := #[]
  staticTypes := #[]
  resolved := Array.replicate 251 none
  statics := none }

def pool14 : Array CpInfo := pool [(1, .methodref 2 3), (0, .class_ 4), (0, .nameAndType 5 6), (0, u "java/util/AbstractCollection"), (0, u "<init>"), (0, u "()V"), (0, .fieldref 8 9), (0, .class_ 10), (0, .nameAndType 11 12), (0, u "java/util/AbstractList"), (0, u "modCount"), (0, u "I"), (64, .class_ 78), (0, u "java/util/AbstractList$Itr"), (3, .class_ 83), (0, u "java/util/AbstractList$ListItr"), (9, .class_ 94), (0, u "java/util/AbstractList$RandomAccessSubList"), (3, .class_ 99), (0, u "java/util/AbstractList$SubList"), (33, .class_ 134), (0, u "java/util/List"), (73, .class_ 209), (0, u "java/util/AbstractList$SubList$1"), (0, .class_ 211), (0, u "java/util/AbstractList$RandomAccessSpliterator")] 6

def k14c0 : Code := { maxStack := 2, maxLocals := 1, code := jdk_39_method_1_code, exceptionTable := #[], attributes := #[] }
def k14m0 : Method := { name := "<init>", desc := "()V", sig := { parameters := [], returnType := none }, accessFlags := 4, code := some k14c0 }
/-- java/util/AbstractList -/
def k14 : Class := { plain "java/util/AbstractList" (some 11) with
  accessFlags := 1057
  interfaces := #[13]
  cf := some (fileOf pool14 8 #[.nestMembers #[93, 98, 208, 210, 82, 77]] #[{ accessFlags := 4, nameIndex := 5, descriptorIndex := 6, attributes := #[] }] 1057 2 #[133] #[{ accessFlags := 132, nameIndex := 11, descriptorIndex := 12, attributes := #[] }])
  fields := #[{ name := "modCount", type := .int, accessFlags := 132, slot := 0, constantValue := 0 }]
  methods := #[k14m0]
  instanceTypes := #[.int]
  staticTypes := #[]
  resolved := Array.replicate 218 none
  statics := none }

def pool15 : Array CpInfo := pool [(1, .class_ 2), (0, u "java/util/RandomAccess"), (0, .class_ 4), (0, u "java/lang/Object")] 2

/-- java/util/RandomAccess -/
def k15 : Class := { plain "java/util/RandomAccess" (some 0) with
  accessFlags := 1537
  interfaces := #[]
  cf := some (fileOf pool15 1 #[] #[] 1537 3 #[] #[])
  fields := #[]
  methods := #[]
  instanceTypes := #[]
  staticTypes := #[]
  resolved := Array.replicate 7 none
  statics := none }

def pool16 : Array CpInfo := pool [(1, .class_ 2), (0, u "java/lang/Cloneable"), (0, .class_ 4), (0, u "java/lang/Object")] 2

/-- java/lang/Cloneable -/
def k16 : Class := { plain "java/lang/Cloneable" (some 0) with
  accessFlags := 1537
  interfaces := #[]
  cf := some (fileOf pool16 1 #[] #[] 1537 3 #[] #[])
  fields := #[]
  methods := #[]
  instanceTypes := #[]
  staticTypes := #[]
  resolved := Array.replicate 7 none
  statics := none }

def pool17 : Array CpInfo := pool [(1, .methodref 2 3), (0, .class_ 4), (0, .nameAndType 5 6), (0, u "java/util/AbstractList"), (0, u "<init>"), (0, u "()V"), (2, .fieldref 10 11), (0, .class_ 12), (0, .nameAndType 13 14), (0, u "java/util/ArrayList"), (0, u "elementData"), (0, u "[Ljava/lang/Object;"), (2, u "EMPTY_ELEMENTDATA"), (21, .fieldref 10 40), (0, .nameAndType 41 14), (0, u "DEFAULTCAPACITY_EMPTY_ELEMENTDATA"), (8, u "size"), (0, u "I"), (96, .class_ 149), (0, u "java/util/List"), (112, .class_ 263), (0, u "java/util/ArrayList$ListItr"), (3, .class_ 268), (0, u "java/util/ArrayList$Itr"), (7, .class_ 277), (0, u "java/util/ArrayList$SubList"), (12, .class_ 291), (0, u "java/util/ArrayList$ArrayListSpliterator"), (37, .class_ 330), (0, u "java/util/RandomAccess"), (0, .class_ 332), (0, u "java/lang/Cloneable"), (0, .class_ 334), (0, u "java/io/Serializable"), (0, u "serialVersionUID"), (0, u "J"), (3, u "DEFAULT_CAPACITY"), (159, .class_ 501), (0, u "java/util/ArrayList$SubList$2"), (0, .class_ 503), (0, u "java/util/ArrayList$SubList$1")] 5

def k17c0 : Code := { maxStack := 2, maxLocals := 1, code := jdk_38_method_2_code, exceptionTable := #[], attributes := #[] }
def k17m0 : Method := { name := "<init>", desc := "()V", sig := { parameters := [], returnType := none }, accessFlags := 1, code := some k17c0 }
/-- java/util/ArrayList -/
def k17 : Class := { plain "java/util/ArrayList" (some 14) with
  accessFlags := 33
  interfaces := #[13, 15, 16, 3]
  cf := some (fileOf pool17 10 #[.nestMembers #[290, 276, 500, 502, 262, 267]] #[{ accessFlags := 1, nameIndex := 5, descriptorIndex := 6, attributes := #[] }] 33 2 #[148, 329, 331, 333] #[{ accessFlags := 26, nameIndex := 335, descriptorIndex := 336, attributes := #[] }, { accessFlags := 26, nameIndex := 340, descriptorIndex := 51, attributes := #[] }, { accessFlags := 26, nameIndex := 17, descriptorIndex := 14, attributes := #[] }, { accessFlags := 26, nameIndex := 41, descriptorIndex := 14, attributes := #[] }, { accessFlags := 128, nameIndex := 13, descriptorIndex := 14, attributes := #[] }, { accessFlags := 2, nameIndex := 50, descriptorIndex := 51, attributes := #[] }])
  fields := #[{ name := "serialVersionUID", type := .long, accessFlags := 26, slot := 0, constantValue := 0 }, { name := "DEFAULT_CAPACITY", type := .int, accessFlags := 26, slot := 1, constantValue := 0 }, { name := "EMPTY_ELEMENTDATA", type := (.array (.object "java/lang/Object")), accessFlags := 26, slot := 2, constantValue := 0 }, { name := "DEFAULTCAPACITY_EMPTY_ELEMENTDATA", type := (.array (.object "java/lang/Object")), accessFlags := 26, slot := 3, constantValue := 0 }, { name := "elementData", type := (.array (.object "java/lang/Object")), accessFlags := 128, slot := 1, constantValue := 0 }, { name := "size", type := .int, accessFlags := 2, slot := 2, constantValue := 0 }]
  methods := #[k17m0]
  instanceTypes := #[.int, (.array (.object "java/lang/Object")), .int]
  staticTypes := #[.long, .int, (.array (.object "java/lang/Object")), (.array (.object "java/lang/Object"))]
  resolved := Array.replicate 509 none
  statics := some 0 }

def pool18 : Array CpInfo := pool [(1, .methodref 2 3), (0, .class_ 4), (0, .nameAndType 5 6), (0, u "java/lang/Object"), (0, u "<init>"), (0, u "()V"), (0, .class_ 8), (0, u "java/lang/Record")] 13

def k18c0 : Code := { maxStack := 1, maxLocals := 1, code := jdk_30_method_1_code, exceptionTable := #[], attributes := #[] }
def k18m0 : Method := { name := "<init>", desc := "()V", sig := { parameters := [], returnType := none }, accessFlags := 4, code := some k18c0 }
/-- java/lang/Record -/
def k18 : Class := { plain "java/lang/Record" (some 0) with
  accessFlags := 1057
  interfaces := #[]
  cf := some (fileOf pool18 7 #[] #[{ accessFlags := 4, nameIndex := 5, descriptorIndex := 6, attributes := #[] }] 1057 2 #[] #[])
  fields := #[]
  methods := #[k18m0]
  instanceTypes := #[]
  staticTypes := #[]
  resolved := Array.replicate 22 none
  statics := none }

def pool19 : Array CpInfo := pool [(1, .methodref 2 3), (0, .class_ 4), (0, .nameAndType 5 6), (0, u "java/lang/Record"), (0, u "<init>"), (0, u "()V"), (0, .fieldref 8 9), (0, .class_ 10), (0, .nameAndType 11 12), (0, u "com/example/brelok/brelok/perf/Timing$Measure"), (0, u "figure"), (0, u "D"), (0, .fieldref 8 14), (0, .nameAndType 15 16), (0, u "overlaps"), (0, u "J"), (0, .fieldref 8 18), (0, .nameAndType 19 16), (0, u "lostUpdates"), (12, u "(DJJ)V"), (6, u "()D"), (0, u "()J"), (3, .class_ 45), (0, u "com/example/brelok/brelok/perf/Timing")] 21

def k19c0 : Code := { maxStack := 3, maxLocals := 7, code := prog_37_method_1_code, exceptionTable := #[], attributes := #[] }
def k19m0 : Method := { name := "<init>", desc := "(DJJ)V", sig := { parameters := [.double, .long, .long], returnType := none }, accessFlags := 0, code := some k19c0 }
def k19c1 : Code := { maxStack := 2, maxLocals := 1, code := prog_37_method_5_code, exceptionTable := #[], attributes := #[] }
def k19m1 : Method := { name := "figure", desc := "()D", sig := { parameters := [], returnType := some .double }, accessFlags := 1, code := some k19c1 }
def k19c2 : Code := { maxStack := 2, maxLocals := 1, code := prog_37_method_6_code, exceptionTable := #[], attributes := #[] }
def k19m2 : Method := { name := "overlaps", desc := "()J", sig := { parameters := [], returnType := some .long }, accessFlags := 1, code := some k19c2 }
def k19c3 : Code := { maxStack := 2, maxLocals := 1, code := prog_37_method_7_code, exceptionTable := #[], attributes := #[] }
def k19m3 : Method := { name := "lostUpdates", desc := "()J", sig := { parameters := [], returnType := some .long }, accessFlags := 1, code := some k19c3 }
/-- com/example/brelok/brelok/perf/Timing$Measure -/
def k19 : Class := { plain "com/example/brelok/brelok/perf/Timing$Measure" (some 18) with
  accessFlags := 48
  interfaces := #[]
  cf := some (fileOf pool19 8 #[.nestHost 44] #[{ accessFlags := 0, nameIndex := 5, descriptorIndex := 32, attributes := #[] }, { accessFlags := 1, nameIndex := 11, descriptorIndex := 39, attributes := #[] }, { accessFlags := 1, nameIndex := 15, descriptorIndex := 40, attributes := #[] }, { accessFlags := 1, nameIndex := 19, descriptorIndex := 40, attributes := #[] }] 48 2 #[] #[{ accessFlags := 18, nameIndex := 11, descriptorIndex := 12, attributes := #[] }, { accessFlags := 18, nameIndex := 15, descriptorIndex := 16, attributes := #[] }, { accessFlags := 18, nameIndex := 19, descriptorIndex := 16, attributes := #[] }])
  fields := #[{ name := "figure", type := .double, accessFlags := 18, slot := 0, constantValue := 0 }, { name := "overlaps", type := .long, accessFlags := 18, slot := 1, constantValue := 0 }, { name := "lostUpdates", type := .long, accessFlags := 18, slot := 2, constantValue := 0 }]
  methods := #[k19m0, k19m1, k19m2, k19m3]
  instanceTypes := #[.double, .long, .long]
  staticTypes := #[]
  resolved := Array.replicate 67 none
  statics := none }

/-- the primitive byte -/
def k20 : Class := { plain "byte" none with kind := .primitive 'B', accessFlags := 0x411 }
/-- [B -/
def k21 : Class := { plain "[B" (some 0) with kind := .array 20 .byte, interfaces := #[16, 3], accessFlags := 1041 }

/-- the primitive int -/
def k22 : Class := { plain "int" none with kind := .primitive 'I', accessFlags := 0x411 }
/-- [I -/
def k23 : Class := { plain "[I" (some 0) with kind := .array 22 .int, interfaces := #[16, 3], accessFlags := 1041 }

/-- [Ljava/lang/Object; -/
def k24 : Class := { plain "[Ljava/lang/Object;" (some 0) with kind := .array 0 (.object "java/lang/Object"), interfaces := #[16, 3], accessFlags := 1041 }

def heap : Heap := #[{ cls := 17, slots := #[.long 0, .int 0, .ref 1, .ref 2], vm := .statics 17 },
  { cls := 24, slots := #[], vm := .none },
  { cls := 24, slots := #[], vm := .none }]
def classes : Array Class := #[k0, k1, k2, k3, k4, k5, k6, k7, k8, k9, k10, k11, k12, k13, k14, k15, k16, k17, k18, k19, k20, k21, k22, k23, k24]
def interned : List (Array UInt16 × Addr) := []
def slotsUsed : Nat := 4
def theMethod : MethodId := ⟨1, 1⟩
def args0 : Array Value := #[.long 7, .long 7, .long 7, .long 7, .int 5]
def aboutOver (below : List Frame) : State where
  vm := { classes := classes, interned := interned.toArray }
  heap := heap
  slotsUsed := slotsUsed
  threads := #[{ frames := .invoking theMethod args0 :: below }]
def below0 : List Frame := [.native { method := ⟨0, 0⟩, args := #[] }]
def about1 : State := aboutOver below0
def p0 : Program := .bare "" "" ""
def e0 : Env := launch0.env 0 0 0
theorem w_frames : about1.frames = Frame.invoking theMethod args0 :: below0 := rfl
set_option maxRecDepth 65536 in
theorem w_args : argsFit about1.vm theMethod args0 = true := by decide +kernel
set_option maxRecDepth 65536 in
theorem w_heap : heapFits about1 = true := by decide +kernel
set_option maxRecDepth 65536 in
theorem w_runnable : about1.curStatus? = some .runnable := by decide +kernel
set_option maxRecDepth 65536 in
theorem w_alone : about1.alone = true := by decide +kernel
set_option maxRecDepth 65536 in
theorem w_named : about1.methodNamed? x = some theMethod := by decide +kernel
set_option maxRecDepth 65536 in
theorem w_hears : about1.hears theMethod below0 = true := by decide +kernel
set_option maxRecDepth 65536 in
theorem w_ripe : about1.ripe theMethod args0 below0 = true := by decide +kernel
theorem w_running : about1.status = .running := rfl
set_option maxRecDepth 65536 in
theorem w_room : about1.hasRoom e0.platform room_1 = true :=
  launch0.hasRoom_least _ room_1 (by decide +kernel) (by decide +kernel) (by decide +kernel) (by decide +kernel) (by decide +kernel) (by decide +kernel)
theorem allAtoms_all (ts : List Jvm.Cond) (a : Array Jvm.Value) (st : Jvm.State) : (allAtoms ts).before a st = ts.all (fun c => c.before a st) := by
  induction ts with
  | nil => rfl
  | cons c t ih =>
    show (Jvm.Cond.and c (allAtoms t)).before a st = _
    rw [Jvm.Cond.before_and, ih, List.all_cons]
def words1 : List Jvm.Cond := Jvm.Cond.code x code maxLocals ret :: tables_1
/-- a 'code' word, met by the world's own term for the bytes: nothing is compared byte by byte -/
theorem code_word {y : MethodName} {bytes : ByteArray} {mx : Nat} {rt : Option FieldType} {a : Array Value} {s : State} {m : MethodId} {meth : Method} {c : Code} (h1 : s.methodNamed? y = some m) (h2 : s.vm.method? m = some meth) (h3 : meth.code = some c) (h4 : c.code = bytes)
    (h5 : (c.maxLocals == mx && c.exceptionTable.isEmpty && decide (c.maxStack ≤ mostOperands) && decide (meth.sig.returnType = rt) && !meth.locks && decide (parseMethodDescriptor y.desc = some meth.sig)) = true) : (Jvm.Cond.code y bytes mx rt).before a s = true := by
  simp only [Bool.and_eq_true, beq_iff_eq, Bool.not_eq_true', decide_eq_true_eq] at h5
  obtain ⟨⟨⟨⟨⟨g1, g2⟩, g3⟩, g4⟩, g5⟩, g6⟩ := h5
  simp [Cond.before, Cond.holds, Cond.value, h1, h2, h3, h4, g1, g2, g3, g4, g5, g6]
def isCode : Jvm.Cond → Bool
  | .code _ _ _ _ => true
  | _ => false
theorem all_split {L : List Jvm.Cond} {P : Jvm.Cond → Bool} (h1 : L.all (fun c => isCode c || P c) = true) (h2 : ∀ c ∈ L.filter isCode, P c = true) : L.all P = true := by
  refine List.all_eq_true.mpr fun c hc => ?_
  have h := List.all_eq_true.mp h1 c hc
  rcases Bool.eq_false_or_eq_true (isCode c) with hi | hi
  · exact h2 c (List.mem_filter.mpr ⟨hc, hi⟩)
  · simpa [hi] using h
set_option maxRecDepth 65536 in
theorem w_c0 : (Jvm.Cond.code x code maxLocals ret).before args0 about1 = true := code_word (m := ⟨1, 1⟩) (meth := k1m1) (c := k1c1) (by decide +kernel) rfl rfl rfl (by decide +kernel)
set_option maxRecDepth 65536 in
theorem w_c1 : (Jvm.Cond.code ({ cls := "com/example/brelok/brelok/perf/Tally", name := "<init>", desc := "(Ljava/lang/String;Z)V" } : Jvm.MethodName) prog_34_method_1_code (3 : Nat) (Option.none : Option Jvm.ClassFile.FieldType)).before args0 about1 = true := code_word (m := ⟨2, 0⟩) (meth := k2m0) (c := k2c0) (by decide +kernel) rfl rfl rfl (by decide +kernel)
set_option maxRecDepth 65536 in
theorem w_c2 : (Jvm.Cond.code ({ cls := "java/lang/Object", name := "<init>", desc := "()V" } : Jvm.MethodName) object_method_1_code (1 : Nat) (Option.none : Option Jvm.ClassFile.FieldType)).before args0 about1 = true := code_word (m := ⟨0, 0⟩) (meth := k0m0) (c := k0c0) (by decide +kernel) rfl rfl rfl (by decide +kernel)
set_option maxRecDepth 65536 in
theorem w_c3 : (Jvm.Cond.code ({ cls := "java/util/ArrayList", name := "<init>", desc := "()V" } : Jvm.MethodName) jdk_38_method_2_code (1 : Nat) (Option.none : Option Jvm.ClassFile.FieldType)).before args0 about1 = true := code_word (m := ⟨17, 0⟩) (meth := k17m0) (c := k17c0) (by decide +kernel) rfl rfl rfl (by decide +kernel)
set_option maxRecDepth 65536 in
theorem w_c4 : (Jvm.Cond.code ({ cls := "java/util/AbstractList", name := "<init>", desc := "()V" } : Jvm.MethodName) jdk_39_method_1_code (1 : Nat) (Option.none : Option Jvm.ClassFile.FieldType)).before args0 about1 = true := code_word (m := ⟨14, 0⟩) (meth := k14m0) (c := k14c0) (by decide +kernel) rfl rfl rfl (by decide +kernel)
set_option maxRecDepth 65536 in
theorem w_c5 : (Jvm.Cond.code ({ cls := "java/util/AbstractCollection", name := "<init>", desc := "()V" } : Jvm.MethodName) jdk_22_method_1_code (1 : Nat) (Option.none : Option Jvm.ClassFile.FieldType)).before args0 about1 = true := code_word (m := ⟨11, 0⟩) (meth := k11m0) (c := k11c0) (by decide +kernel) rfl rfl rfl (by decide +kernel)
set_option maxRecDepth 65536 in
theorem w_c6 : (Jvm.Cond.code ({ cls := "com/example/brelok/brelok/perf/Timing$Measure", name := "<init>", desc := "(DJJ)V" } : Jvm.MethodName) prog_37_method_1_code (7 : Nat) (Option.none : Option Jvm.ClassFile.FieldType)).before args0 about1 = true := code_word (m := ⟨19, 0⟩) (meth := k19m0) (c := k19c0) (by decide +kernel) rfl rfl rfl (by decide +kernel)
set_option maxRecDepth 65536 in
theorem w_c7 : (Jvm.Cond.code ({ cls := "java/lang/Record", name := "<init>", desc := "()V" } : Jvm.MethodName) jdk_30_method_1_code (1 : Nat) (Option.none : Option Jvm.ClassFile.FieldType)).before args0 about1 = true := code_word (m := ⟨18, 0⟩) (meth := k18m0) (c := k18c0) (by decide +kernel) rfl rfl rfl (by decide +kernel)
set_option maxRecDepth 65536 in
theorem w_c8 : (Jvm.Cond.code ({ cls := "com/example/brelok/brelok/perf/Tally", name := "setWaiting", desc := "(Lcom/example/brelok/brelok/perf/Timing$Measure;)V" } : Jvm.MethodName) prog_34_method_6_code (2 : Nat) (Option.none : Option Jvm.ClassFile.FieldType)).before args0 about1 = true := code_word (m := ⟨2, 1⟩) (meth := k2m1) (c := k2c1) (by decide +kernel) rfl rfl rfl (by decide +kernel)
set_option maxRecDepth 65536 in
theorem w_c9 : (Jvm.Cond.code ({ cls := "com/example/brelok/brelok/perf/Timing$Measure", name := "figure", desc := "()D" } : Jvm.MethodName) prog_37_method_5_code (1 : Nat) (Option.some Jvm.ClassFile.FieldType.double)).before args0 about1 = true := code_word (m := ⟨19, 1⟩) (meth := k19m1) (c := k19c1) (by decide +kernel) rfl rfl rfl (by decide +kernel)
set_option maxRecDepth 65536 in
theorem w_c10 : (Jvm.Cond.code ({ cls := "com/example/brelok/brelok/perf/Tally", name := "addExclusion", desc := "(Lcom/example/brelok/brelok/perf/Timing$Measure;)V" } : Jvm.MethodName) prog_34_method_14_code (2 : Nat) (Option.none : Option Jvm.ClassFile.FieldType)).before args0 about1 = true := code_word (m := ⟨2, 5⟩) (meth := k2m5) (c := k2c5) (by decide +kernel) rfl rfl rfl (by decide +kernel)
set_option maxRecDepth 65536 in
theorem w_c11 : (Jvm.Cond.code ({ cls := "com/example/brelok/brelok/perf/Timing$Measure", name := "overlaps", desc := "()J" } : Jvm.MethodName) prog_37_method_6_code (1 : Nat) (Option.some Jvm.ClassFile.FieldType.long)).before args0 about1 = true := code_word (m := ⟨19, 2⟩) (meth := k19m2) (c := k19c2) (by decide +kernel) rfl rfl rfl (by decide +kernel)
set_option maxRecDepth 65536 in
theorem w_c12 : (Jvm.Cond.code ({ cls := "com/example/brelok/brelok/perf/Timing$Measure", name := "lostUpdates", desc := "()J" } : Jvm.MethodName) prog_37_method_7_code (1 : Nat) (Option.some Jvm.ClassFile.FieldType.long)).before args0 about1 = true := code_word (m := ⟨19, 3⟩) (meth := k19m3) (c := k19c3) (by decide +kernel) rfl rfl rfl (by decide +kernel)
set_option maxRecDepth 65536 in
theorem w_c13 : (Jvm.Cond.code ({ cls := "com/example/brelok/brelok/perf/Tally", name := "overlaps", desc := "()J" } : Jvm.MethodName) prog_34_method_8_code (1 : Nat) (Option.some Jvm.ClassFile.FieldType.long)).before args0 about1 = true := code_word (m := ⟨2, 3⟩) (meth := k2m3) (c := k2c3) (by decide +kernel) rfl rfl rfl (by decide +kernel)
set_option maxRecDepth 65536 in
theorem w_c14 : (Jvm.Cond.code ({ cls := "com/example/brelok/brelok/perf/Tally", name := "lostUpdates", desc := "()J" } : Jvm.MethodName) prog_34_method_9_code (1 : Nat) (Option.some Jvm.ClassFile.FieldType.long)).before args0 about1 = true := code_word (m := ⟨2, 4⟩) (meth := k2m4) (c := k2c4) (by decide +kernel) rfl rfl rfl (by decide +kernel)
set_option maxRecDepth 65536 in
theorem w_c15 : (Jvm.Cond.code ({ cls := "com/example/brelok/brelok/perf/Tally", name := "failedToExclude", desc := "()Z" } : Jvm.MethodName) prog_34_method_7_code (1 : Nat) (Option.some Jvm.ClassFile.FieldType.boolean)).before args0 about1 = true := code_word (m := ⟨2, 2⟩) (meth := k2m2) (c := k2c2) (by decide +kernel) rfl rfl rfl (by decide +kernel)
def codes1 : List Jvm.Cond := [Jvm.Cond.code x code maxLocals ret, Jvm.Cond.code ({ cls := "com/example/brelok/brelok/perf/Tally", name := "<init>", desc := "(Ljava/lang/String;Z)V" } : Jvm.MethodName) prog_34_method_1_code (3 : Nat) (Option.none : Option Jvm.ClassFile.FieldType), Jvm.Cond.code ({ cls := "java/lang/Object", name := "<init>", desc := "()V" } : Jvm.MethodName) object_method_1_code (1 : Nat) (Option.none : Option Jvm.ClassFile.FieldType), Jvm.Cond.code ({ cls := "java/util/ArrayList", name := "<init>", desc := "()V" } : Jvm.MethodName) jdk_38_method_2_code (1 : Nat) (Option.none : Option Jvm.ClassFile.FieldType), Jvm.Cond.code ({ cls := "java/util/AbstractList", name := "<init>", desc := "()V" } : Jvm.MethodName) jdk_39_method_1_code (1 : Nat) (Option.none : Option Jvm.ClassFile.FieldType), Jvm.Cond.code ({ cls := "java/util/AbstractCollection", name := "<init>", desc := "()V" } : Jvm.MethodName) jdk_22_method_1_code (1 : Nat) (Option.none : Option Jvm.ClassFile.FieldType), Jvm.Cond.code ({ cls := "com/example/brelok/brelok/perf/Timing$Measure", name := "<init>", desc := "(DJJ)V" } : Jvm.MethodName) prog_37_method_1_code (7 : Nat) (Option.none : Option Jvm.ClassFile.FieldType), Jvm.Cond.code ({ cls := "java/lang/Record", name := "<init>", desc := "()V" } : Jvm.MethodName) jdk_30_method_1_code (1 : Nat) (Option.none : Option Jvm.ClassFile.FieldType), Jvm.Cond.code ({ cls := "com/example/brelok/brelok/perf/Tally", name := "setWaiting", desc := "(Lcom/example/brelok/brelok/perf/Timing$Measure;)V" } : Jvm.MethodName) prog_34_method_6_code (2 : Nat) (Option.none : Option Jvm.ClassFile.FieldType), Jvm.Cond.code ({ cls := "com/example/brelok/brelok/perf/Timing$Measure", name := "figure", desc := "()D" } : Jvm.MethodName) prog_37_method_5_code (1 : Nat) (Option.some Jvm.ClassFile.FieldType.double), Jvm.Cond.code ({ cls := "com/example/brelok/brelok/perf/Tally", name := "addExclusion", desc := "(Lcom/example/brelok/brelok/perf/Timing$Measure;)V" } : Jvm.MethodName) prog_34_method_14_code (2 : Nat) (Option.none : Option Jvm.ClassFile.FieldType), Jvm.Cond.code ({ cls := "com/example/brelok/brelok/perf/Timing$Measure", name := "overlaps", desc := "()J" } : Jvm.MethodName) prog_37_method_6_code (1 : Nat) (Option.some Jvm.ClassFile.FieldType.long), Jvm.Cond.code ({ cls := "com/example/brelok/brelok/perf/Timing$Measure", name := "lostUpdates", desc := "()J" } : Jvm.MethodName) prog_37_method_7_code (1 : Nat) (Option.some Jvm.ClassFile.FieldType.long), Jvm.Cond.code ({ cls := "com/example/brelok/brelok/perf/Tally", name := "overlaps", desc := "()J" } : Jvm.MethodName) prog_34_method_8_code (1 : Nat) (Option.some Jvm.ClassFile.FieldType.long), Jvm.Cond.code ({ cls := "com/example/brelok/brelok/perf/Tally", name := "lostUpdates", desc := "()J" } : Jvm.MethodName) prog_34_method_9_code (1 : Nat) (Option.some Jvm.ClassFile.FieldType.long), Jvm.Cond.code ({ cls := "com/example/brelok/brelok/perf/Tally", name := "failedToExclude", desc := "()Z" } : Jvm.MethodName) prog_34_method_7_code (1 : Nat) (Option.some Jvm.ClassFile.FieldType.boolean)]
set_option maxRecDepth 65536 in
theorem codes_eq : words1.filter isCode = codes1 := rfl
theorem w_codes : ∀ c ∈ words1.filter isCode, c.before args0 about1 = true := by
  rw [codes_eq]
  intro c hc
  simp only [codes1, List.mem_cons, List.not_mem_nil, or_false] at hc
  rcases hc with rfl | rfl | rfl | rfl | rfl | rfl | rfl | rfl | rfl | rfl | rfl | rfl | rfl | rfl | rfl | rfl
  · exact w_c0
  · exact w_c1
  · exact w_c2
  · exact w_c3
  · exact w_c4
  · exact w_c5
  · exact w_c6
  · exact w_c7
  · exact w_c8
  · exact w_c9
  · exact w_c10
  · exact w_c11
  · exact w_c12
  · exact w_c13
  · exact w_c14
  · exact w_c15
set_option maxRecDepth 65536 in
theorem w_t1 : (words1.take 24).all (fun c => isCode c || c.before args0 about1) = true := by decide +kernel
set_option maxRecDepth 65536 in
theorem w_t2 : ((words1.drop 24).take 24).all (fun c => isCode c || c.before args0 about1) = true := by decide +kernel
set_option maxRecDepth 65536 in
theorem w_t3 : (((words1.drop 24).drop 24).take 24).all (fun c => isCode c || c.before args0 about1) = true := by decide +kernel
set_option maxRecDepth 65536 in
theorem w_t4 : ((((words1.drop 24).drop 24).drop 24).take 24).all (fun c => isCode c || c.before args0 about1) = true := by decide +kernel
set_option maxRecDepth 65536 in
theorem w_t5 : ((((words1.drop 24).drop 24).drop 24).drop 24).all (fun c => isCode c || c.before args0 about1) = true := by decide +kernel
theorem w_tables : (allAtoms (Jvm.Cond.code x code maxLocals ret :: tables_1)).before args0 about1 = true := by
  rw [allAtoms_all]
  show words1.all (fun c => c.before args0 about1) = true
  refine all_split ?_ w_codes
  rw [← List.take_append_drop 24 words1, List.all_append, w_t1, ← List.take_append_drop 24 (words1.drop 24), List.all_append, w_t2, ← List.take_append_drop 24 ((words1.drop 24).drop 24), List.all_append, w_t3, ← List.take_append_drop 24 (((words1.drop 24).drop 24).drop 24), List.all_append, w_t4, w_t5]
  rfl
set_option maxRecDepth 65536 in
theorem w_rest : rest_1_c.before args0 about1 = true := by decide +kernel
set_option maxRecDepth 65536 in
theorem w_case : (Jvm.Cond.and given_1 narrow_1).before args0 about1 = true := by decide +kernel
theorem w_applies : (headSpec (Jvm.Cond.code x code maxLocals ret :: tables_1) room_1).applies x e0.platform about1 = true :=
  (Spec.applies_iff w_frames).mpr ⟨w_running, w_runnable, w_alone, w_named, w_hears, w_ripe, w_room, w_tables⟩
theorem atStart : AtStart classFile x code maxLocals ret World_1 tables_1 room_1 Calls_1 rest_1 Pre_1 launch0 p0 e0 about1 theMethod args0 below0 :=
  ⟨lists_1, trivial, launch0.admits_env _ _ _, launch0.least_env, fairChoices_fair.cas, fairChoices_fair.clock, w_frames, w_args, w_heap, w_applies, trivial, w_rest, w_case⟩
end start1
theorem witness_1 : WitnessClaimed_1 := ⟨start1.p0, start1.e0, start1.about1, start1.theMethod, start1.args0, start1.below0, start1.atStart⟩
end Jvm.Pilot.@@N@@
