import JvmDerived
import JvmDerived.Pilot.@@N@@Statement
import JvmDerived.Pilot.@@N@@Code
set_option linter.unusedVariables false
set_option linter.unusedSimpArgs false
namespace Jvm.RoadKit
open Sem ClassFile Op Lib Jvm.Stand Jvm.Free Jvm.LawKit
section New
variable {p : Program} {l : Launch} {e : Env} {R : Room} {s : State} {m : MethodId} {args : Array Value} {below : List Frame} {meth : Method} {c : Code} {T : State} {locs : List Loc} {cells slots : Nat}
theorem retI (X : Stand p l e R s m args below meth c T locs cells slots) (hx : p.tables.exec = Jvm.exec) {pc : Nat} {Ls : Array Slot} {z : Int32} {rest : List Value} (hret : meth.sig.returnType = some .int) (hd : decode c.code pc = .ok (.ireturn, 1)) {fs : List Frame}
    (hl : ∀ (f : JFrame) (acts : List Action), f.method = m → f.locked = none → f.entered = [] → (doReturn e (T.setTop f) acts (some (.int z))).1 = T.setFrames fs) : Steps p.tables e below (T.setTop (mkF m pc Ls (.int z :: rest))) (T.setFrames fs) := by
  have hm' : T.vm.method? m = some meth := X.method'
  have hn : narrow .int (.int z) = .int z := rfl
  show Steps p.tables e below (T.setTop { method := m, pc := pc, locals := Ls, stack := _ :: rest, locked := none }) _
  jvm_step X.here [X.here.top, hx, hd, hm', hret, hn]
  first | (intro acts; rw [hl _ acts rfl rfl rfl]) | rw [hl _ _ rfl rfl rfl]
  exact Steps.refl _
end New
end Jvm.RoadKit
namespace Jvm.Pilot.@@N@@
open Jvm Jvm.ClassFile Sem Op Lib Jvm.Free Jvm.Stand Jvm.LawKit Jvm.RoadKit Bundle Jvm.Pilot.@@N@@.Jvm.D
theorem own_fld {args : Array Value} {s : State} {t r : Term} {C n d : String} {a : Addr} {v : Value} (ht : t.eval args s none [] s = some (.ref a)) (hr : r.eval args s none [] s = some v) (h : (Jvm.Cond.eq (.field t C n d) r).value args s none s [] = some true) : s.fieldOf? a C n d = some v := by
  obtain ⟨x, y, h1, h2, hk, -⟩ := cmp_v (Or.inl h)
  have e1 : s.fieldOf? a C n d = some x := (fld_at ht).symm.trans h1
  cases hr.symm.trans h2
  rw [e1]
  simp only [Cond.value, h1, hr] at h
  cases x <;> cases v <;> simp_all [Kin, Value.isRef]
theorem own_nf {args : Array Value} {s : State} {C : String} {y z : MethodName} (hsel : (Jvm.Cond.selects C z z).before args s = true) (hc : y.cls = z.cls) : NotFace s y := fun r0 h0 => by
  obtain ⟨c2, r2, m2, q1, q2, q3, q4, kP, hkP, hkPi⟩ := Cond.selects_spec hsel
  have a := findClass_of_methodNamed h0
  have b := findClass_of_methodNamed q3
  rw [hc] at a
  have e := Option.some.inj (a.symm.trans b)
  exact ⟨kP, by rw [e]; exact hkP, hkPi⟩
def own_vI (j : Int32) : Value := .int (j - 128)
theorem own_ixI {q : Int32} (h1 : ¬ q < (-128 : Int32)) (h2 : ¬ (127 : Int32) < q) : ¬ ((q + (128 : Int32)) < 0 ∨ (256 : Int32).toNatClampNeg ≤ (q + (128 : Int32)).toNatClampNeg) := by
  rw [Int32.lt_iff_toInt_lt, show (-128 : Int32).toInt = -128 from rfl] at h1
  rw [Int32.lt_iff_toInt_lt, show (127 : Int32).toInt = 127 from rfl] at h2
  have e2 := c_iadd q 128
  have r2 := rng32 (q + 128)
  simp only [show (128 : Int32).toInt = 128 from rfl] at e2
  rw [Int32.lt_iff_toInt_lt, show (0 : Int32).toInt = 0 from rfl, show (256 : Int32).toNatClampNeg = 256 from rfl]
  simp only [Int32.toNatClampNeg]
  omega
theorem own_v (q : Int32) : own_vI (q + 128) = .int q := by
  unfold own_vI
  rw [Int32.add_sub_cancel]
def own_q (i j : Int32) : Int32 := if i = j then 1 else 0
theorem own_fe {Z : State} {h : Heap} {x y : Addr} {A n d : String} {i j : Int32} (F : Fld Z h x A n d (.int i)) (G : Fld Z h y A n d (.int j)) (e : x = y) : i = j :=
  Decidable.byContradiction fun q => Fld.ne F G (fun e => q (Value.int.inj e)) e
def own_dice (i : Int32) : Int32 := if i = 6 then 2 else if i = 1 then 2 else 1
theorem own_and (i j : Int32) : own_q i j &&& 1 = own_q i j := by
  unfold own_q
  split <;> rfl
theorem d4_0 : decode jdk_22_method_1_code 0 = .ok (.aload_n 0, 1) := by decide +kernel
theorem d4_1 : decode jdk_22_method_1_code 1 = .ok (.invokespecial 1, 3) := by decide +kernel
theorem d4_4 : decode jdk_22_method_1_code 4 = .ok (.return_, 1) := by decide +kernel
theorem pn_java_util_AbstractCollection : plainName "java/util/AbstractCollection" = true := by first | (simp [plainName, overriddenIn]; done) | decide +kernel
theorem ef_4 (m : MethodId) (x0 : Addr) : entryFrame m #[(.ref x0)] 1 = mkF m 0 #[.val (.ref x0)] [] := by first | (simp [entryFrame, mkF, argsToLocals, Value.category]; done) | rfl
def Q4 (Z : State) (a : Addr) (h0 : Heap) (n0 : Nat) (v : Option Value) (h : Heap) (L : List Loc) : Prop := v = none ∧ Fr n0 L ∧ h = h0
set_option maxRecDepth 65536 in
set_option maxHeartbeats 40000000 in
theorem rm4 (l : Launch) (Z : State) (a0 : Array Value) (hw : ∀ d ∈ tables_1, d.before a0 Z = true) (ws : List Jvm.Cond) (a : Addr) (h0 : Heap) (n0 : Nat) (O0 : Old Z n0 h0) :
    MetFree l (⟨"java/util/AbstractCollection", "<init>", "()V"⟩ : MethodName) (head1 (Jvm.Cond.code (⟨"java/util/AbstractCollection", "<init>", "()V"⟩ : MethodName) jdk_22_method_1_code 1 none :: ws) ({ frames := 1, cells := 0, slots := 0, locals := 12 } : Room)) (fun aA uU => aA = #[(.ref a)] ∧ Z.Warmed39 uU.vm ∧ uU.heap = h0) (fun _ _ _ _ _ => True) (fun _ uU oO uU' => ∃ vV lL, oO = .returned vV ∧ Q4 Z a  h0 n0 vV uU'.heap lL ∧ FrameEnd uU oO uU' lL ({ frames := 1, cells := 0, slots := 0, locals := 12 } : Room).cells ({ frames := 1, cells := 0, slots := 0, locals := 12 } : Room).slots) := by
  refine MetFree.of_bodySF (plainFor_of_name pn_java_util_AbstractCollection) hisR ?_
  intro p e s m args below meth c s₁ Bd hml0 hP hK
  obtain ⟨rfl, hZ, hh⟩ := hP
  have hx := Bd.exec
  have hby := Bd.bytes
  have hml : c.maxLocals = 1 := hml0
  have hown : s.vm.findClass "java/util/AbstractCollection" = some m.cls := findClass_of_methodNamed Bd.named
  have hnm := (name_of_methodNamed Bd.named Bd.method).1
  have X0 : Stand p l e ({ frames := 1, cells := 0, slots := 0, locals := 12 } : Room) s m #[(.ref a)] below meth c s₁ [] 0 0 := Stand.of_body Bd
  have e0 : s₁.heap = h0 := by rw [← hh, Bd.state]; rfl
  have N0 := Fr.nil n0
  have O := O0
  have pre0 : ∀ t, Steps p.tables e below (s₁.setTop (mkF m 0 #[.val (.ref a)] [])) t → Steps p.tables e below (s₁.setTop (entryFrame m #[(.ref a)] 1)) t := fun t k => castTop (ef_4 m a) k
  obtain ⟨T1, X1, e1, st1⟩ := initO X0 hx hZ hown (hw _ (List.mem_of_getElem? (i := 22) rfl)) (hw _ (List.mem_of_getElem? (i := 23) rfl)) (hw _ (List.mem_of_getElem? (i := 24) rfl)) e0 (g := (mkF m 1 #[.val (.ref a)] [(.ref a)])) rfl (by rw [hml]; rfl) rfl (hb hby d4_1) (by decide) (W := 0) (by show 2 * 0 + _ ≤ _; exact Nat.le_of_eq rfl) (by decide)
  have w2 : ∀ t, Steps p.tables e below (T1.setTop (mkF m 4 #[.val (.ref a)] [])) t → Steps p.tables e below (s₁.setTop (entryFrame m #[(.ref a)] 1)) t := fun t k => by
    refine pre0 t ?_
    refine XS.aloadN X0.here hx rfl (hb hby d4_0) rfl rfl ?_
    show Steps p.tables e below (s₁.setTop (mkF m 1 #[.val (.ref a)] [(.ref a)])) _
    refine st1 _ ?_
    show Steps p.tables e below (T1.setTop (mkF m 4 #[.val (.ref a)] [])) _
    exact k
  obtain ⟨fs, hr, hrun, hended, hW, hsame⟩ := X1.leave (v := none) (fun _ => rfl)
  refine ⟨_, _, w2 _ ?_, hrun, hended, _, _, rfl, ?_, ⟨_, rfl⟩, hW, hsame.mono (by decide) (by decide)⟩
  · exact X1.returnOut hx Bd.returns (hb hby d4_4) hr
  · show Q4 Z a  h0 n0 _ T1.heap _
    rw [e1]
    exact ⟨rfl, N0, rfl⟩
theorem d23_0 : decode jdk_47_method_1_code 0 = .ok (.aload_n 0, 1) := by decide +kernel
theorem d23_1 : decode jdk_47_method_1_code 1 = .ok (.invokespecial 1, 3) := by decide +kernel
theorem pd__40_41V : parseMethodDescriptor "()V" = some ⟨[], none⟩ := by decide +kernel
theorem d23_4 : decode jdk_47_method_1_code 4 = .ok (.return_, 1) := by decide +kernel
theorem pn_java_util_ImmutableCollections_AbstractImmutableCollection : plainName "java/util/ImmutableCollections$AbstractImmutableCollection" = true := by first | (simp [plainName, overriddenIn]; done) | decide +kernel
theorem ef_23 (m : MethodId) (x0 : Addr) : entryFrame m #[(.ref x0)] 1 = mkF m 0 #[.val (.ref x0)] [] := by first | (simp [entryFrame, mkF, argsToLocals, Value.category]; done) | rfl
def Q23 (Z : State) (a : Addr) (h0 : Heap) (n0 : Nat) (v : Option Value) (h : Heap) (L : List Loc) : Prop := v = none ∧ Fr n0 L ∧ h = h0
set_option maxRecDepth 65536 in
set_option maxHeartbeats 40000000 in
theorem rm23 (l : Launch) (Z : State) (a0 : Array Value) (hw : ∀ d ∈ tables_1, d.before a0 Z = true) (ws : List Jvm.Cond) (a : Addr) (h0 : Heap) (n0 : Nat) (O0 : Old Z n0 h0) :
    MetFree l (⟨"java/util/ImmutableCollections$AbstractImmutableCollection", "<init>", "()V"⟩ : MethodName) (head1 (Jvm.Cond.code (⟨"java/util/ImmutableCollections$AbstractImmutableCollection", "<init>", "()V"⟩ : MethodName) jdk_47_method_1_code 1 none :: ws) ({ frames := 2, cells := 0, slots := 0, locals := 24 } : Room)) (fun aA uU => aA = #[(.ref a)] ∧ Z.Warmed39 uU.vm ∧ uU.heap = h0) (fun _ _ _ _ _ => True) (fun _ uU oO uU' => ∃ vV lL, oO = .returned vV ∧ Q23 Z a  h0 n0 vV uU'.heap lL ∧ FrameEnd uU oO uU' lL ({ frames := 2, cells := 0, slots := 0, locals := 24 } : Room).cells ({ frames := 2, cells := 0, slots := 0, locals := 24 } : Room).slots) := by
  refine MetFree.of_bodySF (plainFor_of_name pn_java_util_ImmutableCollections_AbstractImmutableCollection) hisR ?_
  intro p e s m args below meth c s₁ Bd hml0 hP hK
  obtain ⟨rfl, hZ, hh⟩ := hP
  have hx := Bd.exec
  have hby := Bd.bytes
  have hml : c.maxLocals = 1 := hml0
  have hown : s.vm.findClass "java/util/ImmutableCollections$AbstractImmutableCollection" = some m.cls := findClass_of_methodNamed Bd.named
  have hnm := (name_of_methodNamed Bd.named Bd.method).1
  have X0 : Stand p l e ({ frames := 2, cells := 0, slots := 0, locals := 24 } : Room) s m #[(.ref a)] below meth c s₁ [] 0 0 := Stand.of_body Bd
  have e0 : s₁.heap = h0 := by rw [← hh, Bd.state]; rfl
  have N0 := Fr.nil n0
  have O := O0
  have pre0 : ∀ t, Steps p.tables e below (s₁.setTop (mkF m 0 #[.val (.ref a)] [])) t → Steps p.tables e below (s₁.setTop (entryFrame m #[(.ref a)] 1)) t := fun t k => castTop (ef_23 m a) k
  obtain ⟨_, _, ⟨T1, L1, k1, n1⟩, -, X1, ⟨Lc1, hQ1, l1, y1, z1⟩, st1⟩ := X0.specialBack hx (y := (⟨"java/util/AbstractCollection", "<init>", "()V"⟩ : MethodName)) rfl hown (mvT hZ (hw _ (List.mem_of_getElem? (i := 148) rfl))) (mvT hZ (hw _ (List.mem_of_getElem? (i := 17) rfl))) (mvT hZ (hw _ (List.mem_of_getElem? (i := 21) rfl))) (by decide) (backOf (W := 0) (rm4 l Z a0 hw [] a h0 n0 O ) hZ (hw _ (List.mem_of_getElem? (i := 21) rfl)) (hw _ (List.mem_of_getElem? (i := 20) rfl)) (by decide) (by decide)) (g := (mkF m 1 #[.val (.ref a)] [(.ref a)])) rfl (by rw [hml]; rfl) (Steps.refl _) (a := a) (argsL := []) (rest := []) (lenOf pd__40_41V rfl) rfl (by show 2 * 0 + _ ≤ _; exact Nat.le_of_eq rfl) (hb hby d23_1) (fun _ _ => ⟨rfl, e0, (by decide : 0 + 0 ≤ _), (by decide : 0 + 0 ≤ _)⟩)
  dsimp only [Pt.U, Pt.locs, Pt.cells, Pt.slots] at X1 l1 y1 z1 st1 hQ1
  subst l1 y1 z1
  obtain ⟨rfl, N1q, eh1⟩ := hQ1
  have N1 := Fr.app N0 N1q
  have w2 : ∀ t, Steps p.tables e below (T1.setTop (mkF m 4 #[.val (.ref a)] [])) t → Steps p.tables e below (s₁.setTop (entryFrame m #[(.ref a)] 1)) t := fun t k => by
    refine pre0 t ?_
    refine XS.aloadN X0.here hx rfl (hb hby d23_0) rfl rfl ?_
    show Steps p.tables e below (s₁.setTop (mkF m 1 #[.val (.ref a)] [(.ref a)])) _
    refine st1.trans ?_
    show Steps p.tables e below (T1.setTop (mkF m 4 #[.val (.ref a)] [])) _
    exact k
  obtain ⟨fs, hr, hrun, hended, hW, hsame⟩ := X1.leave (v := none) (fun _ => rfl)
  refine ⟨_, _, w2 _ ?_, hrun, hended, _, _, rfl, ?_, ⟨_, rfl⟩, hW, hsame.mono (by decide) (by decide)⟩
  · exact X1.returnOut hx Bd.returns (hb hby d23_4) hr
  · show Q23 Z a  h0 n0 _ T1.heap _
    rw [eh1]
    exact ⟨rfl, N1, rfl⟩
theorem d22_0 : decode jdk_46_method_1_code 0 = .ok (.aload_n 0, 1) := by decide +kernel
theorem d22_1 : decode jdk_46_method_1_code 1 = .ok (.invokespecial 1, 3) := by decide +kernel
theorem d22_4 : decode jdk_46_method_1_code 4 = .ok (.return_, 1) := by decide +kernel
theorem pn_java_util_ImmutableCollections_AbstractImmutableList : plainName "java/util/ImmutableCollections$AbstractImmutableList" = true := by first | (simp [plainName, overriddenIn]; done) | decide +kernel
theorem ef_22 (m : MethodId) (x0 : Addr) : entryFrame m #[(.ref x0)] 1 = mkF m 0 #[.val (.ref x0)] [] := by first | (simp [entryFrame, mkF, argsToLocals, Value.category]; done) | rfl
def Q22 (Z : State) (a : Addr) (h0 : Heap) (n0 : Nat) (v : Option Value) (h : Heap) (L : List Loc) : Prop := v = none ∧ Fr n0 L ∧ h = h0
set_option maxRecDepth 65536 in
set_option maxHeartbeats 40000000 in
theorem rm22 (l : Launch) (Z : State) (a0 : Array Value) (hw : ∀ d ∈ tables_1, d.before a0 Z = true) (ws : List Jvm.Cond) (a : Addr) (h0 : Heap) (n0 : Nat) (O0 : Old Z n0 h0) :
    MetFree l (⟨"java/util/ImmutableCollections$AbstractImmutableList", "<init>", "()V"⟩ : MethodName) (head1 (Jvm.Cond.code (⟨"java/util/ImmutableCollections$AbstractImmutableList", "<init>", "()V"⟩ : MethodName) jdk_46_method_1_code 1 none :: ws) ({ frames := 3, cells := 0, slots := 0, locals := 36 } : Room)) (fun aA uU => aA = #[(.ref a)] ∧ Z.Warmed39 uU.vm ∧ uU.heap = h0) (fun _ _ _ _ _ => True) (fun _ uU oO uU' => ∃ vV lL, oO = .returned vV ∧ Q22 Z a  h0 n0 vV uU'.heap lL ∧ FrameEnd uU oO uU' lL ({ frames := 3, cells := 0, slots := 0, locals := 36 } : Room).cells ({ frames := 3, cells := 0, slots := 0, locals := 36 } : Room).slots) := by
  refine MetFree.of_bodySF (plainFor_of_name pn_java_util_ImmutableCollections_AbstractImmutableList) hisR ?_
  intro p e s m args below meth c s₁ Bd hml0 hP hK
  obtain ⟨rfl, hZ, hh⟩ := hP
  have hx := Bd.exec
  have hby := Bd.bytes
  have hml : c.maxLocals = 1 := hml0
  have hown : s.vm.findClass "java/util/ImmutableCollections$AbstractImmutableList" = some m.cls := findClass_of_methodNamed Bd.named
  have hnm := (name_of_methodNamed Bd.named Bd.method).1
  have X0 : Stand p l e ({ frames := 3, cells := 0, slots := 0, locals := 36 } : Room) s m #[(.ref a)] below meth c s₁ [] 0 0 := Stand.of_body Bd
  have e0 : s₁.heap = h0 := by rw [← hh, Bd.state]; rfl
  have N0 := Fr.nil n0
  have O := O0
  have pre0 : ∀ t, Steps p.tables e below (s₁.setTop (mkF m 0 #[.val (.ref a)] [])) t → Steps p.tables e below (s₁.setTop (entryFrame m #[(.ref a)] 1)) t := fun t k => castTop (ef_22 m a) k
  obtain ⟨_, _, ⟨T1, L1, k1, n1⟩, -, X1, ⟨Lc1, hQ1, l1, y1, z1⟩, st1⟩ := X0.specialBack hx (y := (⟨"java/util/ImmutableCollections$AbstractImmutableCollection", "<init>", "()V"⟩ : MethodName)) rfl hown (mvT hZ (hw _ (List.mem_of_getElem? (i := 142) rfl))) (mvT hZ (hw _ (List.mem_of_getElem? (i := 143) rfl))) (mvT hZ (hw _ (List.mem_of_getElem? (i := 147) rfl))) (by decide) (backOf (W := 0) (rm23 l Z a0 hw [] a h0 n0 O ) hZ (hw _ (List.mem_of_getElem? (i := 147) rfl)) (hw _ (List.mem_of_getElem? (i := 146) rfl)) (by decide) (by decide)) (g := (mkF m 1 #[.val (.ref a)] [(.ref a)])) rfl (by rw [hml]; rfl) (Steps.refl _) (a := a) (argsL := []) (rest := []) (lenOf pd__40_41V rfl) rfl (by show 2 * 0 + _ ≤ _; exact Nat.le_of_eq rfl) (hb hby d22_1) (fun _ _ => ⟨rfl, e0, (by decide : 0 + 0 ≤ _), (by decide : 0 + 0 ≤ _)⟩)
  dsimp only [Pt.U, Pt.locs, Pt.cells, Pt.slots] at X1 l1 y1 z1 st1 hQ1
  subst l1 y1 z1
  obtain ⟨rfl, N1q, eh1⟩ := hQ1
  have N1 := Fr.app N0 N1q
  have w2 : ∀ t, Steps p.tables e below (T1.setTop (mkF m 4 #[.val (.ref a)] [])) t → Steps p.tables e below (s₁.setTop (entryFrame m #[(.ref a)] 1)) t := fun t k => by
    refine pre0 t ?_
    refine XS.aloadN X0.here hx rfl (hb hby d22_0) rfl rfl ?_
    show Steps p.tables e below (s₁.setTop (mkF m 1 #[.val (.ref a)] [(.ref a)])) _
    refine st1.trans ?_
    show Steps p.tables e below (T1.setTop (mkF m 4 #[.val (.ref a)] [])) _
    exact k
  obtain ⟨fs, hr, hrun, hended, hW, hsame⟩ := X1.leave (v := none) (fun _ => rfl)
  refine ⟨_, _, w2 _ ?_, hrun, hended, _, _, rfl, ?_, ⟨_, rfl⟩, hW, hsame.mono (by decide) (by decide)⟩
  · exact X1.returnOut hx Bd.returns (hb hby d22_4) hr
  · show Q22 Z a  h0 n0 _ T1.heap _
    rw [eh1]
    exact ⟨rfl, N1, rfl⟩
theorem d13_0 : decode jdk_30_method_1_code 0 = .ok (.aload_n 0, 1) := by decide +kernel
theorem d13_1 : decode jdk_30_method_1_code 1 = .ok (.invokespecial 1, 3) := by decide +kernel
theorem d13_4 : decode jdk_30_method_1_code 4 = .ok (.return_, 1) := by decide +kernel
theorem pn_java_lang_Record : plainName "java/lang/Record" = true := by first | (simp [plainName, overriddenIn]; done) | decide +kernel
theorem ef_13 (m : MethodId) (x0 : Addr) : entryFrame m #[(.ref x0)] 1 = mkF m 0 #[.val (.ref x0)] [] := by first | (simp [entryFrame, mkF, argsToLocals, Value.category]; done) | rfl
def Q13 (Z : State) (a : Addr) (h0 : Heap) (n0 : Nat) (v : Option Value) (h : Heap) (L : List Loc) : Prop := v = none ∧ Fr n0 L ∧ h = h0
set_option maxRecDepth 65536 in
set_option maxHeartbeats 40000000 in
theorem rm13 (l : Launch) (Z : State) (a0 : Array Value) (hw : ∀ d ∈ tables_1, d.before a0 Z = true) (ws : List Jvm.Cond) (a : Addr) (h0 : Heap) (n0 : Nat) (O0 : Old Z n0 h0) :
    MetFree l (⟨"java/lang/Record", "<init>", "()V"⟩ : MethodName) (head1 (Jvm.Cond.code (⟨"java/lang/Record", "<init>", "()V"⟩ : MethodName) jdk_30_method_1_code 1 none :: ws) ({ frames := 1, cells := 0, slots := 0, locals := 12 } : Room)) (fun aA uU => aA = #[(.ref a)] ∧ Z.Warmed39 uU.vm ∧ uU.heap = h0) (fun _ _ _ _ _ => True) (fun _ uU oO uU' => ∃ vV lL, oO = .returned vV ∧ Q13 Z a  h0 n0 vV uU'.heap lL ∧ FrameEnd uU oO uU' lL ({ frames := 1, cells := 0, slots := 0, locals := 12 } : Room).cells ({ frames := 1, cells := 0, slots := 0, locals := 12 } : Room).slots) := by
  refine MetFree.of_bodySF (plainFor_of_name pn_java_lang_Record) hisR ?_
  intro p e s m args below meth c s₁ Bd hml0 hP hK
  obtain ⟨rfl, hZ, hh⟩ := hP
  have hx := Bd.exec
  have hby := Bd.bytes
  have hml : c.maxLocals = 1 := hml0
  have hown : s.vm.findClass "java/lang/Record" = some m.cls := findClass_of_methodNamed Bd.named
  have hnm := (name_of_methodNamed Bd.named Bd.method).1
  have X0 : Stand p l e ({ frames := 1, cells := 0, slots := 0, locals := 12 } : Room) s m #[(.ref a)] below meth c s₁ [] 0 0 := Stand.of_body Bd
  have e0 : s₁.heap = h0 := by rw [← hh, Bd.state]; rfl
  have N0 := Fr.nil n0
  have O := O0
  have pre0 : ∀ t, Steps p.tables e below (s₁.setTop (mkF m 0 #[.val (.ref a)] [])) t → Steps p.tables e below (s₁.setTop (entryFrame m #[(.ref a)] 1)) t := fun t k => castTop (ef_13 m a) k
  obtain ⟨T1, X1, e1, st1⟩ := initO X0 hx hZ hown (hw _ (List.mem_of_getElem? (i := 78) rfl)) (hw _ (List.mem_of_getElem? (i := 23) rfl)) (hw _ (List.mem_of_getElem? (i := 24) rfl)) e0 (g := (mkF m 1 #[.val (.ref a)] [(.ref a)])) rfl (by rw [hml]; rfl) rfl (hb hby d13_1) (by decide) (W := 0) (by show 2 * 0 + _ ≤ _; exact Nat.le_of_eq rfl) (by decide)
  have w2 : ∀ t, Steps p.tables e below (T1.setTop (mkF m 4 #[.val (.ref a)] [])) t → Steps p.tables e below (s₁.setTop (entryFrame m #[(.ref a)] 1)) t := fun t k => by
    refine pre0 t ?_
    refine XS.aloadN X0.here hx rfl (hb hby d13_0) rfl rfl ?_
    show Steps p.tables e below (s₁.setTop (mkF m 1 #[.val (.ref a)] [(.ref a)])) _
    refine st1 _ ?_
    show Steps p.tables e below (T1.setTop (mkF m 4 #[.val (.ref a)] [])) _
    exact k
  obtain ⟨fs, hr, hrun, hended, hW, hsame⟩ := X1.leave (v := none) (fun _ => rfl)
  refine ⟨_, _, w2 _ ?_, hrun, hended, _, _, rfl, ?_, ⟨_, rfl⟩, hW, hsame.mono (by decide) (by decide)⟩
  · exact X1.returnOut hx Bd.returns (hb hby d13_4) hr
  · show Q13 Z a  h0 n0 _ T1.heap _
    rw [e1]
    exact ⟨rfl, N0, rfl⟩
theorem d39_0 : decode jdk_18_method_1_code 0 = .ok (.aload_n 0, 1) := by decide +kernel
theorem d39_1 : decode jdk_18_method_1_code 1 = .ok (.invokespecial 1, 3) := by decide +kernel
theorem d39_4 : decode jdk_18_method_1_code 4 = .ok (.return_, 1) := by decide +kernel
theorem pn_java_lang_Number : plainName "java/lang/Number" = true := by first | (simp [plainName, overriddenIn]; done) | decide +kernel
theorem ef_39 (m : MethodId) (x0 : Addr) : entryFrame m #[(.ref x0)] 1 = mkF m 0 #[.val (.ref x0)] [] := by first | (simp [entryFrame, mkF, argsToLocals, Value.category]; done) | rfl
def Q39 (Z : State) (a : Addr) (h0 : Heap) (n0 : Nat) (v : Option Value) (h : Heap) (L : List Loc) : Prop := v = none ∧ Fr n0 L ∧ h = h0
set_option maxRecDepth 65536 in
set_option maxHeartbeats 40000000 in
theorem rm39 (l : Launch) (Z : State) (a0 : Array Value) (hw : ∀ d ∈ tables_1, d.before a0 Z = true) (ws : List Jvm.Cond) (a : Addr) (h0 : Heap) (n0 : Nat) (O0 : Old Z n0 h0) :
    MetFree l (⟨"java/lang/Number", "<init>", "()V"⟩ : MethodName) (head1 (Jvm.Cond.code (⟨"java/lang/Number", "<init>", "()V"⟩ : MethodName) jdk_18_method_1_code 1 none :: ws) ({ frames := 1, cells := 0, slots := 0, locals := 12 } : Room)) (fun aA uU => aA = #[(.ref a)] ∧ Z.Warmed39 uU.vm ∧ uU.heap = h0) (fun _ _ _ _ _ => True) (fun _ uU oO uU' => ∃ vV lL, oO = .returned vV ∧ Q39 Z a  h0 n0 vV uU'.heap lL ∧ FrameEnd uU oO uU' lL ({ frames := 1, cells := 0, slots := 0, locals := 12 } : Room).cells ({ frames := 1, cells := 0, slots := 0, locals := 12 } : Room).slots) := by
  refine MetFree.of_bodySF (plainFor_of_name pn_java_lang_Number) hisR ?_
  intro p e s m args below meth c s₁ Bd hml0 hP hK
  obtain ⟨rfl, hZ, hh⟩ := hP
  have hx := Bd.exec
  have hby := Bd.bytes
  have hml : c.maxLocals = 1 := hml0
  have hown : s.vm.findClass "java/lang/Number" = some m.cls := findClass_of_methodNamed Bd.named
  have hnm := (name_of_methodNamed Bd.named Bd.method).1
  have X0 : Stand p l e ({ frames := 1, cells := 0, slots := 0, locals := 12 } : Room) s m #[(.ref a)] below meth c s₁ [] 0 0 := Stand.of_body Bd
  have e0 : s₁.heap = h0 := by rw [← hh, Bd.state]; rfl
  have N0 := Fr.nil n0
  have O := O0
  have pre0 : ∀ t, Steps p.tables e below (s₁.setTop (mkF m 0 #[.val (.ref a)] [])) t → Steps p.tables e below (s₁.setTop (entryFrame m #[(.ref a)] 1)) t := fun t k => castTop (ef_39 m a) k
  obtain ⟨T1, X1, e1, st1⟩ := initO X0 hx hZ hown (hw _ (List.mem_of_getElem? (i := 283) rfl)) (hw _ (List.mem_of_getElem? (i := 23) rfl)) (hw _ (List.mem_of_getElem? (i := 24) rfl)) e0 (g := (mkF m 1 #[.val (.ref a)] [(.ref a)])) rfl (by rw [hml]; rfl) rfl (hb hby d39_1) (by decide) (W := 0) (by show 2 * 0 + _ ≤ _; exact Nat.le_of_eq rfl) (by decide)
  have w2 : ∀ t, Steps p.tables e below (T1.setTop (mkF m 4 #[.val (.ref a)] [])) t → Steps p.tables e below (s₁.setTop (entryFrame m #[(.ref a)] 1)) t := fun t k => by
    refine pre0 t ?_
    refine XS.aloadN X0.here hx rfl (hb hby d39_0) rfl rfl ?_
    show Steps p.tables e below (s₁.setTop (mkF m 1 #[.val (.ref a)] [(.ref a)])) _
    refine st1 _ ?_
    show Steps p.tables e below (T1.setTop (mkF m 4 #[.val (.ref a)] [])) _
    exact k
  obtain ⟨fs, hr, hrun, hended, hW, hsame⟩ := X1.leave (v := none) (fun _ => rfl)
  refine ⟨_, _, w2 _ ?_, hrun, hended, _, _, rfl, ?_, ⟨_, rfl⟩, hW, hsame.mono (by decide) (by decide)⟩
  · exact X1.returnOut hx Bd.returns (hb hby d39_4) hr
  · show Q39 Z a  h0 n0 _ T1.heap _
    rw [e1]
    exact ⟨rfl, N0, rfl⟩
theorem d24_0 : decode jdk_31_method_10_code 0 = .ok (.aload_n 0, 1) := by decide +kernel
theorem d24_1 : decode jdk_31_method_10_code 1 = .ok (.ifnonnull 11, 3) := by decide +kernel
theorem d24_12 : decode jdk_31_method_10_code 12 = .ok (.aload_n 0, 1) := by decide +kernel
theorem d24_13 : decode jdk_31_method_10_code 13 = .ok (.areturn, 1) := by decide +kernel
theorem pn_java_util_Objects : plainName "java/util/Objects" = true := by first | (simp [plainName, overriddenIn]; done) | decide +kernel
theorem ef_24 (m : MethodId) (x0 : Addr) : entryFrame m #[(.ref x0)] 1 = mkF m 0 #[.val (.ref x0)] [] := by first | (simp [entryFrame, mkF, argsToLocals, Value.category]; done) | rfl
def Q24 (Z : State) (y : Addr) (h0 : Heap) (n0 : Nat) (v : Option Value) (h : Heap) (L : List Loc) : Prop := v = some (.ref y) ∧ Fr n0 L ∧ h = h0
set_option maxRecDepth 65536 in
set_option maxHeartbeats 40000000 in
theorem rm24 (l : Launch) (Z : State) (a0 : Array Value) (hw : ∀ d ∈ tables_1, d.before a0 Z = true) (ws : List Jvm.Cond) (y : Addr) (h0 : Heap) (n0 : Nat) (O0 : Old Z n0 h0) :
    MetFree l (⟨"java/util/Objects", "requireNonNull", "(Ljava/lang/Object;)Ljava/lang/Object;"⟩ : MethodName) (head1 (Jvm.Cond.code (⟨"java/util/Objects", "requireNonNull", "(Ljava/lang/Object;)Ljava/lang/Object;"⟩ : MethodName) jdk_31_method_10_code 1 (some (.object "java/lang/Object")) :: ws) ({ frames := 0, cells := 0, slots := 0, locals := 0 } : Room)) (fun aA uU => aA = #[(.ref y)] ∧ Z.Warmed39 uU.vm ∧ uU.heap = h0) (fun _ _ _ _ _ => True) (fun _ uU oO uU' => ∃ vV lL, oO = .returned vV ∧ Q24 Z y  h0 n0 vV uU'.heap lL ∧ FrameEnd uU oO uU' lL ({ frames := 0, cells := 0, slots := 0, locals := 0 } : Room).cells ({ frames := 0, cells := 0, slots := 0, locals := 0 } : Room).slots) := by
  refine MetFree.of_bodySF (plainFor_of_name pn_java_util_Objects) hisR ?_
  intro p e s m args below meth c s₁ Bd hml0 hP hK
  obtain ⟨rfl, hZ, hh⟩ := hP
  have hx := Bd.exec
  have hby := Bd.bytes
  have hml : c.maxLocals = 1 := hml0
  have hown : s.vm.findClass "java/util/Objects" = some m.cls := findClass_of_methodNamed Bd.named
  have hnm := (name_of_methodNamed Bd.named Bd.method).1
  have X0 : Stand p l e ({ frames := 0, cells := 0, slots := 0, locals := 0 } : Room) s m #[(.ref y)] below meth c s₁ [] 0 0 := Stand.of_body Bd
  have e0 : s₁.heap = h0 := by rw [← hh, Bd.state]; rfl
  have N0 := Fr.nil n0
  have O := O0
  have pre0 : ∀ t, Steps p.tables e below (s₁.setTop (mkF m 0 #[.val (.ref y)] [])) t → Steps p.tables e below (s₁.setTop (entryFrame m #[(.ref y)] 1)) t := fun t k => castTop (ef_24 m y) k
  have w1 : ∀ t, Steps p.tables e below (s₁.setTop (mkF m 13 #[.val (.ref y)] [(.ref y)])) t → Steps p.tables e below (s₁.setTop (entryFrame m #[(.ref y)] 1)) t := fun t k => by
    refine pre0 t ?_
    refine XS.aloadN X0.here hx rfl (hb hby d24_0) rfl rfl ?_
    show Steps p.tables e below (s₁.setTop (mkF m 1 #[.val (.ref y)] [(.ref y)])) _
    refine XS.ifnonnullYes X0.here hx rfl (pc0 := 1) (pc' := 12) rfl (hb hby d24_1) rfl (by decide) (by decide) ?_
    show Steps p.tables e below (s₁.setTop (mkF m 12 #[.val (.ref y)] [])) _
    refine XS.aloadN X0.here hx rfl (hb hby d24_12) rfl rfl ?_
    show Steps p.tables e below (s₁.setTop (mkF m 13 #[.val (.ref y)] [(.ref y)])) _
    exact k
  obtain ⟨fs, hr, hrun, hended, hW, hsame⟩ := X0.leave (v := some (.ref y)) (fun h => by rw [Bd.returns] at h; cases h)
  refine ⟨_, _, w1 _ ?_, hrun, hended, _, _, rfl, ?_, ⟨_, rfl⟩, hW, hsame.mono (by decide) (by decide)⟩
  · jvm_step X0.here [X0.here.top, hx, (hb hby d24_13), X0.method', Bd.returns, Value.isRef, FieldType.isReference]
    first | (intro acts; rw [hr _ acts rfl rfl rfl]) | rw [hr _ _ rfl rfl rfl]
    exact Steps.refl _
  · show Q24 Z y  h0 n0 _ s₁.heap _
    rw [e0]
    exact ⟨rfl, N0, rfl⟩
theorem d3_0 : decode jdk_39_method_1_code 0 = .ok (.aload_n 0, 1) := by decide +kernel
theorem d3_1 : decode jdk_39_method_1_code 1 = .ok (.invokespecial 1, 3) := by decide +kernel
theorem d3_4 : decode jdk_39_method_1_code 4 = .ok (.aload_n 0, 1) := by decide +kernel
theorem d3_5 : decode jdk_39_method_1_code 5 = .ok (.iconst 0, 1) := by decide +kernel
theorem d3_6 : decode jdk_39_method_1_code 6 = .ok (.putfield 7, 3) := by decide +kernel
theorem d3_9 : decode jdk_39_method_1_code 9 = .ok (.return_, 1) := by decide +kernel
theorem pn_java_util_AbstractList : plainName "java/util/AbstractList" = true := by first | (simp [plainName, overriddenIn]; done) | decide +kernel
theorem ef_3 (m : MethodId) (x0 : Addr) : entryFrame m #[(.ref x0)] 1 = mkF m 0 #[.val (.ref x0)] [] := by first | (simp [entryFrame, mkF, argsToLocals, Value.category]; done) | rfl
def Q3 (Z : State) (a : Addr) (u1 : Value) (u2 : Value) (h0 : Heap) (n0 : Nat) (v : Option Value) (h : Heap) (L : List Loc) : Prop := v = none ∧ Fr n0 L ∧ Keep h0 h [a] ∧ Fld Z h a "java/util/AbstractList" "modCount" "I" (.int (0 : Int32)) ∧ Fld Z h a "java/util/ArrayList" "elementData" "[Ljava/lang/Object;" u1 ∧ Fld Z h a "java/util/ArrayList" "size" "I" u2
set_option maxRecDepth 65536 in
set_option maxHeartbeats 40000000 in
theorem rm3 (l : Launch) (Z : State) (a0 : Array Value) (hw : ∀ d ∈ tables_1, d.before a0 Z = true) (ws : List Jvm.Cond) (a : Addr) (u1 : Value) (u2 : Value) (h0 : Heap) (n0 : Nat) (O0 : Old Z n0 h0) (E_a : Exa Z h0 a "java/util/ArrayList") (F_m_a : Fld Z h0 a "java/util/AbstractList" "modCount" "I" (.int (0 : Int32))) (F_e_a : Fld Z h0 a "java/util/ArrayList" "elementData" "[Ljava/lang/Object;" u1) (F_s_a : Fld Z h0 a "java/util/ArrayList" "size" "I" u2) (g_a : n0 ≤ a) :
    MetFree l (⟨"java/util/AbstractList", "<init>", "()V"⟩ : MethodName) (head1 (Jvm.Cond.code (⟨"java/util/AbstractList", "<init>", "()V"⟩ : MethodName) jdk_39_method_1_code 1 none :: ws) ({ frames := 2, cells := 0, slots := 0, locals := 24 } : Room)) (fun aA uU => aA = #[(.ref a)] ∧ Z.Warmed39 uU.vm ∧ uU.heap = h0) (fun _ _ _ _ _ => True) (fun _ uU oO uU' => ∃ vV lL, oO = .returned vV ∧ Q3 Z a u1 u2  h0 n0 vV uU'.heap lL ∧ FrameEnd uU oO uU' lL ({ frames := 2, cells := 0, slots := 0, locals := 24 } : Room).cells ({ frames := 2, cells := 0, slots := 0, locals := 24 } : Room).slots) := by
  refine MetFree.of_bodySF (plainFor_of_name pn_java_util_AbstractList) hisR ?_
  intro p e s m args below meth c s₁ Bd hml0 hP hK
  obtain ⟨rfl, hZ, hh⟩ := hP
  have hx := Bd.exec
  have hby := Bd.bytes
  have hml : c.maxLocals = 1 := hml0
  have hown : s.vm.findClass "java/util/AbstractList" = some m.cls := findClass_of_methodNamed Bd.named
  have hnm := (name_of_methodNamed Bd.named Bd.method).1
  have X0 : Stand p l e ({ frames := 2, cells := 0, slots := 0, locals := 24 } : Room) s m #[(.ref a)] below meth c s₁ [] 0 0 := Stand.of_body Bd
  have e0 : s₁.heap = h0 := by rw [← hh, Bd.state]; rfl
  have N0 := Fr.nil n0
  have O := O0
  have K := Keep.refl h0 [a]
  have pre0 : ∀ t, Steps p.tables e below (s₁.setTop (mkF m 0 #[.val (.ref a)] [])) t → Steps p.tables e below (s₁.setTop (entryFrame m #[(.ref a)] 1)) t := fun t k => castTop (ef_3 m a) k
  obtain ⟨_, _, ⟨T1, L1, k1, n1⟩, -, X1, ⟨Lc1, hQ1, l1, y1, z1⟩, st1⟩ := X0.specialBack hx (y := (⟨"java/util/AbstractCollection", "<init>", "()V"⟩ : MethodName)) rfl hown (mvT hZ (hw _ (List.mem_of_getElem? (i := 16) rfl))) (mvT hZ (hw _ (List.mem_of_getElem? (i := 17) rfl))) (mvT hZ (hw _ (List.mem_of_getElem? (i := 21) rfl))) (by decide) (backOf (W := 0) (rm4 l Z a0 hw [] a h0 n0 O ) hZ (hw _ (List.mem_of_getElem? (i := 21) rfl)) (hw _ (List.mem_of_getElem? (i := 20) rfl)) (by decide) (by decide)) (g := (mkF m 1 #[.val (.ref a)] [(.ref a)])) rfl (by rw [hml]; rfl) (Steps.refl _) (a := a) (argsL := []) (rest := []) (lenOf pd__40_41V rfl) rfl (by show 2 * 0 + _ ≤ _; exact Nat.le_of_eq rfl) (hb hby d3_1) (fun _ _ => ⟨rfl, e0, (by decide : 0 + 0 ≤ _), (by decide : 0 + 0 ≤ _)⟩)
  dsimp only [Pt.U, Pt.locs, Pt.cells, Pt.slots] at X1 l1 y1 z1 st1 hQ1
  subst l1 y1 z1
  obtain ⟨rfl, N1q, eh1⟩ := hQ1
  have N1 := Fr.app N0 N1q
  obtain ⟨T2, h2, X2, e2, W2, st2⟩ := putF X1 hx hZ hown (host := "") (Or.inl (hw _ (List.mem_of_getElem? (i := 25) rfl))) Via.refl eh1 F_m_a E_a (Or.inl (hw _ (List.mem_of_getElem? (i := 26) rfl))) (hw _ (List.mem_of_getElem? (i := 5) rfl)) (ty := .int) (by decide) rfl rfl (g := (mkF m 6 #[.val (.ref a)] [(.int (0 : Int32)), (.ref a)])) rfl rfl (hb hby d3_6)
  have F_m_a := F_m_a.same W2
  have E_a := E_a.wr W2
  have F_e_a := F_e_a.other W2 (Or.inr (slot_ne (Or.inl (hw _ (List.mem_of_getElem? (i := 29) rfl))) (Or.inl (hw _ (List.mem_of_getElem? (i := 26) rfl))) (by decide) (t := (.array (.object "java/lang/Object"))) (t' := .int) (by decide) (by decide)))
  have F_s_a := F_s_a.other W2 (Or.inr (slot_ne (Or.inl (hw _ (List.mem_of_getElem? (i := 45) rfl))) (Or.inl (hw _ (List.mem_of_getElem? (i := 26) rfl))) (by decide) (t := .int) (t' := .int) (by decide) (by decide)))
  have O := O.wr W2 g_a
  have K := K.wr W2 (Or.inl (List.mem_of_getElem? (i := 0) rfl))
  have N2 := Fr.snoc X2 N1 g_a
  have w3 : ∀ t, Steps p.tables e below (T2.setTop (mkF m 9 #[.val (.ref a)] [])) t → Steps p.tables e below (s₁.setTop (entryFrame m #[(.ref a)] 1)) t := fun t k => by
    refine pre0 t ?_
    refine XS.aloadN X0.here hx rfl (hb hby d3_0) rfl rfl ?_
    show Steps p.tables e below (s₁.setTop (mkF m 1 #[.val (.ref a)] [(.ref a)])) _
    refine st1.trans ?_
    show Steps p.tables e below (T1.setTop (mkF m 4 #[.val (.ref a)] [])) _
    refine XS.aloadN X1.here hx rfl (hb hby d3_4) rfl rfl ?_
    show Steps p.tables e below (T1.setTop (mkF m 5 #[.val (.ref a)] [(.ref a)])) _
    refine XS.iconst X1.here hx rfl (hb hby d3_5) ?_
    show Steps p.tables e below (T1.setTop (mkF m 6 #[.val (.ref a)] [(.int (0 : Int32)), (.ref a)])) _
    refine st2 _ ?_
    show Steps p.tables e below (T2.setTop (mkF m 9 #[.val (.ref a)] [])) _
    exact k
  obtain ⟨fs, hr, hrun, hended, hW, hsame⟩ := X2.leave (v := none) (fun _ => rfl)
  refine ⟨_, _, w3 _ ?_, hrun, hended, _, _, rfl, ?_, ⟨_, rfl⟩, hW, hsame.mono (by decide) (by decide)⟩
  · exact X2.returnOut hx Bd.returns (hb hby d3_9) hr
  · show Q3 Z a u1 u2  h0 n0 _ T2.heap _
    rw [e2]
    exact ⟨rfl, N2, K, F_m_a, F_e_a, F_s_a⟩
theorem d2_0 : decode jdk_38_method_2_code 0 = .ok (.aload_n 0, 1) := by decide +kernel
theorem d2_1 : decode jdk_38_method_2_code 1 = .ok (.invokespecial 1, 3) := by decide +kernel
theorem d2_4 : decode jdk_38_method_2_code 4 = .ok (.aload_n 0, 1) := by decide +kernel
theorem d2_5 : decode jdk_38_method_2_code 5 = .ok (.getstatic 39, 3) := by decide +kernel
theorem d2_8 : decode jdk_38_method_2_code 8 = .ok (.putfield 9, 3) := by decide +kernel
theorem d2_11 : decode jdk_38_method_2_code 11 = .ok (.return_, 1) := by decide +kernel
theorem pn_java_util_ArrayList : plainName "java/util/ArrayList" = true := by first | (simp [plainName, overriddenIn]; done) | decide +kernel
theorem ef_2 (m : MethodId) (x0 : Addr) : entryFrame m #[(.ref x0)] 1 = mkF m 0 #[.val (.ref x0)] [] := by first | (simp [entryFrame, mkF, argsToLocals, Value.category]; done) | rfl
def Q2 (Z : State) (a : Addr) (s_DEF : Addr) (h0 : Heap) (n0 : Nat) (v : Option Value) (h : Heap) (L : List Loc) : Prop := v = none ∧ Fr n0 L ∧ Keep h0 h [a] ∧ Fld Z h a "java/util/AbstractList" "modCount" "I" (.int (0 : Int32)) ∧ Fld Z h a "java/util/ArrayList" "elementData" "[Ljava/lang/Object;" (.ref s_DEF) ∧ Fld Z h a "java/util/ArrayList" "size" "I" (.int (0 : Int32))
set_option maxRecDepth 65536 in
set_option maxHeartbeats 40000000 in
theorem rm2 (l : Launch) (Z : State) (a0 : Array Value) (hw : ∀ d ∈ tables_1, d.before a0 Z = true) (ws : List Jvm.Cond) (a : Addr) (s_DEF : Addr) (h0 : Heap) (n0 : Nat) (O0 : Old Z n0 h0) (S_s_DEF : Sta Z Z.heap "java/util/ArrayList" "DEFAULTCAPACITY_EMPTY_ELEMENTDATA" "[Ljava/lang/Object;" (.ref s_DEF)) (E_a : Exa Z h0 a "java/util/ArrayList") (F_m_a : Fld Z h0 a "java/util/AbstractList" "modCount" "I" (.int (0 : Int32))) (F_e_a : Fld Z h0 a "java/util/ArrayList" "elementData" "[Ljava/lang/Object;" .null) (F_s_a : Fld Z h0 a "java/util/ArrayList" "size" "I" (.int (0 : Int32))) (g_a : n0 ≤ a) :
    MetFree l (⟨"java/util/ArrayList", "<init>", "()V"⟩ : MethodName) (head1 (Jvm.Cond.code (⟨"java/util/ArrayList", "<init>", "()V"⟩ : MethodName) jdk_38_method_2_code 1 none :: ws) ({ frames := 3, cells := 0, slots := 0, locals := 36 } : Room)) (fun aA uU => aA = #[(.ref a)] ∧ Z.Warmed39 uU.vm ∧ uU.heap = h0) (fun _ _ _ _ _ => True) (fun _ uU oO uU' => ∃ vV lL, oO = .returned vV ∧ Q2 Z a s_DEF h0 n0 vV uU'.heap lL ∧ FrameEnd uU oO uU' lL ({ frames := 3, cells := 0, slots := 0, locals := 36 } : Room).cells ({ frames := 3, cells := 0, slots := 0, locals := 36 } : Room).slots) := by
  refine MetFree.of_bodySF (plainFor_of_name pn_java_util_ArrayList) hisR ?_
  intro p e s m args below meth c s₁ Bd hml0 hP hK
  obtain ⟨rfl, hZ, hh⟩ := hP
  have hx := Bd.exec
  have hby := Bd.bytes
  have hml : c.maxLocals = 1 := hml0
  have hown : s.vm.findClass "java/util/ArrayList" = some m.cls := findClass_of_methodNamed Bd.named
  have hnm := (name_of_methodNamed Bd.named Bd.method).1
  have X0 : Stand p l e ({ frames := 3, cells := 0, slots := 0, locals := 36 } : Room) s m #[(.ref a)] below meth c s₁ [] 0 0 := Stand.of_body Bd
  have e0 : s₁.heap = h0 := by rw [← hh, Bd.state]; rfl
  have N0 := Fr.nil n0
  have O := O0
  have K := Keep.refl h0 [a]
  have pre0 : ∀ t, Steps p.tables e below (s₁.setTop (mkF m 0 #[.val (.ref a)] [])) t → Steps p.tables e below (s₁.setTop (entryFrame m #[(.ref a)] 1)) t := fun t k => castTop (ef_2 m a) k
  obtain ⟨_, _, ⟨T1, L1, k1, n1⟩, -, X1, ⟨Lc1, hQ1, l1, y1, z1⟩, st1⟩ := X0.specialBack hx (y := (⟨"java/util/AbstractList", "<init>", "()V"⟩ : MethodName)) rfl hown (mvT hZ (hw _ (List.mem_of_getElem? (i := 10) rfl))) (mvT hZ (hw _ (List.mem_of_getElem? (i := 11) rfl))) (mvT hZ (hw _ (List.mem_of_getElem? (i := 15) rfl))) (by decide) (backOf (W := 0) (rm3 l Z a0 hw [] a .null (.int (0 : Int32)) h0 n0 O E_a F_m_a F_e_a F_s_a g_a) hZ (hw _ (List.mem_of_getElem? (i := 15) rfl)) (hw _ (List.mem_of_getElem? (i := 14) rfl)) (by decide) (by decide)) (g := (mkF m 1 #[.val (.ref a)] [(.ref a)])) rfl (by rw [hml]; rfl) (Steps.refl _) (a := a) (argsL := []) (rest := []) (lenOf pd__40_41V rfl) rfl (by show 2 * 0 + _ ≤ _; exact Nat.le_of_eq rfl) (hb hby d2_1) (fun _ _ => ⟨rfl, e0, (by decide : 0 + 0 ≤ _), (by decide : 0 + 0 ≤ _)⟩)
  dsimp only [Pt.U, Pt.locs, Pt.cells, Pt.slots] at X1 l1 y1 z1 st1 hQ1
  subst l1 y1 z1
  obtain ⟨rfl, N1q, K1, F_m_a_c1, F_e_a_c1, F_s_a_c1⟩ := hQ1
  have N1 := Fr.app N0 N1q
  have E_a := E_a.keep K1
  have O := O.keep K1 (allS g_a all0)
  have K := K.trans K1 (allS (Or.inl (List.mem_of_getElem? (i := 0) rfl)) all0)
  obtain ⟨T2, X2, e2, st2⟩ := getS2 X1 hx hZ hown (host := "") (Or.inl (hw _ (List.mem_of_getElem? (i := 27) rfl))) Via.refl rfl (S_s_DEF.ext O.2) (g := (mkF m 5 #[.val (.ref a)] [(.ref a)])) rfl (hb hby d2_5)
  obtain ⟨T3, h3, X3, e3, W3, st3⟩ := putF X2 hx hZ hown (host := "") (Or.inl (hw _ (List.mem_of_getElem? (i := 28) rfl))) Via.refl e2 F_e_a_c1 E_a (Or.inl (hw _ (List.mem_of_getElem? (i := 29) rfl))) (hw _ (List.mem_of_getElem? (i := 5) rfl)) (ty := (.array (.object "java/lang/Object"))) (by decide) rfl rfl (g := (mkF m 8 #[.val (.ref a)] [(.ref s_DEF), (.ref a)])) rfl rfl (hb hby d2_8)
  have F_e_a_c1 := F_e_a_c1.same W3
  have E_a := E_a.wr W3
  have F_m_a_c1 := F_m_a_c1.other W3 (Or.inr (slot_ne (Or.inl (hw _ (List.mem_of_getElem? (i := 26) rfl))) (Or.inl (hw _ (List.mem_of_getElem? (i := 29) rfl))) (by decide) (t := .int) (t' := (.array (.object "java/lang/Object"))) (by decide) (by decide)))
  have F_s_a_c1 := F_s_a_c1.other W3 (Or.inr (slot_ne (Or.inl (hw _ (List.mem_of_getElem? (i := 45) rfl))) (Or.inl (hw _ (List.mem_of_getElem? (i := 29) rfl))) (by decide) (t := .int) (t' := (.array (.object "java/lang/Object"))) (by decide) (by decide)))
  have O := O.wr W3 g_a
  have K := K.wr W3 (Or.inl (List.mem_of_getElem? (i := 0) rfl))
  have N3 := Fr.snoc X3 N1 g_a
  have w4 : ∀ t, Steps p.tables e below (T3.setTop (mkF m 11 #[.val (.ref a)] [])) t → Steps p.tables e below (s₁.setTop (entryFrame m #[(.ref a)] 1)) t := fun t k => by
    refine pre0 t ?_
    refine XS.aloadN X0.here hx rfl (hb hby d2_0) rfl rfl ?_
    show Steps p.tables e below (s₁.setTop (mkF m 1 #[.val (.ref a)] [(.ref a)])) _
    refine st1.trans ?_
    show Steps p.tables e below (T1.setTop (mkF m 4 #[.val (.ref a)] [])) _
    refine XS.aloadN X1.here hx rfl (hb hby d2_4) rfl rfl ?_
    show Steps p.tables e below (T1.setTop (mkF m 5 #[.val (.ref a)] [(.ref a)])) _
    refine st2 _ ?_
    show Steps p.tables e below (T2.setTop (mkF m 8 #[.val (.ref a)] [(.ref s_DEF), (.ref a)])) _
    refine st3 _ ?_
    show Steps p.tables e below (T3.setTop (mkF m 11 #[.val (.ref a)] [])) _
    exact k
  obtain ⟨fs, hr, hrun, hended, hW, hsame⟩ := X3.leave (v := none) (fun _ => rfl)
  refine ⟨_, _, w4 _ ?_, hrun, hended, _, _, rfl, ?_, ⟨_, rfl⟩, hW, hsame.mono (by decide) (by decide)⟩
  · exact X3.returnOut hx Bd.returns (hb hby d2_11) hr
  · show Q2 Z a s_DEF h0 n0 _ T3.heap _
    rw [e3]
    exact ⟨rfl, N3, K, F_m_a_c1, F_e_a_c1, F_s_a_c1⟩
theorem d38_0 : decode jdk_33_method_23_code 0 = .ok (.aload_n 0, 1) := by decide +kernel
theorem d38_1 : decode jdk_33_method_23_code 1 = .ok (.invokespecial 202, 3) := by decide +kernel
theorem d38_4 : decode jdk_33_method_23_code 4 = .ok (.aload_n 0, 1) := by decide +kernel
theorem d38_5 : decode jdk_33_method_23_code 5 = .ok (.iload_n 1, 1) := by decide +kernel
theorem d38_6 : decode jdk_33_method_23_code 6 = .ok (.putfield 205, 3) := by decide +kernel
theorem d38_9 : decode jdk_33_method_23_code 9 = .ok (.return_, 1) := by decide +kernel
theorem pn_java_lang_Integer : plainName "java/lang/Integer" = true := by first | (simp [plainName, overriddenIn]; done) | decide +kernel
theorem ef_38 (m : MethodId) (x0 : Addr) (x1 : Int32) : entryFrame m #[(.ref x0), (.int x1)] 2 = mkF m 0 #[.val (.ref x0), .val (.int x1)] [] := by first | (simp [entryFrame, mkF, argsToLocals, Value.category]; done) | rfl
def Q38 (Z : State) (a : Addr) (q : Int32) (h0 : Heap) (n0 : Nat) (v : Option Value) (h : Heap) (L : List Loc) : Prop := v = none ∧ Fr n0 L ∧ Keep h0 h [a] ∧ Fld Z h a "java/lang/Integer" "value" "I" (.int q)
set_option maxRecDepth 65536 in
set_option maxHeartbeats 40000000 in
theorem rm38 (l : Launch) (Z : State) (a0 : Array Value) (hw : ∀ d ∈ tables_1, d.before a0 Z = true) (ws : List Jvm.Cond) (a : Addr) (q : Int32) (h0 : Heap) (n0 : Nat) (O0 : Old Z n0 h0) (E_a : Exa Z h0 a "java/lang/Integer") (F_v_a : Fld Z h0 a "java/lang/Integer" "value" "I" (.int (0 : Int32))) (g_a : n0 ≤ a) :
    MetFree l (⟨"java/lang/Integer", "<init>", "(I)V"⟩ : MethodName) (head1 (Jvm.Cond.code (⟨"java/lang/Integer", "<init>", "(I)V"⟩ : MethodName) jdk_33_method_23_code 2 none :: ws) ({ frames := 2, cells := 0, slots := 0, locals := 24 } : Room)) (fun aA uU => aA = #[(.ref a), (.int q)] ∧ Z.Warmed39 uU.vm ∧ uU.heap = h0) (fun _ _ _ _ _ => True) (fun _ uU oO uU' => ∃ vV lL, oO = .returned vV ∧ Q38 Z a q  h0 n0 vV uU'.heap lL ∧ FrameEnd uU oO uU' lL ({ frames := 2, cells := 0, slots := 0, locals := 24 } : Room).cells ({ frames := 2, cells := 0, slots := 0, locals := 24 } : Room).slots) := by
  refine MetFree.of_bodySF (plainFor_of_name pn_java_lang_Integer) hisR ?_
  intro p e s m args below meth c s₁ Bd hml0 hP hK
  obtain ⟨rfl, hZ, hh⟩ := hP
  have hx := Bd.exec
  have hby := Bd.bytes
  have hml : c.maxLocals = 2 := hml0
  have hown : s.vm.findClass "java/lang/Integer" = some m.cls := findClass_of_methodNamed Bd.named
  have hnm := (name_of_methodNamed Bd.named Bd.method).1
  have X0 : Stand p l e ({ frames := 2, cells := 0, slots := 0, locals := 24 } : Room) s m #[(.ref a), (.int q)] below meth c s₁ [] 0 0 := Stand.of_body Bd
  have e0 : s₁.heap = h0 := by rw [← hh, Bd.state]; rfl
  have N0 := Fr.nil n0
  have O := O0
  have K := Keep.refl h0 [a]
  have pre0 : ∀ t, Steps p.tables e below (s₁.setTop (mkF m 0 #[.val (.ref a), .val (.int q)] [])) t → Steps p.tables e below (s₁.setTop (entryFrame m #[(.ref a), (.int q)] 2)) t := fun t k => castTop (ef_38 m a q) k
  obtain ⟨_, _, ⟨T1, L1, k1, n1⟩, -, X1, ⟨Lc1, hQ1, l1, y1, z1⟩, st1⟩ := X0.specialBack hx (y := (⟨"java/lang/Number", "<init>", "()V"⟩ : MethodName)) rfl hown (mvT hZ (hw _ (List.mem_of_getElem? (i := 277) rfl))) (mvT hZ (hw _ (List.mem_of_getElem? (i := 278) rfl))) (mvT hZ (hw _ (List.mem_of_getElem? (i := 282) rfl))) (by decide) (backOf (W := 0) (rm39 l Z a0 hw [] a h0 n0 O ) hZ (hw _ (List.mem_of_getElem? (i := 282) rfl)) (hw _ (List.mem_of_getElem? (i := 281) rfl)) (by decide) (by decide)) (g := (mkF m 1 #[.val (.ref a), .val (.int q)] [(.ref a)])) rfl (by rw [hml]; rfl) (Steps.refl _) (a := a) (argsL := []) (rest := []) (lenOf pd__40_41V rfl) rfl (by show 2 * 0 + _ ≤ _; exact Nat.le_of_eq rfl) (hb hby d38_1) (fun _ _ => ⟨rfl, e0, (by decide : 0 + 0 ≤ _), (by decide : 0 + 0 ≤ _)⟩)
  dsimp only [Pt.U, Pt.locs, Pt.cells, Pt.slots] at X1 l1 y1 z1 st1 hQ1
  subst l1 y1 z1
  obtain ⟨rfl, N1q, eh1⟩ := hQ1
  have N1 := Fr.app N0 N1q
  obtain ⟨T2, h2, X2, e2, W2, st2⟩ := putF X1 hx hZ hown (host := "") (Or.inl (hw _ (List.mem_of_getElem? (i := 122) rfl))) Via.refl eh1 F_v_a E_a (Or.inr ⟨(hw _ (List.mem_of_getElem? (i := 123) rfl)), rfl, hnm⟩) (hw _ (List.mem_of_getElem? (i := 273) rfl)) (ty := .int) (by decide) rfl rfl (g := (mkF m 6 #[.val (.ref a), .val (.int q)] [(.int q), (.ref a)])) rfl rfl (hb hby d38_6)
  have F_v_a := F_v_a.same W2
  have E_a := E_a.wr W2
  have O := O.wr W2 g_a
  have K := K.wr W2 (Or.inl (List.mem_of_getElem? (i := 0) rfl))
  have N2 := Fr.snoc X2 N1 g_a
  have w3 : ∀ t, Steps p.tables e below (T2.setTop (mkF m 9 #[.val (.ref a), .val (.int q)] [])) t → Steps p.tables e below (s₁.setTop (entryFrame m #[(.ref a), (.int q)] 2)) t := fun t k => by
    refine pre0 t ?_
    refine XS.aloadN X0.here hx rfl (hb hby d38_0) rfl rfl ?_
    show Steps p.tables e below (s₁.setTop (mkF m 1 #[.val (.ref a), .val (.int q)] [(.ref a)])) _
    refine st1.trans ?_
    show Steps p.tables e below (T1.setTop (mkF m 4 #[.val (.ref a), .val (.int q)] [])) _
    refine XS.aloadN X1.here hx rfl (hb hby d38_4) rfl rfl ?_
    show Steps p.tables e below (T1.setTop (mkF m 5 #[.val (.ref a), .val (.int q)] [(.ref a)])) _
    refine XS.iloadN X1.here hx rfl (hb hby d38_5) rfl ?_
    show Steps p.tables e below (T1.setTop (mkF m 6 #[.val (.ref a), .val (.int q)] [(.int q), (.ref a)])) _
    refine st2 _ ?_
    show Steps p.tables e below (T2.setTop (mkF m 9 #[.val (.ref a), .val (.int q)] [])) _
    exact k
  obtain ⟨fs, hr, hrun, hended, hW, hsame⟩ := X2.leave (v := none) (fun _ => rfl)
  refine ⟨_, _, w3 _ ?_, hrun, hended, _, _, rfl, ?_, ⟨_, rfl⟩, hW, hsame.mono (by decide) (by decide)⟩
  · exact X2.returnOut hx Bd.returns (hb hby d38_9) hr
  · show Q38 Z a q  h0 n0 _ T2.heap _
    rw [e2]
    exact ⟨rfl, N2, K, F_v_a⟩
theorem d6_0 : decode jdk_33_method_22_code 0 = .ok (.iload_n 0, 1) := by decide +kernel
theorem d6_1 : decode jdk_33_method_22_code 1 = .ok (.bipush (-128), 2) := by decide +kernel
theorem d6_3 : decode jdk_33_method_22_code 3 = .ok (.if_icmp .lt 20, 3) := by decide +kernel
theorem d6_23 : decode jdk_33_method_22_code 23 = .ok (.new 1, 3) := by decide +kernel
theorem d6_26 : decode jdk_33_method_22_code 26 = .ok (.dup, 1) := by decide +kernel
theorem d6_27 : decode jdk_33_method_22_code 27 = .ok (.iload_n 0, 1) := by decide +kernel
theorem d6_28 : decode jdk_33_method_22_code 28 = .ok (.invokespecial 199, 3) := by decide +kernel
theorem pd__40I_41V : parseMethodDescriptor "(I)V" = some ⟨[.int], none⟩ := by decide +kernel
theorem d6_31 : decode jdk_33_method_22_code 31 = .ok (.areturn, 1) := by decide +kernel
theorem d6_6 : decode jdk_33_method_22_code 6 = .ok (.iload_n 0, 1) := by decide +kernel
theorem d6_7 : decode jdk_33_method_22_code 7 = .ok (.getstatic 191, 3) := by decide +kernel
theorem d6_10 : decode jdk_33_method_22_code 10 = .ok (.if_icmp .gt 13, 3) := by decide +kernel
theorem d6_13 : decode jdk_33_method_22_code 13 = .ok (.getstatic 195, 3) := by decide +kernel
theorem d6_16 : decode jdk_33_method_22_code 16 = .ok (.iload_n 0, 1) := by decide +kernel
theorem d6_17 : decode jdk_33_method_22_code 17 = .ok (.sipush 128, 3) := by decide +kernel
theorem d6_20 : decode jdk_33_method_22_code 20 = .ok (.iadd, 1) := by decide +kernel
theorem d6_21 : decode jdk_33_method_22_code 21 = .ok (.aaload, 1) := by decide +kernel
theorem d6_22 : decode jdk_33_method_22_code 22 = .ok (.areturn, 1) := by decide +kernel
theorem ef_6 (m : MethodId) (x0 : Int32) : entryFrame m #[(.int x0)] 1 = mkF m 0 #[.val (.int x0)] [] := by first | (simp [entryFrame, mkF, argsToLocals, Value.category]; done) | rfl
def Q6 (Z : State) (q : Int32) (cl_s_cacheI : Cell) (s_cacheI : Addr) (h0 : Heap) (n0 : Nat) (v : Option Value) (h : Heap) (L : List Loc) : Prop := ∃ z : Addr, v = some (.ref z) ∧ Fr n0 L ∧ Keep h0 h [] ∧ Exa Z h z "java/lang/Integer" ∧ Fld Z h z "java/lang/Integer" "value" "I" (.int q)
set_option maxRecDepth 65536 in
set_option maxHeartbeats 40000000 in
theorem rm6 (l : Launch) (Z : State) (a0 : Array Value) (hw : ∀ d ∈ tables_1, d.before a0 Z = true) (ws : List Jvm.Cond) (q : Int32) (cl_s_cacheI : Cell) (s_cacheI : Addr) (h0 : Heap) (n0 : Nat) (O0 : Old Z n0 h0) (S_s_cacheI : Sta Z Z.heap "java/lang/Integer$IntegerCache" "cache" "[Ljava/lang/Integer;" (.ref s_cacheI)) (S_high : Sta Z Z.heap "java/lang/Integer$IntegerCache" "high" "I" (.int (127 : Int32))) (BI : Bxs Z s_cacheI cl_s_cacheI "java/lang/Integer" "I" 256 own_vI) :
    MetFree l (⟨"java/lang/Integer", "valueOf", "(I)Ljava/lang/Integer;"⟩ : MethodName) (head1 (Jvm.Cond.code (⟨"java/lang/Integer", "valueOf", "(I)Ljava/lang/Integer;"⟩ : MethodName) jdk_33_method_22_code 1 (some (.object "java/lang/Integer")) :: ws) ({ frames := 3, cells := 1, slots := 1, locals := 38 } : Room)) (fun aA uU => aA = #[(.int q)] ∧ Z.Warmed39 uU.vm ∧ uU.heap = h0) (fun _ _ _ _ _ => True) (fun _ uU oO uU' => ∃ vV lL, oO = .returned vV ∧ Q6 Z q cl_s_cacheI s_cacheI h0 n0 vV uU'.heap lL ∧ FrameEnd uU oO uU' lL ({ frames := 3, cells := 1, slots := 1, locals := 38 } : Room).cells ({ frames := 3, cells := 1, slots := 1, locals := 38 } : Room).slots) := by
  refine MetFree.of_bodySF (plainFor_of_name pn_java_lang_Integer) hisR ?_
  intro p e s m args below meth c s₁ Bd hml0 hP hK
  obtain ⟨rfl, hZ, hh⟩ := hP
  have hx := Bd.exec
  have hby := Bd.bytes
  have hml : c.maxLocals = 1 := hml0
  have hown : s.vm.findClass "java/lang/Integer" = some m.cls := findClass_of_methodNamed Bd.named
  have hnm := (name_of_methodNamed Bd.named Bd.method).1
  have X0 : Stand p l e ({ frames := 3, cells := 1, slots := 1, locals := 38 } : Room) s m #[(.int q)] below meth c s₁ [] 0 0 := Stand.of_body Bd
  have e0 : s₁.heap = h0 := by rw [← hh, Bd.state]; rfl
  have N0 := Fr.nil n0
  have O := O0
  have K := Keep.refl h0 []
  have pre0 : ∀ t, Steps p.tables e below (s₁.setTop (mkF m 0 #[.val (.int q)] [])) t → Steps p.tables e below (s₁.setTop (entryFrame m #[(.int q)] 1)) t := fun t k => castTop (ef_6 m q) k
  have w1 : ∀ t, Steps p.tables e below (s₁.setTop (mkF m 3 #[.val (.int q)] [(.int (-128 : Int32)), (.int q)])) t → Steps p.tables e below (s₁.setTop (entryFrame m #[(.int q)] 1)) t := fun t k => by
    refine pre0 t ?_
    refine XS.iloadN X0.here hx rfl (hb hby d6_0) rfl ?_
    show Steps p.tables e below (s₁.setTop (mkF m 1 #[.val (.int q)] [(.int q)])) _
    refine XS.bipush X0.here hx rfl (hb hby d6_1) ?_
    show Steps p.tables e below (s₁.setTop (mkF m 3 #[.val (.int q)] [(.int (-128 : Int32)), (.int q)])) _
    exact k
  by_cases hc3_2 : q < (-128 : Int32)
  · obtain ⟨T3, h3, X3, e3, E3, A3, D3, -, st3⟩ := newO X0 hx hZ hown (hw _ (List.mem_of_getElem? (i := 243) rfl)) (hw _ (List.mem_of_getElem? (i := 273) rfl)) (hw _ (List.mem_of_getElem? (i := 32) rfl)) e0 (g := (mkF m 23 #[.val (.int q)] [])) rfl (hb hby d6_23) (by decide) (by decide)
    obtain ⟨b3, gq3⟩ : ∃ z, z = Array.size h0 := ⟨_, rfl⟩
    rw [← gq3] at A3 D3 st3
    have g_b3 : n0 ≤ b3 := Nat.le_trans (O.1 ▸ O.2.1) (Nat.le_of_eq gq3.symm)
    have z_b3 : h0.size ≤ b3 := Nat.le_trans K.1 (Nat.le_of_eq gq3.symm)
    have O := O.ext E3
    have K := K.ext E3
    have F_value_b3 : Fld Z h3 b3 "java/lang/Integer" "value" "I" (.int (0 : Int32)) := D3 (Or.inr (hw _ (List.mem_of_getElem? (i := 123) rfl))) (ty := .int) (by decide)
    obtain ⟨_, _, ⟨T4, L4, k4, n4⟩, -, X4, ⟨Lc4, hQ4, l4, y4, z4⟩, st4⟩ := X3.specialBack hx (y := (⟨"java/lang/Integer", "<init>", "(I)V"⟩ : MethodName)) rfl hown (mvT hZ (hw _ (List.mem_of_getElem? (i := 274) rfl))) (mvT hZ (hw _ (List.mem_of_getElem? (i := 275) rfl))) (mvT hZ (hw _ (List.mem_of_getElem? (i := 276) rfl))) (by decide) (backOf (W := 1) (rm38 l Z a0 hw [] b3 q h3 n0 O A3 F_value_b3 g_b3) hZ (hw _ (List.mem_of_getElem? (i := 276) rfl)) (hw _ (List.mem_of_getElem? (i := 32) rfl)) (by decide) (by decide)) (g := (mkF m 28 #[.val (.int q)] [(.int q), (.ref b3), (.ref b3)])) rfl (by rw [hml]; rfl) (Steps.refl _) (a := b3) (argsL := [(.int q)]) (rest := [(.ref b3)]) (lenOf pd__40I_41V rfl) rfl (by show 2 * 0 + _ ≤ _; exact Nat.le_of_eq rfl) (hb hby d6_28) (fun _ _ => ⟨rfl, e3, (by decide : 1 + 0 ≤ _), (by decide : 1 + 0 ≤ _)⟩)
    dsimp only [Pt.U, Pt.locs, Pt.cells, Pt.slots] at X4 l4 y4 z4 st4 hQ4
    subst l4 y4 z4
    obtain ⟨rfl, N4q, K4, F_v_a_c4⟩ := hQ4
    have N4 := Fr.app N0 N4q
    have A3 := A3.keep K4
    have O := O.keep K4 (allS g_b3 all0)
    have K := K.trans K4 (allS (Or.inr z_b3) all0)
    have w5 : ∀ t, Steps p.tables e below (T4.setTop (mkF m 31 #[.val (.int q)] [(.ref b3)])) t → Steps p.tables e below (s₁.setTop (entryFrame m #[(.int q)] 1)) t := fun t k => by
      refine w1 t ?_
      refine XS.icmpYes X0.here hx rfl (pc0 := 3) (pc' := 23) rfl (hb hby d6_3) rfl (tlt hc3_2).1 (by decide) (by decide) ?_
      show Steps p.tables e below (s₁.setTop (mkF m 23 #[.val (.int q)] [])) _
      refine st3 _ ?_
      show Steps p.tables e below (T3.setTop (mkF m 26 #[.val (.int q)] [(.ref b3)])) _
      refine XS.dup X3.here hx rfl (hb hby d6_26) rfl rfl ?_
      show Steps p.tables e below (T3.setTop (mkF m 27 #[.val (.int q)] [(.ref b3), (.ref b3)])) _
      refine XS.iloadN X3.here hx rfl (hb hby d6_27) rfl ?_
      show Steps p.tables e below (T3.setTop (mkF m 28 #[.val (.int q)] [(.int q), (.ref b3), (.ref b3)])) _
      refine st4.trans ?_
      show Steps p.tables e below (T4.setTop (mkF m 31 #[.val (.int q)] [(.ref b3)])) _
      exact k
    obtain ⟨fs, hr, hrun, hended, hW, hsame⟩ := X4.leave (v := some (.ref b3)) (fun h => by rw [Bd.returns] at h; cases h)
    refine ⟨_, _, w5 _ ?_, hrun, hended, _, _, rfl, ?_, ⟨_, rfl⟩, hW, hsame.mono (by decide) (by decide)⟩
    · jvm_step X4.here [X4.here.top, hx, (hb hby d6_31), X4.method', Bd.returns, Value.isRef, FieldType.isReference]
      first | (intro acts; rw [hr _ acts rfl rfl rfl]) | rw [hr _ _ rfl rfl rfl]
      exact Steps.refl _
    · show Q6 Z q cl_s_cacheI s_cacheI h0 n0 _ T4.heap _
      exact ⟨b3, rfl, N4, K, A3, F_v_a_c4⟩
  · obtain ⟨T6, X6, e6, st6⟩ := getS2 X0 hx hZ hown (host := "") (Or.inl (hw _ (List.mem_of_getElem? (i := 34) rfl))) Via.refl e0 (S_high.ext O.2) (g := (mkF m 7 #[.val (.int q)] [(.int q)])) rfl (hb hby d6_7)
    have w7 : ∀ t, Steps p.tables e below (T6.setTop (mkF m 10 #[.val (.int q)] [(.int (127 : Int32)), (.int q)])) t → Steps p.tables e below (s₁.setTop (entryFrame m #[(.int q)] 1)) t := fun t k => by
      refine w1 t ?_
      refine XS.icmpNo X0.here hx rfl (hb hby d6_3) rfl (flt hc3_2).1 ?_
      show Steps p.tables e below (s₁.setTop (mkF m 6 #[.val (.int q)] [])) _
      refine XS.iloadN X0.here hx rfl (hb hby d6_6) rfl ?_
      show Steps p.tables e below (s₁.setTop (mkF m 7 #[.val (.int q)] [(.int q)])) _
      refine st6 _ ?_
      show Steps p.tables e below (T6.setTop (mkF m 10 #[.val (.int q)] [(.int (127 : Int32)), (.int q)])) _
      exact k
    by_cases hc10_8 : (127 : Int32) < q
    · obtain ⟨T9, h9, X9, e9, E9, A9, D9, -, st9⟩ := newO X6 hx hZ hown (hw _ (List.mem_of_getElem? (i := 243) rfl)) (hw _ (List.mem_of_getElem? (i := 273) rfl)) (hw _ (List.mem_of_getElem? (i := 32) rfl)) e6 (g := (mkF m 23 #[.val (.int q)] [])) rfl (hb hby d6_23) (by decide) (by decide)
      obtain ⟨b9, gq9⟩ : ∃ z, z = Array.size h0 := ⟨_, rfl⟩
      rw [← gq9] at A9 D9 st9
      have g_b9 : n0 ≤ b9 := Nat.le_trans (O.1 ▸ O.2.1) (Nat.le_of_eq gq9.symm)
      have z_b9 : h0.size ≤ b9 := Nat.le_trans K.1 (Nat.le_of_eq gq9.symm)
      have O := O.ext E9
      have K := K.ext E9
      have F_value_b9 : Fld Z h9 b9 "java/lang/Integer" "value" "I" (.int (0 : Int32)) := D9 (Or.inr (hw _ (List.mem_of_getElem? (i := 123) rfl))) (ty := .int) (by decide)
      obtain ⟨_, _, ⟨T10, L10, k10, n10⟩, -, X10, ⟨Lc10, hQ10, l10, y10, z10⟩, st10⟩ := X9.specialBack hx (y := (⟨"java/lang/Integer", "<init>", "(I)V"⟩ : MethodName)) rfl hown (mvT hZ (hw _ (List.mem_of_getElem? (i := 274) rfl))) (mvT hZ (hw _ (List.mem_of_getElem? (i := 275) rfl))) (mvT hZ (hw _ (List.mem_of_getElem? (i := 276) rfl))) (by decide) (backOf (W := 1) (rm38 l Z a0 hw [] b9 q h9 n0 O A9 F_value_b9 g_b9) hZ (hw _ (List.mem_of_getElem? (i := 276) rfl)) (hw _ (List.mem_of_getElem? (i := 32) rfl)) (by decide) (by decide)) (g := (mkF m 28 #[.val (.int q)] [(.int q), (.ref b9), (.ref b9)])) rfl (by rw [hml]; rfl) (Steps.refl _) (a := b9) (argsL := [(.int q)]) (rest := [(.ref b9)]) (lenOf pd__40I_41V rfl) rfl (by show 2 * 0 + _ ≤ _; exact Nat.le_of_eq rfl) (hb hby d6_28) (fun _ _ => ⟨rfl, e9, (by decide : 1 + 0 ≤ _), (by decide : 1 + 0 ≤ _)⟩)
      dsimp only [Pt.U, Pt.locs, Pt.cells, Pt.slots] at X10 l10 y10 z10 st10 hQ10
      subst l10 y10 z10
      obtain ⟨rfl, N10q, K10, F_v_a_c10⟩ := hQ10
      have N10 := Fr.app N0 N10q
      have A9 := A9.keep K10
      have O := O.keep K10 (allS g_b9 all0)
      have K := K.trans K10 (allS (Or.inr z_b9) all0)
      have w11 : ∀ t, Steps p.tables e below (T10.setTop (mkF m 31 #[.val (.int q)] [(.ref b9)])) t → Steps p.tables e below (s₁.setTop (entryFrame m #[(.int q)] 1)) t := fun t k => by
        refine w7 t ?_
        refine XS.icmpYes X6.here hx rfl (pc0 := 10) (pc' := 23) rfl (hb hby d6_10) rfl (tlt hc10_8).2.2.1 (by decide) (by decide) ?_
        show Steps p.tables e below (T6.setTop (mkF m 23 #[.val (.int q)] [])) _
        refine st9 _ ?_
        show Steps p.tables e below (T9.setTop (mkF m 26 #[.val (.int q)] [(.ref b9)])) _
        refine XS.dup X9.here hx rfl (hb hby d6_26) rfl rfl ?_
        show Steps p.tables e below (T9.setTop (mkF m 27 #[.val (.int q)] [(.ref b9), (.ref b9)])) _
        refine XS.iloadN X9.here hx rfl (hb hby d6_27) rfl ?_
        show Steps p.tables e below (T9.setTop (mkF m 28 #[.val (.int q)] [(.int q), (.ref b9), (.ref b9)])) _
        refine st10.trans ?_
        show Steps p.tables e below (T10.setTop (mkF m 31 #[.val (.int q)] [(.ref b9)])) _
        exact k
      obtain ⟨fs, hr, hrun, hended, hW, hsame⟩ := X10.leave (v := some (.ref b9)) (fun h => by rw [Bd.returns] at h; cases h)
      refine ⟨_, _, w11 _ ?_, hrun, hended, _, _, rfl, ?_, ⟨_, rfl⟩, hW, hsame.mono (by decide) (by decide)⟩
      · jvm_step X10.here [X10.here.top, hx, (hb hby d6_31), X10.method', Bd.returns, Value.isRef, FieldType.isReference]
        first | (intro acts; rw [hr _ acts rfl rfl rfl]) | rw [hr _ _ rfl rfl rfl]
        exact Steps.refl _
      · show Q6 Z q cl_s_cacheI s_cacheI h0 n0 _ T10.heap _
        exact ⟨b9, rfl, N10, K, A9, F_v_a_c10⟩
    · obtain ⟨T12, X12, e12, st12⟩ := getS2 X6 hx hZ hown (host := "") (Or.inl (hw _ (List.mem_of_getElem? (i := 36) rfl))) Via.refl e6 (S_s_cacheI.ext O.2) (g := (mkF m 13 #[.val (.int q)] [])) rfl (hb hby d6_13)
      have hin13 : ¬ ((q + (128 : Int32)) < 0 ∨ cl_s_cacheI.slots.size ≤ ((q + (128 : Int32))).toNatClampNeg) := by rw [BI.2.1]; exact own_ixI hc3_2 hc10_8
      obtain ⟨r13, hat13, ER13, FR13⟩ := BI.2.2.2 (q + (128 : Int32)) hin13
      have Ar13 := (BI.ext O.2).1
      have ER13 := ER13.ext O.2
      have w14 : ∀ t, Steps p.tables e below (T12.setTop (mkF m 22 #[.val (.int q)] [(.ref r13)])) t → Steps p.tables e below (s₁.setTop (entryFrame m #[(.int q)] 1)) t := fun t k => by
        refine w7 t ?_
        refine XS.icmpNo X6.here hx rfl (hb hby d6_10) rfl (flt hc10_8).2.2.1 ?_
        show Steps p.tables e below (T6.setTop (mkF m 13 #[.val (.int q)] [])) _
        refine st12 _ ?_
        show Steps p.tables e below (T12.setTop (mkF m 16 #[.val (.int q)] [(.ref s_cacheI)])) _
        refine XS.iloadN X12.here hx rfl (hb hby d6_16) rfl ?_
        show Steps p.tables e below (T12.setTop (mkF m 17 #[.val (.int q)] [(.int q), (.ref s_cacheI)])) _
        refine XS.sipush X12.here hx rfl (hb hby d6_17) ?_
        show Steps p.tables e below (T12.setTop (mkF m 20 #[.val (.int q)] [(.int (128 : Int32)), (.int q), (.ref s_cacheI)])) _
        refine XS.iadd X12.here hx rfl (hb hby d6_20) rfl ?_
        show Steps p.tables e below (T12.setTop (mkF m 21 #[.val (.int q)] [(.int (q + (128 : Int32))), (.ref s_cacheI)])) _
        refine X12.aaload hx (j := (q + (128 : Int32))) (v := (.ref r13)) (by rw [e12]; exact Ar13.1) (State.isArrayOf_alike hZ.alike Ar13.2.1) rfl Ar13.2.2 hin13 hat13 (g := (mkF m 21 #[.val (.int q)] [(.int (q + (128 : Int32))), (.ref s_cacheI)])) rfl rfl (hb hby d6_21) _ ?_
        show Steps p.tables e below (T12.setTop (mkF m 22 #[.val (.int q)] [(.ref r13)])) _
        exact k
      obtain ⟨fs, hr, hrun, hended, hW, hsame⟩ := X12.leave (v := some (.ref r13)) (fun h => by rw [Bd.returns] at h; cases h)
      refine ⟨_, _, w14 _ ?_, hrun, hended, _, _, rfl, ?_, ⟨_, rfl⟩, hW, hsame.mono (by decide) (by decide)⟩
      · jvm_step X12.here [X12.here.top, hx, (hb hby d6_22), X12.method', Bd.returns, Value.isRef, FieldType.isReference]
        first | (intro acts; rw [hr _ acts rfl rfl rfl]) | rw [hr _ _ rfl rfl rfl]
        exact Steps.refl _
      · show Q6 Z q cl_s_cacheI s_cacheI h0 n0 _ T12.heap _
        rw [e12]
        exact ⟨r13, rfl, N0, K, ER13, (by have q := FR13.ext O.2; rw [own_v] at q; exact q)⟩
theorem d1_0 : decode prog_69_method_2_code 0 = .ok (.iload_n 0, 1) := by decide +kernel
theorem d1_1 : decode prog_69_method_2_code 1 = .ok (.bipush 6, 2) := by decide +kernel
theorem d1_3 : decode prog_69_method_2_code 3 = .ok (.if_icmp .eq 8, 3) := by decide +kernel
theorem d1_11 : decode prog_69_method_2_code 11 = .ok (.iconst 2, 1) := by decide +kernel
theorem d1_12 : decode prog_69_method_2_code 12 = .ok (.goto 4, 3) := by decide +kernel
theorem d1_16 : decode prog_69_method_2_code 16 = .ok (.ireturn, 1) := by decide +kernel
theorem d1_6 : decode prog_69_method_2_code 6 = .ok (.iload_n 0, 1) := by decide +kernel
theorem d1_7 : decode prog_69_method_2_code 7 = .ok (.iconst 1, 1) := by decide +kernel
theorem d1_8 : decode prog_69_method_2_code 8 = .ok (.if_icmp .ne 7, 3) := by decide +kernel
theorem d1_15 : decode prog_69_method_2_code 15 = .ok (.iconst 1, 1) := by decide +kernel
theorem pn_com_example_hantei_hantei_packs_plandice_PlanDiceCheck : plainName "com/example/hantei/hantei/packs/plandice/PlanDiceCheck" = true := by first | (simp [plainName, overriddenIn]; done) | decide +kernel
theorem ef_1 (m : MethodId) (x0 : Int32) : entryFrame m #[(.int x0)] 1 = mkF m 0 #[.val (.int x0)] [] := by first | (simp [entryFrame, mkF, argsToLocals, Value.category]; done) | rfl
def Q1 (Z : State) (i : Int32) (h0 : Heap) (n0 : Nat) (v : Option Value) (h : Heap) (L : List Loc) : Prop := v = some (.int (own_dice i)) ∧ Fr n0 L ∧ h = h0
set_option maxRecDepth 65536 in
set_option maxHeartbeats 40000000 in
theorem rm1 (l : Launch) (Z : State) (a0 : Array Value) (hw : ∀ d ∈ tables_1, d.before a0 Z = true) (ws : List Jvm.Cond) (i : Int32) (h0 : Heap) (n0 : Nat) (O0 : Old Z n0 h0) :
    MetFree l (⟨"com/example/hantei/hantei/packs/plandice/PlanDiceCheck", "dice", "(I)I"⟩ : MethodName) (head1 (Jvm.Cond.code (⟨"com/example/hantei/hantei/packs/plandice/PlanDiceCheck", "dice", "(I)I"⟩ : MethodName) prog_69_method_2_code 1 (some .int) :: ws) ({ frames := 0, cells := 0, slots := 0, locals := 0 } : Room)) (fun aA uU => aA = #[(.int i)] ∧ Z.Warmed39 uU.vm ∧ uU.heap = h0) (fun _ _ _ _ _ => True) (fun _ uU oO uU' => ∃ vV lL, oO = .returned vV ∧ Q1 Z i  h0 n0 vV uU'.heap lL ∧ FrameEnd uU oO uU' lL ({ frames := 0, cells := 0, slots := 0, locals := 0 } : Room).cells ({ frames := 0, cells := 0, slots := 0, locals := 0 } : Room).slots) := by
  refine MetFree.of_bodySF (plainFor_of_name pn_com_example_hantei_hantei_packs_plandice_PlanDiceCheck) hisR ?_
  intro p e s m args below meth c s₁ Bd hml0 hP hK
  obtain ⟨rfl, hZ, hh⟩ := hP
  have hx := Bd.exec
  have hby := Bd.bytes
  have hml : c.maxLocals = 1 := hml0
  have hown : s.vm.findClass "com/example/hantei/hantei/packs/plandice/PlanDiceCheck" = some m.cls := findClass_of_methodNamed Bd.named
  have hnm := (name_of_methodNamed Bd.named Bd.method).1
  have X0 : Stand p l e ({ frames := 0, cells := 0, slots := 0, locals := 0 } : Room) s m #[(.int i)] below meth c s₁ [] 0 0 := Stand.of_body Bd
  have e0 : s₁.heap = h0 := by rw [← hh, Bd.state]; rfl
  have N0 := Fr.nil n0
  have O := O0
  have pre0 : ∀ t, Steps p.tables e below (s₁.setTop (mkF m 0 #[.val (.int i)] [])) t → Steps p.tables e below (s₁.setTop (entryFrame m #[(.int i)] 1)) t := fun t k => castTop (ef_1 m i) k
  have w1 : ∀ t, Steps p.tables e below (s₁.setTop (mkF m 3 #[.val (.int i)] [(.int (6 : Int32)), (.int i)])) t → Steps p.tables e below (s₁.setTop (entryFrame m #[(.int i)] 1)) t := fun t k => by
    refine pre0 t ?_
    refine XS.iloadN X0.here hx rfl (hb hby d1_0) rfl ?_
    show Steps p.tables e below (s₁.setTop (mkF m 1 #[.val (.int i)] [(.int i)])) _
    refine XS.bipush X0.here hx rfl (hb hby d1_1) ?_
    show Steps p.tables e below (s₁.setTop (mkF m 3 #[.val (.int i)] [(.int (6 : Int32)), (.int i)])) _
    exact k
  by_cases hc3_2 : i = (6 : Int32)
  · have w3 : ∀ t, Steps p.tables e below (s₁.setTop (mkF m 16 #[.val (.int i)] [(.int (2 : Int32))])) t → Steps p.tables e below (s₁.setTop (entryFrame m #[(.int i)] 1)) t := fun t k => by
      refine w1 t ?_
      refine XS.icmpYes X0.here hx rfl (pc0 := 3) (pc' := 11) rfl (hb hby d1_3) rfl (teq hc3_2).1 (by decide) (by decide) ?_
      show Steps p.tables e below (s₁.setTop (mkF m 11 #[.val (.int i)] [])) _
      refine XS.iconst X0.here hx rfl (hb hby d1_11) ?_
      show Steps p.tables e below (s₁.setTop (mkF m 12 #[.val (.int i)] [(.int (2 : Int32))])) _
      refine XS.goto X0.here hx rfl (pc0 := 12) (pc' := 16) rfl (hb hby d1_12) (by decide) (by decide) ?_
      show Steps p.tables e below (s₁.setTop (mkF m 16 #[.val (.int i)] [(.int (2 : Int32))])) _
      exact k
    obtain ⟨fs, hr, hrun, hended, hW, hsame⟩ := X0.leave (v := some (.int (2 : Int32))) (fun h => by rw [Bd.returns] at h; cases h)
    refine ⟨_, _, w3 _ ?_, hrun, hended, _, _, rfl, ?_, ⟨_, rfl⟩, hW, hsame.mono (by decide) (by decide)⟩
    · exact retI X0 hx Bd.returns (hb hby d1_16) hr
    · show Q1 Z i  h0 n0 _ s₁.heap _
      rw [e0]
      exact ⟨(by simp [own_dice, hc3_2]), N0, rfl⟩
  · have w4 : ∀ t, Steps p.tables e below (s₁.setTop (mkF m 8 #[.val (.int i)] [(.int (1 : Int32)), (.int i)])) t → Steps p.tables e below (s₁.setTop (entryFrame m #[(.int i)] 1)) t := fun t k => by
      refine w1 t ?_
      refine XS.icmpNo X0.here hx rfl (hb hby d1_3) rfl (feq hc3_2).1 ?_
      show Steps p.tables e below (s₁.setTop (mkF m 6 #[.val (.int i)] [])) _
      refine XS.iloadN X0.here hx rfl (hb hby d1_6) rfl ?_
      show Steps p.tables e below (s₁.setTop (mkF m 7 #[.val (.int i)] [(.int i)])) _
      refine XS.iconst X0.here hx rfl (hb hby d1_7) ?_
      show Steps p.tables e below (s₁.setTop (mkF m 8 #[.val (.int i)] [(.int (1 : Int32)), (.int i)])) _
      exact k
    by_cases hc8_5 : i = (1 : Int32)
    · have w6 : ∀ t, Steps p.tables e below (s₁.setTop (mkF m 16 #[.val (.int i)] [(.int (2 : Int32))])) t → Steps p.tables e below (s₁.setTop (entryFrame m #[(.int i)] 1)) t := fun t k => by
        refine w4 t ?_
        refine XS.icmpNo X0.here hx rfl (hb hby d1_8) rfl (teq hc8_5).2 ?_
        show Steps p.tables e below (s₁.setTop (mkF m 11 #[.val (.int i)] [])) _
        refine XS.iconst X0.here hx rfl (hb hby d1_11) ?_
        show Steps p.tables e below (s₁.setTop (mkF m 12 #[.val (.int i)] [(.int (2 : Int32))])) _
        refine XS.goto X0.here hx rfl (pc0 := 12) (pc' := 16) rfl (hb hby d1_12) (by decide) (by decide) ?_
        show Steps p.tables e below (s₁.setTop (mkF m 16 #[.val (.int i)] [(.int (2 : Int32))])) _
        exact k
      obtain ⟨fs, hr, hrun, hended, hW, hsame⟩ := X0.leave (v := some (.int (2 : Int32))) (fun h => by rw [Bd.returns] at h; cases h)
      refine ⟨_, _, w6 _ ?_, hrun, hended, _, _, rfl, ?_, ⟨_, rfl⟩, hW, hsame.mono (by decide) (by decide)⟩
      · exact retI X0 hx Bd.returns (hb hby d1_16) hr
      · show Q1 Z i  h0 n0 _ s₁.heap _
        rw [e0]
        exact ⟨(by simp [own_dice, hc3_2, hc8_5]), N0, rfl⟩
    · have w7 : ∀ t, Steps p.tables e below (s₁.setTop (mkF m 16 #[.val (.int i)] [(.int (1 : Int32))])) t → Steps p.tables e below (s₁.setTop (entryFrame m #[(.int i)] 1)) t := fun t k => by
        refine w4 t ?_
        refine XS.icmpYes X0.here hx rfl (pc0 := 8) (pc' := 15) rfl (hb hby d1_8) rfl (feq hc8_5).2 (by decide) (by decide) ?_
        show Steps p.tables e below (s₁.setTop (mkF m 15 #[.val (.int i)] [])) _
        refine XS.iconst X0.here hx rfl (hb hby d1_15) ?_
        show Steps p.tables e below (s₁.setTop (mkF m 16 #[.val (.int i)] [(.int (1 : Int32))])) _
        exact k
      obtain ⟨fs, hr, hrun, hended, hW, hsame⟩ := X0.leave (v := some (.int (1 : Int32))) (fun h => by rw [Bd.returns] at h; cases h)
      refine ⟨_, _, w7 _ ?_, hrun, hended, _, _, rfl, ?_, ⟨_, rfl⟩, hW, hsame.mono (by decide) (by decide)⟩
      · exact retI X0 hx Bd.returns (hb hby d1_16) hr
      · show Q1 Z i  h0 n0 _ s₁.heap _
        rw [e0]
        exact ⟨(by simp [own_dice, hc3_2, hc8_5]), N0, rfl⟩
theorem d11_0 : decode jdk_29_method_65_code 0 = .ok (.iload_n 0, 1) := by decide +kernel
theorem d11_1 : decode jdk_29_method_65_code 1 = .ok (.iload_n 1, 1) := by decide +kernel
theorem d11_2 : decode jdk_29_method_65_code 2 = .ok (.if_icmp .lt 7, 3) := by decide +kernel
theorem d11_5 : decode jdk_29_method_65_code 5 = .ok (.iload_n 0, 1) := by decide +kernel
theorem d11_6 : decode jdk_29_method_65_code 6 = .ok (.goto 4, 3) := by decide +kernel
theorem d11_10 : decode jdk_29_method_65_code 10 = .ok (.ireturn, 1) := by decide +kernel
theorem ef_11 (m : MethodId) : entryFrame m #[(.int (10 : Int32)), (.int (1 : Int32))] 2 = mkF m 0 #[.val (.int (10 : Int32)), .val (.int (1 : Int32))] [] := by first | (simp [entryFrame, mkF, argsToLocals, Value.category]; done) | rfl
def Q11 (Z : State) (h0 : Heap) (n0 : Nat) (v : Option Value) (h : Heap) (L : List Loc) : Prop := v = some (.int (10 : Int32)) ∧ Fr n0 L ∧ h = h0
set_option maxRecDepth 65536 in
set_option maxHeartbeats 40000000 in
theorem rm11 (l : Launch) (Z : State) (a0 : Array Value) (hw : ∀ d ∈ tables_1, d.before a0 Z = true) (ws : List Jvm.Cond) (h0 : Heap) (n0 : Nat) (O0 : Old Z n0 h0) :
    MetFree l (⟨"java/lang/Math", "max", "(II)I"⟩ : MethodName) (head1 (Jvm.Cond.code (⟨"java/lang/Math", "max", "(II)I"⟩ : MethodName) jdk_29_method_65_code 2 (some .int) :: ws) ({ frames := 0, cells := 0, slots := 0, locals := 0 } : Room)) (fun aA uU => aA = #[(.int (10 : Int32)), (.int (1 : Int32))] ∧ Z.Warmed39 uU.vm ∧ uU.heap = h0) (fun _ _ _ _ _ => True) (fun _ uU oO uU' => ∃ vV lL, oO = .returned vV ∧ Q11 Z   h0 n0 vV uU'.heap lL ∧ FrameEnd uU oO uU' lL ({ frames := 0, cells := 0, slots := 0, locals := 0 } : Room).cells ({ frames := 0, cells := 0, slots := 0, locals := 0 } : Room).slots) := by
  refine MetFree.of_bodySF (Jvm.Free.JP.mathPlain rfl (by decide +kernel)) hisR ?_
  intro p e s m args below meth c s₁ Bd hml0 hP hK
  obtain ⟨rfl, hZ, hh⟩ := hP
  have hx := Bd.exec
  have hby := Bd.bytes
  have hml : c.maxLocals = 2 := hml0
  have hown : s.vm.findClass "java/lang/Math" = some m.cls := findClass_of_methodNamed Bd.named
  have hnm := (name_of_methodNamed Bd.named Bd.method).1
  have X0 : Stand p l e ({ frames := 0, cells := 0, slots := 0, locals := 0 } : Room) s m #[(.int (10 : Int32)), (.int (1 : Int32))] below meth c s₁ [] 0 0 := Stand.of_body Bd
  have e0 : s₁.heap = h0 := by rw [← hh, Bd.state]; rfl
  have N0 := Fr.nil n0
  have O := O0
  have pre0 : ∀ t, Steps p.tables e below (s₁.setTop (mkF m 0 #[.val (.int (10 : Int32)), .val (.int (1 : Int32))] [])) t → Steps p.tables e below (s₁.setTop (entryFrame m #[(.int (10 : Int32)), (.int (1 : Int32))] 2)) t := fun t k => castTop (ef_11 m ) k
  have w1 : ∀ t, Steps p.tables e below (s₁.setTop (mkF m 10 #[.val (.int (10 : Int32)), .val (.int (1 : Int32))] [(.int (10 : Int32))])) t → Steps p.tables e below (s₁.setTop (entryFrame m #[(.int (10 : Int32)), (.int (1 : Int32))] 2)) t := fun t k => by
    refine pre0 t ?_
    refine XS.iloadN X0.here hx rfl (hb hby d11_0) rfl ?_
    show Steps p.tables e below (s₁.setTop (mkF m 1 #[.val (.int (10 : Int32)), .val (.int (1 : Int32))] [(.int (10 : Int32))])) _
    refine XS.iloadN X0.here hx rfl (hb hby d11_1) rfl ?_
    show Steps p.tables e below (s₁.setTop (mkF m 2 #[.val (.int (10 : Int32)), .val (.int (1 : Int32))] [(.int (1 : Int32)), (.int (10 : Int32))])) _
    refine XS.icmpNo X0.here hx rfl (hb hby d11_2) rfl (flt ((by decide) : ¬ ((10 : Int32) < (1 : Int32)))).1 ?_
    show Steps p.tables e below (s₁.setTop (mkF m 5 #[.val (.int (10 : Int32)), .val (.int (1 : Int32))] [])) _
    refine XS.iloadN X0.here hx rfl (hb hby d11_5) rfl ?_
    show Steps p.tables e below (s₁.setTop (mkF m 6 #[.val (.int (10 : Int32)), .val (.int (1 : Int32))] [(.int (10 : Int32))])) _
    refine XS.goto X0.here hx rfl (pc0 := 6) (pc' := 10) rfl (hb hby d11_6) (by decide) (by decide) ?_
    show Steps p.tables e below (s₁.setTop (mkF m 10 #[.val (.int (10 : Int32)), .val (.int (1 : Int32))] [(.int (10 : Int32))])) _
    exact k
  obtain ⟨fs, hr, hrun, hended, hW, hsame⟩ := X0.leave (v := some (.int (10 : Int32))) (fun h => by rw [Bd.returns] at h; cases h)
  refine ⟨_, _, w1 _ ?_, hrun, hended, _, _, rfl, ?_, ⟨_, rfl⟩, hW, hsame.mono (by decide) (by decide)⟩
  · exact retI X0 hx Bd.returns (hb hby d11_10) hr
  · show Q11 Z   h0 n0 _ s₁.heap _
    rw [e0]
    exact ⟨rfl, N0, rfl⟩
theorem d10_0 : decode jdk_38_method_6_code 0 = .ok (.aload_n 0, 1) := by decide +kernel
theorem d10_1 : decode jdk_38_method_6_code 1 = .ok (.getfield 9, 3) := by decide +kernel
theorem d10_4 : decode jdk_38_method_6_code 4 = .ok (.arraylength, 1) := by decide +kernel
theorem d10_5 : decode jdk_38_method_6_code 5 = .ok (.istore_n 2, 1) := by decide +kernel
theorem d10_6 : decode jdk_38_method_6_code 6 = .ok (.iload_n 2, 1) := by decide +kernel
theorem d10_7 : decode jdk_38_method_6_code 7 = .ok (.ifCond .gt 13, 3) := by decide +kernel
theorem d10_10 : decode jdk_38_method_6_code 10 = .ok (.aload_n 0, 1) := by decide +kernel
theorem d10_11 : decode jdk_38_method_6_code 11 = .ok (.getfield 9, 3) := by decide +kernel
theorem d10_14 : decode jdk_38_method_6_code 14 = .ok (.getstatic 39, 3) := by decide +kernel
theorem d10_17 : decode jdk_38_method_6_code 17 = .ok (.if_acmp .eq 28, 3) := by decide +kernel
theorem d10_45 : decode jdk_38_method_6_code 45 = .ok (.aload_n 0, 1) := by decide +kernel
theorem d10_46 : decode jdk_38_method_6_code 46 = .ok (.bipush 10, 2) := by decide +kernel
theorem d10_48 : decode jdk_38_method_6_code 48 = .ok (.iload_n 1, 1) := by decide +kernel
theorem d10_49 : decode jdk_38_method_6_code 49 = .ok (.invokestatic 79, 3) := by decide +kernel
theorem pd__40II_41I : parseMethodDescriptor "(II)I" = some ⟨[.int, .int], some .int⟩ := by decide +kernel
theorem d10_52 : decode jdk_38_method_6_code 52 = .ok (.anewarray 7, 3) := by decide +kernel
theorem d10_55 : decode jdk_38_method_6_code 55 = .ok (.dup_x1, 1) := by decide +kernel
theorem d10_56 : decode jdk_38_method_6_code 56 = .ok (.putfield 9, 3) := by decide +kernel
theorem d10_59 : decode jdk_38_method_6_code 59 = .ok (.areturn, 1) := by decide +kernel
theorem ef_10 (m : MethodId) (x0 : Addr) : entryFrame m #[(.ref x0), (.int (1 : Int32))] 4 = mkF m 0 #[.val (.ref x0), .val (.int (1 : Int32)), .unset, .unset] [] := by first | (simp [entryFrame, mkF, argsToLocals, Value.category]; done) | rfl
def Q10 (Z : State) (a : Addr) (mc : Int32) (kd : ClassId) (s_DEF : Addr) (h0 : Heap) (n0 : Nat) (v : Option Value) (h : Heap) (L : List Loc) : Prop := ∃ z : Addr, ∃ kz : ClassId, v = some (.ref z) ∧ Fr n0 L ∧ Keep h0 h [a] ∧ Fld Z h a "java/util/AbstractList" "modCount" "I" (.int mc) ∧ Fld Z h a "java/util/ArrayList" "elementData" "[Ljava/lang/Object;" (.ref z) ∧ Fld Z h a "java/util/ArrayList" "size" "I" (.int (0 : Int32)) ∧ Arv Z h z kz (.object "java/lang/Object") (10 : Int32) [.null, .null, .null, .null, .null, .null, .null, .null, .null, .null] .null ∧ h0.size ≤ z ∧ n0 ≤ z ∧ Ovr Z kz "java/lang/Object"
set_option maxRecDepth 65536 in
set_option maxHeartbeats 40000000 in
theorem rm10 (l : Launch) (Z : State) (a0 : Array Value) (hw : ∀ d ∈ tables_1, d.before a0 Z = true) (ws : List Jvm.Cond) (a : Addr) (mc : Int32) (kd : ClassId) (s_DEF : Addr) (h0 : Heap) (n0 : Nat) (O0 : Old Z n0 h0) (S_s_DEF : Sta Z Z.heap "java/util/ArrayList" "DEFAULTCAPACITY_EMPTY_ELEMENTDATA" "[Ljava/lang/Object;" (.ref s_DEF)) (E_a : Exa Z h0 a "java/util/ArrayList") (F_m_a : Fld Z h0 a "java/util/AbstractList" "modCount" "I" (.int mc)) (F_e_a : Fld Z h0 a "java/util/ArrayList" "elementData" "[Ljava/lang/Object;" (.ref s_DEF)) (F_s_a : Fld Z h0 a "java/util/ArrayList" "size" "I" (.int (0 : Int32))) (V_DEF : Arv Z h0 s_DEF kd (.object "java/lang/Object") (0 : Int32) [] .null) (g_a : n0 ≤ a) :
    MetFree l (⟨"java/util/ArrayList", "grow", "(I)[Ljava/lang/Object;"⟩ : MethodName) (head1 (Jvm.Cond.code (⟨"java/util/ArrayList", "grow", "(I)[Ljava/lang/Object;"⟩ : MethodName) jdk_38_method_6_code 4 (some (.array (.object "java/lang/Object"))) :: ws) ({ frames := 1, cells := 1, slots := 10, locals := 14 } : Room)) (fun aA uU => aA = #[(.ref a), (.int (1 : Int32))] ∧ Z.Warmed39 uU.vm ∧ uU.heap = h0) (fun _ _ _ _ _ => True) (fun _ uU oO uU' => ∃ vV lL, oO = .returned vV ∧ Q10 Z a mc kd s_DEF h0 n0 vV uU'.heap lL ∧ FrameEnd uU oO uU' lL ({ frames := 1, cells := 1, slots := 10, locals := 14 } : Room).cells ({ frames := 1, cells := 1, slots := 10, locals := 14 } : Room).slots) := by
  refine MetFree.of_bodySF (plainFor_of_name pn_java_util_ArrayList) hisR ?_
  intro p e s m args below meth c s₁ Bd hml0 hP hK
  obtain ⟨rfl, hZ, hh⟩ := hP
  have hx := Bd.exec
  have hby := Bd.bytes
  have hml : c.maxLocals = 4 := hml0
  have hown : s.vm.findClass "java/util/ArrayList" = some m.cls := findClass_of_methodNamed Bd.named
  have hnm := (name_of_methodNamed Bd.named Bd.method).1
  have X0 : Stand p l e ({ frames := 1, cells := 1, slots := 10, locals := 14 } : Room) s m #[(.ref a), (.int (1 : Int32))] below meth c s₁ [] 0 0 := Stand.of_body Bd
  have e0 : s₁.heap = h0 := by rw [← hh, Bd.state]; rfl
  have N0 := Fr.nil n0
  have O := O0
  have K := Keep.refl h0 [a]
  have pre0 : ∀ t, Steps p.tables e below (s₁.setTop (mkF m 0 #[.val (.ref a), .val (.int (1 : Int32)), .unset, .unset] [])) t → Steps p.tables e below (s₁.setTop (entryFrame m #[(.ref a), (.int (1 : Int32))] 4)) t := fun t k => castTop (ef_10 m a) k
  obtain ⟨T1, X1, e1, st1⟩ := getF X0 hx hZ hown (host := "") (Or.inl (hw _ (List.mem_of_getElem? (i := 28) rfl))) Via.refl e0 F_e_a (g := (mkF m 1 #[.val (.ref a), .val (.int (1 : Int32)), .unset, .unset] [(.ref a)])) rfl rfl (hb hby d10_1)
  obtain ⟨cl2, Ar2, -, Z2, N2, -, -⟩ := id V_DEF
  obtain ⟨T3, X3, e3, st3⟩ := getF X1 hx hZ hown (host := "") (Or.inl (hw _ (List.mem_of_getElem? (i := 28) rfl))) Via.refl e1 F_e_a (g := (mkF m 11 #[.val (.ref a), .val (.int (1 : Int32)), .val (.int (0 : Int32)), .unset] [(.ref a)])) rfl rfl (hb hby d10_11)
  obtain ⟨T4, X4, e4, st4⟩ := getS2 X3 hx hZ hown (host := "") (Or.inl (hw _ (List.mem_of_getElem? (i := 27) rfl))) Via.refl e3 (S_s_DEF.ext O.2) (g := (mkF m 14 #[.val (.ref a), .val (.int (1 : Int32)), .val (.int (0 : Int32)), .unset] [(.ref s_DEF)])) rfl (hb hby d10_14)
  obtain ⟨_, _, ⟨T5, L5, k5, n5⟩, -, X5, ⟨Lc5, hQ5, l5, y5, z5⟩, st5⟩ := Jvm.LawKit.callS X4 hx (y := (⟨"java/lang/Math", "max", "(II)I"⟩ : MethodName)) hown (mvT hZ (hw _ (List.mem_of_getElem? (i := 61) rfl))) (mvT hZ (hw _ (List.mem_of_getElem? (i := 62) rfl))) (mvT hZ (hw _ (List.mem_of_getElem? (i := 63) rfl))) (mvT hZ (hw _ (List.mem_of_getElem? (i := 64) rfl))) (by decide) (backOf (W := 1) (rm11 l Z a0 hw []  h0 n0 O ) hZ (hw _ (List.mem_of_getElem? (i := 64) rfl)) (hw _ (List.mem_of_getElem? (i := 63) rfl)) (by decide) (by decide)) (g := (mkF m 49 #[.val (.ref a), .val (.int (1 : Int32)), .val (.int (0 : Int32)), .unset] [(.int (1 : Int32)), (.int (10 : Int32)), (.ref a)])) rfl (by rw [hml]; rfl) (argsL := [(.int (10 : Int32)), (.int (1 : Int32))]) (rest := [(.ref a)]) (lenOf pd__40II_41I rfl) rfl (by show 2 * 0 + _ ≤ _; exact Nat.le_of_eq rfl) (hb hby d10_49) (fun _ _ => ⟨rfl, e4, (by decide : 0 + 0 ≤ _), (by decide : 0 + 0 ≤ _)⟩)
  dsimp only [Pt.U, Pt.locs, Pt.cells, Pt.slots] at X5 l5 y5 z5 st5 hQ5
  subst l5 y5 z5
  obtain ⟨rfl, N5q, eh5⟩ := hQ5
  have N5 := Fr.app N0 N5q
  obtain ⟨T6, h6, k6, X6, e6, E6, A6, OV6, st6⟩ := newR X5 hx hZ hown (hw _ (List.mem_of_getElem? (i := 65) rfl)) (hw _ (List.mem_of_getElem? (i := 66) rfl)) eh5 (g := (mkF m 52 #[.val (.ref a), .val (.int (1 : Int32)), .val (.int (0 : Int32)), .unset] [(.int (10 : Int32)), (.ref a)])) rfl (hb hby d10_52) rfl (by decide) (cap := 10) (by decide) (by decide) (by decide) (by decide)
  obtain ⟨b6, gq6⟩ : ∃ z, z = Array.size h0 := ⟨_, rfl⟩
  rw [← gq6] at A6 st6
  have ne_a_b6 : a ≠ b6 := Nat.ne_of_lt (Nat.lt_of_lt_of_le E_a.lt (Nat.le_of_eq gq6.symm))
  have ne_s_DEF_b6 : s_DEF ≠ b6 := Nat.ne_of_lt (Nat.lt_of_lt_of_le V_DEF.lt (Nat.le_of_eq gq6.symm))
  have g_b6 : n0 ≤ b6 := Nat.le_trans (O.1 ▸ O.2.1) (Nat.le_of_eq gq6.symm)
  have z_b6 : h0.size ≤ b6 := Nat.le_trans K.1 (Nat.le_of_eq gq6.symm)
  have E_a := E_a.ext E6
  have F_m_a := F_m_a.ext E6
  have F_e_a := F_e_a.ext E6
  have F_s_a := F_s_a.ext E6
  have V_DEF := V_DEF.ext E6
  have O := O.ext E6
  have K := K.ext E6
  have V_b6 : Arv Z h6 b6 k6 (.object "java/lang/Object") (10 : Int32) [.null, .null, .null, .null, .null, .null, .null, .null, .null, .null] .null := (Arv.new A6 (by decide)).pad (pad_rep [] .null 10)
  have ne_s_DEF_a : s_DEF ≠ a := (Ne.symm (Exa.neArv E_a V_DEF (hw _ (List.mem_of_getElem? (i := 5) rfl))))
  obtain ⟨T7, h7, X7, e7, W7, st7⟩ := putF X6 hx hZ hown (host := "") (Or.inl (hw _ (List.mem_of_getElem? (i := 28) rfl))) Via.refl e6 F_e_a E_a (Or.inl (hw _ (List.mem_of_getElem? (i := 29) rfl))) (hw _ (List.mem_of_getElem? (i := 5) rfl)) (ty := (.array (.object "java/lang/Object"))) (by decide) rfl rfl (g := (mkF m 56 #[.val (.ref a), .val (.int (1 : Int32)), .val (.int (0 : Int32)), .unset] [(.ref b6), (.ref a), (.ref b6)])) rfl rfl (hb hby d10_56)
  have F_e_a := F_e_a.same W7
  have E_a := E_a.wr W7
  have F_m_a := F_m_a.other W7 (Or.inr (slot_ne (Or.inl (hw _ (List.mem_of_getElem? (i := 26) rfl))) (Or.inl (hw _ (List.mem_of_getElem? (i := 29) rfl))) (by decide) (t := .int) (t' := (.array (.object "java/lang/Object"))) (by decide) (by decide)))
  have F_s_a := F_s_a.other W7 (Or.inr (slot_ne (Or.inl (hw _ (List.mem_of_getElem? (i := 45) rfl))) (Or.inl (hw _ (List.mem_of_getElem? (i := 29) rfl))) (by decide) (t := .int) (t' := (.array (.object "java/lang/Object"))) (by decide) (by decide)))
  have V_DEF := V_DEF.other W7 ne_s_DEF_a
  have V_b6 := V_b6.other W7 (Ne.symm ne_a_b6)
  have O := O.wr W7 g_a
  have K := K.wr W7 (Or.inl (List.mem_of_getElem? (i := 0) rfl))
  have N7 := Fr.snoc X7 N5 g_a
  have w8 : ∀ t, Steps p.tables e below (T7.setTop (mkF m 59 #[.val (.ref a), .val (.int (1 : Int32)), .val (.int (0 : Int32)), .unset] [(.ref b6)])) t → Steps p.tables e below (s₁.setTop (entryFrame m #[(.ref a), (.int (1 : Int32))] 4)) t := fun t k => by
    refine pre0 t ?_
    refine XS.aloadN X0.here hx rfl (hb hby d10_0) rfl rfl ?_
    show Steps p.tables e below (s₁.setTop (mkF m 1 #[.val (.ref a), .val (.int (1 : Int32)), .unset, .unset] [(.ref a)])) _
    refine st1 _ ?_
    show Steps p.tables e below (T1.setTop (mkF m 4 #[.val (.ref a), .val (.int (1 : Int32)), .unset, .unset] [(.ref s_DEF)])) _
    refine X1.arraylength hx (by rw [e1]; exact Ar2.1) (State.isArrayOf_alike hZ.alike Ar2.2.1) (g := (mkF m 4 #[.val (.ref a), .val (.int (1 : Int32)), .unset, .unset] [(.ref s_DEF)])) rfl rfl (hb hby d10_4) _ ?_
    rw [len_of Z2 N2]
    show Steps p.tables e below (T1.setTop (mkF m 5 #[.val (.ref a), .val (.int (1 : Int32)), .unset, .unset] [(.int (0 : Int32))])) _
    refine XS.istoreN X1.here hx rfl (hb hby d10_5) rfl (l' := #[.val (.ref a), .val (.int (1 : Int32)), .val (.int (0 : Int32)), .unset]) rfl ?_
    show Steps p.tables e below (T1.setTop (mkF m 6 #[.val (.ref a), .val (.int (1 : Int32)), .val (.int (0 : Int32)), .unset] [])) _
    refine XS.iloadN X1.here hx rfl (hb hby d10_6) rfl ?_
    show Steps p.tables e below (T1.setTop (mkF m 7 #[.val (.ref a), .val (.int (1 : Int32)), .val (.int (0 : Int32)), .unset] [(.int (0 : Int32))])) _
    refine XS.ifNo X1.here hx rfl (hb hby d10_7) rfl ((if0 _ _).trans (flt ((by decide) : ¬ ((0 : Int32) < (0 : Int32)))).2.2.1) ?_
    show Steps p.tables e below (T1.setTop (mkF m 10 #[.val (.ref a), .val (.int (1 : Int32)), .val (.int (0 : Int32)), .unset] [])) _
    refine XS.aloadN X1.here hx rfl (hb hby d10_10) rfl rfl ?_
    show Steps p.tables e below (T1.setTop (mkF m 11 #[.val (.ref a), .val (.int (1 : Int32)), .val (.int (0 : Int32)), .unset] [(.ref a)])) _
    refine st3 _ ?_
    show Steps p.tables e below (T3.setTop (mkF m 14 #[.val (.ref a), .val (.int (1 : Int32)), .val (.int (0 : Int32)), .unset] [(.ref s_DEF)])) _
    refine st4 _ ?_
    show Steps p.tables e below (T4.setTop (mkF m 17 #[.val (.ref a), .val (.int (1 : Int32)), .val (.int (0 : Int32)), .unset] [(.ref s_DEF), (.ref s_DEF)])) _
    refine Jvm.RoadKit.acmp (g := (mkF m 17 #[.val (.ref a), .val (.int (1 : Int32)), .val (.int (0 : Int32)), .unset] [(.ref s_DEF), (.ref s_DEF)])) X4 hx rfl rfl rfl (pc0 := 17) (pc' := 45) (same := true) rfl (hb hby d10_17) rfl (decide_eq_true rfl) (by decide) (by decide) ?_
    show Steps p.tables e below (T4.setTop (mkF m 45 #[.val (.ref a), .val (.int (1 : Int32)), .val (.int (0 : Int32)), .unset] [])) _
    refine XS.aloadN X4.here hx rfl (hb hby d10_45) rfl rfl ?_
    show Steps p.tables e below (T4.setTop (mkF m 46 #[.val (.ref a), .val (.int (1 : Int32)), .val (.int (0 : Int32)), .unset] [(.ref a)])) _
    refine XS.bipush X4.here hx rfl (hb hby d10_46) ?_
    show Steps p.tables e below (T4.setTop (mkF m 48 #[.val (.ref a), .val (.int (1 : Int32)), .val (.int (0 : Int32)), .unset] [(.int (10 : Int32)), (.ref a)])) _
    refine XS.iloadN X4.here hx rfl (hb hby d10_48) rfl ?_
    show Steps p.tables e below (T4.setTop (mkF m 49 #[.val (.ref a), .val (.int (1 : Int32)), .val (.int (0 : Int32)), .unset] [(.int (1 : Int32)), (.int (10 : Int32)), (.ref a)])) _
    refine st5 _ ?_
    show Steps p.tables e below (T5.setTop (mkF m 52 #[.val (.ref a), .val (.int (1 : Int32)), .val (.int (0 : Int32)), .unset] [(.int (10 : Int32)), (.ref a)])) _
    refine st6 _ ?_
    show Steps p.tables e below (T6.setTop (mkF m 55 #[.val (.ref a), .val (.int (1 : Int32)), .val (.int (0 : Int32)), .unset] [(.ref b6), (.ref a)])) _
    refine XS.dupX1 X6.here hx rfl (hb hby d10_55) rfl rfl rfl ?_
    show Steps p.tables e below (T6.setTop (mkF m 56 #[.val (.ref a), .val (.int (1 : Int32)), .val (.int (0 : Int32)), .unset] [(.ref b6), (.ref a), (.ref b6)])) _
    refine st7 _ ?_
    show Steps p.tables e below (T7.setTop (mkF m 59 #[.val (.ref a), .val (.int (1 : Int32)), .val (.int (0 : Int32)), .unset] [(.ref b6)])) _
    exact k
  obtain ⟨fs, hr, hrun, hended, hW, hsame⟩ := X7.leave (v := some (.ref b6)) (fun h => by rw [Bd.returns] at h; cases h)
  refine ⟨_, _, w8 _ ?_, hrun, hended, _, _, rfl, ?_, ⟨_, rfl⟩, hW, hsame.mono (by decide) (by decide)⟩
  · jvm_step X7.here [X7.here.top, hx, (hb hby d10_59), X7.method', Bd.returns, Value.isRef, FieldType.isReference]
    first | (intro acts; rw [hr _ acts rfl rfl rfl]) | rw [hr _ _ rfl rfl rfl]
    exact Steps.refl _
  · show Q10 Z a mc kd s_DEF h0 n0 _ T7.heap _
    rw [e7]
    exact ⟨b6, k6, rfl, N7, K, F_m_a, F_e_a, F_s_a, V_b6, z_b6, g_b6, OV6⟩
theorem d9_0 : decode jdk_38_method_7_code 0 = .ok (.aload_n 0, 1) := by decide +kernel
theorem d9_1 : decode jdk_38_method_7_code 1 = .ok (.aload_n 0, 1) := by decide +kernel
theorem d9_2 : decode jdk_38_method_7_code 2 = .ok (.getfield 48, 3) := by decide +kernel
theorem d9_5 : decode jdk_38_method_7_code 5 = .ok (.iconst 1, 1) := by decide +kernel
theorem d9_6 : decode jdk_38_method_7_code 6 = .ok (.iadd, 1) := by decide +kernel
theorem d9_7 : decode jdk_38_method_7_code 7 = .ok (.invokevirtual 69, 3) := by decide +kernel
theorem pd__40I_41_91Ljava_47lang_47Object_59 : parseMethodDescriptor "(I)[Ljava/lang/Object;" = some ⟨[.int], some (.array (.object "java/lang/Object"))⟩ := by decide +kernel
theorem d9_10 : decode jdk_38_method_7_code 10 = .ok (.areturn, 1) := by decide +kernel
theorem ef_9 (m : MethodId) (x0 : Addr) : entryFrame m #[(.ref x0)] 1 = mkF m 0 #[.val (.ref x0)] [] := by first | (simp [entryFrame, mkF, argsToLocals, Value.category]; done) | rfl
def Q9 (Z : State) (a : Addr) (mc : Int32) (kd : ClassId) (s_DEF : Addr) (h0 : Heap) (n0 : Nat) (v : Option Value) (h : Heap) (L : List Loc) : Prop := ∃ z : Addr, ∃ kz : ClassId, v = some (.ref z) ∧ Fr n0 L ∧ Keep h0 h [a] ∧ Fld Z h a "java/util/AbstractList" "modCount" "I" (.int mc) ∧ Fld Z h a "java/util/ArrayList" "elementData" "[Ljava/lang/Object;" (.ref z) ∧ Fld Z h a "java/util/ArrayList" "size" "I" (.int (0 : Int32)) ∧ Arv Z h z kz (.object "java/lang/Object") (10 : Int32) [.null, .null, .null, .null, .null, .null, .null, .null, .null, .null] .null ∧ h0.size ≤ z ∧ n0 ≤ z ∧ Ovr Z kz "java/lang/Object"
set_option maxRecDepth 65536 in
set_option maxHeartbeats 40000000 in
theorem rm9 (l : Launch) (Z : State) (a0 : Array Value) (hw : ∀ d ∈ tables_1, d.before a0 Z = true) (ws : List Jvm.Cond) (a : Addr) (mc : Int32) (kd : ClassId) (s_DEF : Addr) (h0 : Heap) (n0 : Nat) (O0 : Old Z n0 h0) (S_s_DEF : Sta Z Z.heap "java/util/ArrayList" "DEFAULTCAPACITY_EMPTY_ELEMENTDATA" "[Ljava/lang/Object;" (.ref s_DEF)) (E_a : Exa Z h0 a "java/util/ArrayList") (F_m_a : Fld Z h0 a "java/util/AbstractList" "modCount" "I" (.int mc)) (F_e_a : Fld Z h0 a "java/util/ArrayList" "elementData" "[Ljava/lang/Object;" (.ref s_DEF)) (F_s_a : Fld Z h0 a "java/util/ArrayList" "size" "I" (.int (0 : Int32))) (V_DEF : Arv Z h0 s_DEF kd (.object "java/lang/Object") (0 : Int32) [] .null) (g_a : n0 ≤ a) :
    MetFree l (⟨"java/util/ArrayList", "grow", "()[Ljava/lang/Object;"⟩ : MethodName) (head1 (Jvm.Cond.code (⟨"java/util/ArrayList", "grow", "()[Ljava/lang/Object;"⟩ : MethodName) jdk_38_method_7_code 1 (some (.array (.object "java/lang/Object"))) :: ws) ({ frames := 2, cells := 1, slots := 10, locals := 29 } : Room)) (fun aA uU => aA = #[(.ref a)] ∧ Z.Warmed39 uU.vm ∧ uU.heap = h0) (fun _ _ _ _ _ => True) (fun _ uU oO uU' => ∃ vV lL, oO = .returned vV ∧ Q9 Z a mc kd s_DEF h0 n0 vV uU'.heap lL ∧ FrameEnd uU oO uU' lL ({ frames := 2, cells := 1, slots := 10, locals := 29 } : Room).cells ({ frames := 2, cells := 1, slots := 10, locals := 29 } : Room).slots) := by
  refine MetFree.of_bodySF (plainFor_of_name pn_java_util_ArrayList) hisR ?_
  intro p e s m args below meth c s₁ Bd hml0 hP hK
  obtain ⟨rfl, hZ, hh⟩ := hP
  have hx := Bd.exec
  have hby := Bd.bytes
  have hml : c.maxLocals = 1 := hml0
  have hown : s.vm.findClass "java/util/ArrayList" = some m.cls := findClass_of_methodNamed Bd.named
  have hnm := (name_of_methodNamed Bd.named Bd.method).1
  have X0 : Stand p l e ({ frames := 2, cells := 1, slots := 10, locals := 29 } : Room) s m #[(.ref a)] below meth c s₁ [] 0 0 := Stand.of_body Bd
  have e0 : s₁.heap = h0 := by rw [← hh, Bd.state]; rfl
  have N0 := Fr.nil n0
  have O := O0
  have K := Keep.refl h0 [a]
  have pre0 : ∀ t, Steps p.tables e below (s₁.setTop (mkF m 0 #[.val (.ref a)] [])) t → Steps p.tables e below (s₁.setTop (entryFrame m #[(.ref a)] 1)) t := fun t k => castTop (ef_9 m a) k
  obtain ⟨T1, X1, e1, st1⟩ := getF X0 hx hZ hown (host := "") (Or.inl (hw _ (List.mem_of_getElem? (i := 44) rfl))) Via.refl e0 F_s_a (g := (mkF m 2 #[.val (.ref a)] [(.ref a), (.ref a)])) rfl rfl (hb hby d9_2)
  have ne_s_DEF_a : s_DEF ≠ a := (Ne.symm (Exa.neArv E_a V_DEF (hw _ (List.mem_of_getElem? (i := 5) rfl))))
  obtain ⟨cq2, q2, q2'⟩ := E_a.cell
  have lt2_a := E_a.lt
  have lt2_s_DEF := V_DEF.lt
  obtain ⟨_, _, ⟨T2, L2, k2, n2⟩, -, X2, ⟨Lc2, hQ2, l2, y2, z2⟩, st2⟩ := X1.privateBack hx (y := (⟨"java/util/ArrayList", "grow", "(I)[Ljava/lang/Object;"⟩ : MethodName)) hown (mvT hZ (hw _ (List.mem_of_getElem? (i := 56) rfl))) (mvT hZ (hw _ (List.mem_of_getElem? (i := 57) rfl))) (mvT hZ (hw _ (List.mem_of_getElem? (i := 59) rfl))) (Cond.privateMethod_at (mvP hZ (hw _ (List.mem_of_getElem? (i := 58) rfl)) (args := #[]))) (mvT hZ (hw _ (List.mem_of_getElem? (i := 60) rfl))) (by decide) (backOf (W := 0) (rm10 l Z a0 hw [] a mc kd s_DEF h0 n0 O S_s_DEF E_a F_m_a F_e_a F_s_a V_DEF g_a) hZ (hw _ (List.mem_of_getElem? (i := 60) rfl)) (hw _ (List.mem_of_getElem? (i := 6) rfl)) (by decide) (by decide)) (g := (mkF m 7 #[.val (.ref a)] [(.int (1 : Int32)), (.ref a)])) rfl (by rw [hml]; rfl) (Steps.refl _) (a := a) (by rw [e1]; exact q2) q2' (argsL := [(.int (1 : Int32))]) (rest := []) (lenOf pd__40I_41_91Ljava_47lang_47Object_59 rfl) rfl (by show 2 * 0 + _ ≤ _; exact Nat.le_of_eq rfl) (hb hby d9_7) (fun _ _ => ⟨rfl, e1, (by decide : 0 + 1 ≤ _), (by decide : 0 + 10 ≤ _)⟩)
  dsimp only [Pt.U, Pt.locs, Pt.cells, Pt.slots] at X2 l2 y2 z2 st2 hQ2
  subst l2 y2 z2
  obtain ⟨z_2, kz_2, rfl, N2q, K2, F_m_a_c2, F_e_a_c2, F_s_a_c2, V_z_c2, gz_2, gn_2, ov_2⟩ := hQ2
  have N2 := Fr.app N0 N2q
  have E_a := E_a.keep K2
  have V_DEF := V_DEF.keep K2 (ninS ne_s_DEF_a nin0)
  have ne_a_z_2 : a ≠ z_2 := Nat.ne_of_lt (Nat.lt_of_lt_of_le lt2_a gz_2)
  have ne_s_DEF_z_2 : s_DEF ≠ z_2 := Nat.ne_of_lt (Nat.lt_of_lt_of_le lt2_s_DEF gz_2)
  have g_z_2 := gn_2
  have z_z_2 : h0.size ≤ z_2 := Nat.le_trans K.1 gz_2
  have O := O.keep K2 (allS g_a all0)
  have K := K.trans K2 (allS (Or.inl (List.mem_of_getElem? (i := 0) rfl)) all0)
  have w3 : ∀ t, Steps p.tables e below (T2.setTop (mkF m 10 #[.val (.ref a)] [(.ref z_2)])) t → Steps p.tables e below (s₁.setTop (entryFrame m #[(.ref a)] 1)) t := fun t k => by
    refine pre0 t ?_
    refine XS.aloadN X0.here hx rfl (hb hby d9_0) rfl rfl ?_
    show Steps p.tables e below (s₁.setTop (mkF m 1 #[.val (.ref a)] [(.ref a)])) _
    refine XS.aloadN X0.here hx rfl (hb hby d9_1) rfl rfl ?_
    show Steps p.tables e below (s₁.setTop (mkF m 2 #[.val (.ref a)] [(.ref a), (.ref a)])) _
    refine st1 _ ?_
    show Steps p.tables e below (T1.setTop (mkF m 5 #[.val (.ref a)] [(.int (0 : Int32)), (.ref a)])) _
    refine XS.iconst X1.here hx rfl (hb hby d9_5) ?_
    show Steps p.tables e below (T1.setTop (mkF m 6 #[.val (.ref a)] [(.int (1 : Int32)), (.int (0 : Int32)), (.ref a)])) _
    refine XS.iadd X1.here hx rfl (hb hby d9_6) rfl ?_
    show Steps p.tables e below (T1.setTop (mkF m 7 #[.val (.ref a)] [(.int (1 : Int32)), (.ref a)])) _
    refine st2.trans ?_
    show Steps p.tables e below (T2.setTop (mkF m 10 #[.val (.ref a)] [(.ref z_2)])) _
    exact k
  obtain ⟨fs, hr, hrun, hended, hW, hsame⟩ := X2.leave (v := some (.ref z_2)) (fun h => by rw [Bd.returns] at h; cases h)
  refine ⟨_, _, w3 _ ?_, hrun, hended, _, _, rfl, ?_, ⟨_, rfl⟩, hW, hsame.mono (by decide) (by decide)⟩
  · jvm_step X2.here [X2.here.top, hx, (hb hby d9_10), X2.method', Bd.returns, Value.isRef, FieldType.isReference]
    first | (intro acts; rw [hr _ acts rfl rfl rfl]) | rw [hr _ _ rfl rfl rfl]
    exact Steps.refl _
  · show Q9 Z a mc kd s_DEF h0 n0 _ T2.heap _
    exact ⟨z_2, kz_2, rfl, N2, K, F_m_a_c2, F_e_a_c2, F_s_a_c2, V_z_c2, z_z_2, g_z_2, ov_2⟩
theorem d8_0 : decode jdk_38_method_24_code 0 = .ok (.iload_n 3, 1) := by decide +kernel
theorem d8_1 : decode jdk_38_method_24_code 1 = .ok (.aload_n 2, 1) := by decide +kernel
theorem d8_2 : decode jdk_38_method_24_code 2 = .ok (.arraylength, 1) := by decide +kernel
theorem d8_3 : decode jdk_38_method_24_code 3 = .ok (.if_icmp .ne 8, 3) := by decide +kernel
theorem d8_6 : decode jdk_38_method_24_code 6 = .ok (.aload_n 0, 1) := by decide +kernel
theorem d8_7 : decode jdk_38_method_24_code 7 = .ok (.invokevirtual 129, 3) := by decide +kernel
theorem pd__40_41_91Ljava_47lang_47Object_59 : parseMethodDescriptor "()[Ljava/lang/Object;" = some ⟨[], some (.array (.object "java/lang/Object"))⟩ := by decide +kernel
theorem d8_10 : decode jdk_38_method_24_code 10 = .ok (.astore_n 2, 1) := by decide +kernel
theorem d8_11 : decode jdk_38_method_24_code 11 = .ok (.aload_n 2, 1) := by decide +kernel
theorem d8_12 : decode jdk_38_method_24_code 12 = .ok (.iload_n 3, 1) := by decide +kernel
theorem d8_13 : decode jdk_38_method_24_code 13 = .ok (.aload_n 1, 1) := by decide +kernel
theorem d8_14 : decode jdk_38_method_24_code 14 = .ok (.aastore, 1) := by decide +kernel
theorem d8_15 : decode jdk_38_method_24_code 15 = .ok (.aload_n 0, 1) := by decide +kernel
theorem d8_16 : decode jdk_38_method_24_code 16 = .ok (.iload_n 3, 1) := by decide +kernel
theorem d8_17 : decode jdk_38_method_24_code 17 = .ok (.iconst 1, 1) := by decide +kernel
theorem d8_18 : decode jdk_38_method_24_code 18 = .ok (.iadd, 1) := by decide +kernel
theorem d8_19 : decode jdk_38_method_24_code 19 = .ok (.putfield 48, 3) := by decide +kernel
theorem d8_22 : decode jdk_38_method_24_code 22 = .ok (.return_, 1) := by decide +kernel
theorem ef_8_0 (m : MethodId) (x0 : Addr) (x1 : Addr) : entryFrame m #[(.ref x0), (.ref x1), (.ref s_DEF), (.int (0 : Int32))] 4 = mkF m 0 #[.val (.ref x0), .val (.ref x1), .val (.ref s_DEF), .val (.int (0 : Int32))] [] := by first | (simp [entryFrame, mkF, argsToLocals, Value.category]; done) | rfl
def Q8_0 (Z : State) (a : Addr) (y : Addr) (mc : Int32) (kd : ClassId) (s_DEF : Addr) (h0 : Heap) (n0 : Nat) (v : Option Value) (h : Heap) (L : List Loc) : Prop := ∃ z : Addr, ∃ kz : ClassId, v = none ∧ Fr n0 L ∧ Keep h0 h [a] ∧ Fld Z h a "java/util/AbstractList" "modCount" "I" (.int mc) ∧ Fld Z h a "java/util/ArrayList" "elementData" "[Ljava/lang/Object;" (.ref z) ∧ Fld Z h a "java/util/ArrayList" "size" "I" (.int (1 : Int32)) ∧ Arv Z h z kz (.object "java/lang/Object") (10 : Int32) [(.ref y), .null, .null, .null, .null, .null, .null, .null, .null, .null] .null ∧ h0.size ≤ z ∧ n0 ≤ z ∧ Ovr Z kz "java/lang/Object"
set_option maxRecDepth 65536 in
set_option maxHeartbeats 40000000 in
theorem rm8_0 (l : Launch) (Z : State) (a0 : Array Value) (hw : ∀ d ∈ tables_1, d.before a0 Z = true) (ws : List Jvm.Cond) (a : Addr) (y : Addr) (mc : Int32) (kd : ClassId) (s_DEF : Addr) (h0 : Heap) (n0 : Nat) (O0 : Old Z n0 h0) (S_s_DEF : Sta Z Z.heap "java/util/ArrayList" "DEFAULTCAPACITY_EMPTY_ELEMENTDATA" "[Ljava/lang/Object;" (.ref s_DEF)) (E_a : Exa Z h0 a "java/util/ArrayList") (F_m_a : Fld Z h0 a "java/util/AbstractList" "modCount" "I" (.int mc)) (F_e_a : Fld Z h0 a "java/util/ArrayList" "elementData" "[Ljava/lang/Object;" (.ref s_DEF)) (F_s_a : Fld Z h0 a "java/util/ArrayList" "size" "I" (.int (0 : Int32))) (V_DEF : Arv Z h0 s_DEF kd (.object "java/lang/Object") (0 : Int32) [] .null) (E_y : Exa Z h0 y "java/lang/Integer") (g_a : n0 ≤ a) :
    MetFree l (⟨"java/util/ArrayList", "add", "(Ljava/lang/Object;[Ljava/lang/Object;I)V"⟩ : MethodName) (head1 (Jvm.Cond.code (⟨"java/util/ArrayList", "add", "(Ljava/lang/Object;[Ljava/lang/Object;I)V"⟩ : MethodName) jdk_38_method_24_code 4 none :: ws) ({ frames := 3, cells := 1, slots := 10, locals := 41 } : Room)) (fun aA uU => aA = #[(.ref a), (.ref y), (.ref s_DEF), (.int (0 : Int32))] ∧ Z.Warmed39 uU.vm ∧ uU.heap = h0) (fun _ _ _ _ _ => True) (fun _ uU oO uU' => ∃ vV lL, oO = .returned vV ∧ Q8_0 Z a y mc kd s_DEF h0 n0 vV uU'.heap lL ∧ FrameEnd uU oO uU' lL ({ frames := 3, cells := 1, slots := 10, locals := 41 } : Room).cells ({ frames := 3, cells := 1, slots := 10, locals := 41 } : Room).slots) := by
  refine MetFree.of_bodySF (plainFor_of_name pn_java_util_ArrayList) hisR ?_
  intro p e s m args below meth c s₁ Bd hml0 hP hK
  obtain ⟨rfl, hZ, hh⟩ := hP
  have hx := Bd.exec
  have hby := Bd.bytes
  have hml : c.maxLocals = 4 := hml0
  have hown : s.vm.findClass "java/util/ArrayList" = some m.cls := findClass_of_methodNamed Bd.named
  have hnm := (name_of_methodNamed Bd.named Bd.method).1
  have X0 : Stand p l e ({ frames := 3, cells := 1, slots := 10, locals := 41 } : Room) s m #[(.ref a), (.ref y), (.ref s_DEF), (.int (0 : Int32))] below meth c s₁ [] 0 0 := Stand.of_body Bd
  have e0 : s₁.heap = h0 := by rw [← hh, Bd.state]; rfl
  have N0 := Fr.nil n0
  have O := O0
  have K := Keep.refl h0 [a]
  have pre0 : ∀ t, Steps p.tables e below (s₁.setTop (mkF m 0 #[.val (.ref a), .val (.ref y), .val (.ref s_DEF), .val (.int (0 : Int32))] [])) t → Steps p.tables e below (s₁.setTop (entryFrame m #[(.ref a), (.ref y), (.ref s_DEF), (.int (0 : Int32))] 4)) t := fun t k => castTop (ef_8_0 m a y) k
  obtain ⟨cl1, Ar1, -, Z1, N1, -, -⟩ := id V_DEF
  have ne_s_DEF_a : s_DEF ≠ a := (Ne.symm (Exa.neArv E_a V_DEF (hw _ (List.mem_of_getElem? (i := 5) rfl))))
  obtain ⟨cq2, q2, q2'⟩ := E_a.cell
  have lt2_a := E_a.lt
  have lt2_y := E_y.lt
  have lt2_s_DEF := V_DEF.lt
  obtain ⟨_, _, ⟨T2, L2, k2, n2⟩, -, X2, ⟨Lc2, hQ2, l2, y2, z2⟩, st2⟩ := X0.privateBack hx (y := (⟨"java/util/ArrayList", "grow", "()[Ljava/lang/Object;"⟩ : MethodName)) hown (mvT hZ (hw _ (List.mem_of_getElem? (i := 51) rfl))) (mvT hZ (hw _ (List.mem_of_getElem? (i := 52) rfl))) (mvT hZ (hw _ (List.mem_of_getElem? (i := 54) rfl))) (Cond.privateMethod_at (mvP hZ (hw _ (List.mem_of_getElem? (i := 53) rfl)) (args := #[]))) (mvT hZ (hw _ (List.mem_of_getElem? (i := 55) rfl))) (by decide) (backOf (W := 0) (rm9 l Z a0 hw [] a mc kd s_DEF h0 n0 O S_s_DEF E_a F_m_a F_e_a F_s_a V_DEF g_a) hZ (hw _ (List.mem_of_getElem? (i := 55) rfl)) (hw _ (List.mem_of_getElem? (i := 6) rfl)) (by decide) (by decide)) (g := (mkF m 7 #[.val (.ref a), .val (.ref y), .val (.ref s_DEF), .val (.int (0 : Int32))] [(.ref a)])) rfl (by rw [hml]; rfl) (Steps.refl _) (a := a) (by rw [e0]; exact q2) q2' (argsL := []) (rest := []) (lenOf pd__40_41_91Ljava_47lang_47Object_59 rfl) rfl (by show 2 * 0 + _ ≤ _; exact Nat.le_of_eq rfl) (hb hby d8_7) (fun _ _ => ⟨rfl, e0, (by decide : 0 + 1 ≤ _), (by decide : 0 + 10 ≤ _)⟩)
  dsimp only [Pt.U, Pt.locs, Pt.cells, Pt.slots] at X2 l2 y2 z2 st2 hQ2
  subst l2 y2 z2
  obtain ⟨z_2, kz_2, rfl, N2q, K2, F_m_a_c2, F_e_a_c2, F_s_a_c2, V_z_c2, gz_2, gn_2, ov_2⟩ := hQ2
  have N2 := Fr.app N0 N2q
  have E_a := E_a.keep K2
  have V_DEF := V_DEF.keep K2 (ninS ne_s_DEF_a nin0)
  have E_y := E_y.keep K2
  have ne_a_z_2 : a ≠ z_2 := Nat.ne_of_lt (Nat.lt_of_lt_of_le lt2_a gz_2)
  have ne_y_z_2 : y ≠ z_2 := Nat.ne_of_lt (Nat.lt_of_lt_of_le lt2_y gz_2)
  have ne_s_DEF_z_2 : s_DEF ≠ z_2 := Nat.ne_of_lt (Nat.lt_of_lt_of_le lt2_s_DEF gz_2)
  have g_z_2 := gn_2
  have z_z_2 : h0.size ≤ z_2 := Nat.le_trans K.1 gz_2
  have O := O.keep K2 (allS g_a all0)
  have K := K.trans K2 (allS (Or.inl (List.mem_of_getElem? (i := 0) rfl)) all0)
  obtain ⟨cl3, Ar3, q3, Z3, N3, H3, G3⟩ := id V_z_c2
  have hin3 : ¬ ((0 : Int32) < 0 ∨ cl3.slots.size ≤ ((0 : Int32)).toNatClampNeg) := inb_of Z3 ⟨by decide, by decide⟩
  obtain ⟨T4, h4, X4, e4, W4, st4⟩ := stR X2 hx hZ rfl Ar3 (j := (0 : Int32)) hin3 rfl (Sto.ofV Ar3 q3 ov_2 (Ins.of_exa E_y (hw _ (List.mem_of_getElem? (i := 67) rfl)))) (g := (mkF m 14 #[.val (.ref a), .val (.ref y), .val (.ref z_2), .val (.int (0 : Int32))] [(.ref y), (.int (0 : Int32)), (.ref z_2)])) rfl rfl (hb hby d8_14)
  have V_z_c2 : Arv Z h4 z_2 kz_2 (.object "java/lang/Object") (10 : Int32) [(.ref y), .null, .null, .null, .null, .null, .null, .null, .null, .null] .null := Arv.set Ar3 q3 Z3 N3 H3 G3 rfl W4 0 rfl (Nat.le_of_ble_eq_true rfl)
  have E_a := E_a.wr W4
  have V_DEF := V_DEF.other W4 ne_s_DEF_z_2
  have E_y := E_y.wr W4
  have F_m_a_c2 := F_m_a_c2.other W4 (Or.inl ne_a_z_2)
  have F_e_a_c2 := F_e_a_c2.other W4 (Or.inl ne_a_z_2)
  have F_s_a_c2 := F_s_a_c2.other W4 (Or.inl ne_a_z_2)
  have O := O.wr W4 g_z_2
  have K := K.wr W4 (Or.inr z_z_2)
  have N4 := Fr.snoc X4 N2 g_z_2
  obtain ⟨T5, h5, X5, e5, W5, st5⟩ := putF X4 hx hZ hown (host := "") (Or.inl (hw _ (List.mem_of_getElem? (i := 44) rfl))) Via.refl e4 F_s_a_c2 E_a (Or.inl (hw _ (List.mem_of_getElem? (i := 45) rfl))) (hw _ (List.mem_of_getElem? (i := 5) rfl)) (ty := .int) (by decide) rfl rfl (g := (mkF m 19 #[.val (.ref a), .val (.ref y), .val (.ref z_2), .val (.int (0 : Int32))] [(.int (1 : Int32)), (.ref a)])) rfl rfl (hb hby d8_19)
  have F_s_a_c2 := F_s_a_c2.same W5
  have E_a := E_a.wr W5
  have V_DEF := V_DEF.other W5 ne_s_DEF_a
  have E_y := E_y.wr W5
  have F_m_a_c2 := F_m_a_c2.other W5 (Or.inr (slot_ne (Or.inl (hw _ (List.mem_of_getElem? (i := 26) rfl))) (Or.inl (hw _ (List.mem_of_getElem? (i := 45) rfl))) (by decide) (t := .int) (t' := .int) (by decide) (by decide)))
  have F_e_a_c2 := F_e_a_c2.other W5 (Or.inr (slot_ne (Or.inl (hw _ (List.mem_of_getElem? (i := 29) rfl))) (Or.inl (hw _ (List.mem_of_getElem? (i := 45) rfl))) (by decide) (t := (.array (.object "java/lang/Object"))) (t' := .int) (by decide) (by decide)))
  have V_z_c2 := V_z_c2.other W5 (Ne.symm ne_a_z_2)
  have O := O.wr W5 g_a
  have K := K.wr W5 (Or.inl (List.mem_of_getElem? (i := 0) rfl))
  have N5 := Fr.snoc X5 N4 g_a
  have w6 : ∀ t, Steps p.tables e below (T5.setTop (mkF m 22 #[.val (.ref a), .val (.ref y), .val (.ref z_2), .val (.int (0 : Int32))] [])) t → Steps p.tables e below (s₁.setTop (entryFrame m #[(.ref a), (.ref y), (.ref s_DEF), (.int (0 : Int32))] 4)) t := fun t k => by
    refine pre0 t ?_
    refine XS.iloadN X0.here hx rfl (hb hby d8_0) rfl ?_
    show Steps p.tables e below (s₁.setTop (mkF m 1 #[.val (.ref a), .val (.ref y), .val (.ref s_DEF), .val (.int (0 : Int32))] [(.int (0 : Int32))])) _
    refine XS.aloadN X0.here hx rfl (hb hby d8_1) rfl rfl ?_
    show Steps p.tables e below (s₁.setTop (mkF m 2 #[.val (.ref a), .val (.ref y), .val (.ref s_DEF), .val (.int (0 : Int32))] [(.ref s_DEF), (.int (0 : Int32))])) _
    refine X0.arraylength hx (by rw [e0]; exact Ar1.1) (State.isArrayOf_alike hZ.alike Ar1.2.1) (g := (mkF m 2 #[.val (.ref a), .val (.ref y), .val (.ref s_DEF), .val (.int (0 : Int32))] [(.ref s_DEF), (.int (0 : Int32))])) rfl rfl (hb hby d8_2) _ ?_
    rw [len_of Z1 N1]
    show Steps p.tables e below (s₁.setTop (mkF m 3 #[.val (.ref a), .val (.ref y), .val (.ref s_DEF), .val (.int (0 : Int32))] [(.int (0 : Int32)), (.int (0 : Int32))])) _
    refine XS.icmpNo X0.here hx rfl (hb hby d8_3) rfl (teq (rfl : (0 : Int32) = (0 : Int32))).2 ?_
    show Steps p.tables e below (s₁.setTop (mkF m 6 #[.val (.ref a), .val (.ref y), .val (.ref s_DEF), .val (.int (0 : Int32))] [])) _
    refine XS.aloadN X0.here hx rfl (hb hby d8_6) rfl rfl ?_
    show Steps p.tables e below (s₁.setTop (mkF m 7 #[.val (.ref a), .val (.ref y), .val (.ref s_DEF), .val (.int (0 : Int32))] [(.ref a)])) _
    refine st2.trans ?_
    show Steps p.tables e below (T2.setTop (mkF m 10 #[.val (.ref a), .val (.ref y), .val (.ref s_DEF), .val (.int (0 : Int32))] [(.ref z_2)])) _
    refine XS.astoreN X2.here hx rfl (hb hby d8_10) rfl rfl (l' := #[.val (.ref a), .val (.ref y), .val (.ref z_2), .val (.int (0 : Int32))]) rfl ?_
    show Steps p.tables e below (T2.setTop (mkF m 11 #[.val (.ref a), .val (.ref y), .val (.ref z_2), .val (.int (0 : Int32))] [])) _
    refine XS.aloadN X2.here hx rfl (hb hby d8_11) rfl rfl ?_
    show Steps p.tables e below (T2.setTop (mkF m 12 #[.val (.ref a), .val (.ref y), .val (.ref z_2), .val (.int (0 : Int32))] [(.ref z_2)])) _
    refine XS.iloadN X2.here hx rfl (hb hby d8_12) rfl ?_
    show Steps p.tables e below (T2.setTop (mkF m 13 #[.val (.ref a), .val (.ref y), .val (.ref z_2), .val (.int (0 : Int32))] [(.int (0 : Int32)), (.ref z_2)])) _
    refine XS.aloadN X2.here hx rfl (hb hby d8_13) rfl rfl ?_
    show Steps p.tables e below (T2.setTop (mkF m 14 #[.val (.ref a), .val (.ref y), .val (.ref z_2), .val (.int (0 : Int32))] [(.ref y), (.int (0 : Int32)), (.ref z_2)])) _
    refine st4 _ ?_
    show Steps p.tables e below (T4.setTop (mkF m 15 #[.val (.ref a), .val (.ref y), .val (.ref z_2), .val (.int (0 : Int32))] [])) _
    refine XS.aloadN X4.here hx rfl (hb hby d8_15) rfl rfl ?_
    show Steps p.tables e below (T4.setTop (mkF m 16 #[.val (.ref a), .val (.ref y), .val (.ref z_2), .val (.int (0 : Int32))] [(.ref a)])) _
    refine XS.iloadN X4.here hx rfl (hb hby d8_16) rfl ?_
    show Steps p.tables e below (T4.setTop (mkF m 17 #[.val (.ref a), .val (.ref y), .val (.ref z_2), .val (.int (0 : Int32))] [(.int (0 : Int32)), (.ref a)])) _
    refine XS.iconst X4.here hx rfl (hb hby d8_17) ?_
    show Steps p.tables e below (T4.setTop (mkF m 18 #[.val (.ref a), .val (.ref y), .val (.ref z_2), .val (.int (0 : Int32))] [(.int (1 : Int32)), (.int (0 : Int32)), (.ref a)])) _
    refine XS.iadd X4.here hx rfl (hb hby d8_18) rfl ?_
    show Steps p.tables e below (T4.setTop (mkF m 19 #[.val (.ref a), .val (.ref y), .val (.ref z_2), .val (.int (0 : Int32))] [(.int (1 : Int32)), (.ref a)])) _
    refine st5 _ ?_
    show Steps p.tables e below (T5.setTop (mkF m 22 #[.val (.ref a), .val (.ref y), .val (.ref z_2), .val (.int (0 : Int32))] [])) _
    exact k
  obtain ⟨fs, hr, hrun, hended, hW, hsame⟩ := X5.leave (v := none) (fun _ => rfl)
  refine ⟨_, _, w6 _ ?_, hrun, hended, _, _, rfl, ?_, ⟨_, rfl⟩, hW, hsame.mono (by decide) (by decide)⟩
  · exact X5.returnOut hx Bd.returns (hb hby d8_22) hr
  · show Q8_0 Z a y mc kd s_DEF h0 n0 _ T5.heap _
    rw [e5]
    exact ⟨z_2, kz_2, rfl, N5, K, F_m_a_c2, F_e_a_c2, F_s_a_c2, V_z_c2, z_z_2, g_z_2, ov_2⟩
theorem ef_8_1 (m : MethodId) (x0 : Addr) (x1 : Addr) (x2 : Addr) : entryFrame m #[(.ref x0), (.ref x1), (.ref x2), (.int (1 : Int32))] 4 = mkF m 0 #[.val (.ref x0), .val (.ref x1), .val (.ref x2), .val (.int (1 : Int32))] [] := by first | (simp [entryFrame, mkF, argsToLocals, Value.category]; done) | rfl
def Q8_1 (Z : State) (a : Addr) (y : Addr) (d : Addr) (mc : Int32) (kb : ClassId) (x1 : Addr) (h0 : Heap) (n0 : Nat) (v : Option Value) (h : Heap) (L : List Loc) : Prop := v = none ∧ Fr n0 L ∧ Keep h0 h [a, d] ∧ Fld Z h a "java/util/AbstractList" "modCount" "I" (.int mc) ∧ Fld Z h a "java/util/ArrayList" "elementData" "[Ljava/lang/Object;" (.ref d) ∧ Fld Z h a "java/util/ArrayList" "size" "I" (.int (2 : Int32)) ∧ Arv Z h d kb (.object "java/lang/Object") (10 : Int32) [(.ref x1), (.ref y), .null, .null, .null, .null, .null, .null, .null, .null] .null
set_option maxRecDepth 65536 in
set_option maxHeartbeats 40000000 in
theorem rm8_1 (l : Launch) (Z : State) (a0 : Array Value) (hw : ∀ d ∈ tables_1, d.before a0 Z = true) (ws : List Jvm.Cond) (a : Addr) (y : Addr) (d : Addr) (mc : Int32) (kb : ClassId) (x1 : Addr) (h0 : Heap) (n0 : Nat) (O0 : Old Z n0 h0) (E_a : Exa Z h0 a "java/util/ArrayList") (F_m_a : Fld Z h0 a "java/util/AbstractList" "modCount" "I" (.int mc)) (F_e_a : Fld Z h0 a "java/util/ArrayList" "elementData" "[Ljava/lang/Object;" (.ref d)) (F_s_a : Fld Z h0 a "java/util/ArrayList" "size" "I" (.int (1 : Int32))) (V_d : Arv Z h0 d kb (.object "java/lang/Object") (10 : Int32) [(.ref x1), .null, .null, .null, .null, .null, .null, .null, .null, .null] .null) (E_y : Exa Z h0 y "java/lang/Integer") (ov : Ovr Z kb "java/lang/Object") (g_a : n0 ≤ a) (g_d : n0 ≤ d) :
    MetFree l (⟨"java/util/ArrayList", "add", "(Ljava/lang/Object;[Ljava/lang/Object;I)V"⟩ : MethodName) (head1 (Jvm.Cond.code (⟨"java/util/ArrayList", "add", "(Ljava/lang/Object;[Ljava/lang/Object;I)V"⟩ : MethodName) jdk_38_method_24_code 4 none :: ws) ({ frames := 0, cells := 0, slots := 0, locals := 0 } : Room)) (fun aA uU => aA = #[(.ref a), (.ref y), (.ref d), (.int (1 : Int32))] ∧ Z.Warmed39 uU.vm ∧ uU.heap = h0) (fun _ _ _ _ _ => True) (fun _ uU oO uU' => ∃ vV lL, oO = .returned vV ∧ Q8_1 Z a y d mc kb x1  h0 n0 vV uU'.heap lL ∧ FrameEnd uU oO uU' lL ({ frames := 0, cells := 0, slots := 0, locals := 0 } : Room).cells ({ frames := 0, cells := 0, slots := 0, locals := 0 } : Room).slots) := by
  refine MetFree.of_bodySF (plainFor_of_name pn_java_util_ArrayList) hisR ?_
  intro p e s m args below meth c s₁ Bd hml0 hP hK
  obtain ⟨rfl, hZ, hh⟩ := hP
  have hx := Bd.exec
  have hby := Bd.bytes
  have hml : c.maxLocals = 4 := hml0
  have hown : s.vm.findClass "java/util/ArrayList" = some m.cls := findClass_of_methodNamed Bd.named
  have hnm := (name_of_methodNamed Bd.named Bd.method).1
  have X0 : Stand p l e ({ frames := 0, cells := 0, slots := 0, locals := 0 } : Room) s m #[(.ref a), (.ref y), (.ref d), (.int (1 : Int32))] below meth c s₁ [] 0 0 := Stand.of_body Bd
  have e0 : s₁.heap = h0 := by rw [← hh, Bd.state]; rfl
  have N0 := Fr.nil n0
  have O := O0
  have K := Keep.refl h0 [a, d]
  have pre0 : ∀ t, Steps p.tables e below (s₁.setTop (mkF m 0 #[.val (.ref a), .val (.ref y), .val (.ref d), .val (.int (1 : Int32))] [])) t → Steps p.tables e below (s₁.setTop (entryFrame m #[(.ref a), (.ref y), (.ref d), (.int (1 : Int32))] 4)) t := fun t k => castTop (ef_8_1 m a y d) k
  obtain ⟨cl1, Ar1, -, Z1, N1, -, -⟩ := id V_d
  have ne_a_d : a ≠ d := (Exa.neArv E_a V_d (hw _ (List.mem_of_getElem? (i := 5) rfl)))
  obtain ⟨cl2, Ar2, q2, Z2, N2, H2, G2⟩ := id V_d
  have hin2 : ¬ ((1 : Int32) < 0 ∨ cl2.slots.size ≤ ((1 : Int32)).toNatClampNeg) := inb_of Z2 ⟨by decide, by decide⟩
  obtain ⟨T3, h3, X3, e3, W3, st3⟩ := stR X0 hx hZ e0 Ar2 (j := (1 : Int32)) hin2 rfl (Sto.ofV Ar2 q2 ov (Ins.of_exa E_y (hw _ (List.mem_of_getElem? (i := 67) rfl)))) (g := (mkF m 14 #[.val (.ref a), .val (.ref y), .val (.ref d), .val (.int (1 : Int32))] [(.ref y), (.int (1 : Int32)), (.ref d)])) rfl rfl (hb hby d8_14)
  have V_d : Arv Z h3 d kb (.object "java/lang/Object") (10 : Int32) [(.ref x1), (.ref y), .null, .null, .null, .null, .null, .null, .null, .null] .null := Arv.set Ar2 q2 Z2 N2 H2 G2 rfl W3 1 rfl (Nat.le_of_ble_eq_true rfl)
  have E_a := E_a.wr W3
  have F_m_a := F_m_a.other W3 (Or.inl ne_a_d)
  have F_e_a := F_e_a.other W3 (Or.inl ne_a_d)
  have F_s_a := F_s_a.other W3 (Or.inl ne_a_d)
  have E_y := E_y.wr W3
  have O := O.wr W3 g_d
  have K := K.wr W3 (Or.inl (List.mem_of_getElem? (i := 1) rfl))
  have N3 := Fr.snoc X3 N0 g_d
  obtain ⟨T4, h4, X4, e4, W4, st4⟩ := putF X3 hx hZ hown (host := "") (Or.inl (hw _ (List.mem_of_getElem? (i := 44) rfl))) Via.refl e3 F_s_a E_a (Or.inl (hw _ (List.mem_of_getElem? (i := 45) rfl))) (hw _ (List.mem_of_getElem? (i := 5) rfl)) (ty := .int) (by decide) rfl rfl (g := (mkF m 19 #[.val (.ref a), .val (.ref y), .val (.ref d), .val (.int (1 : Int32))] [(.int (2 : Int32)), (.ref a)])) rfl rfl (hb hby d8_19)
  have F_s_a := F_s_a.same W4
  have E_a := E_a.wr W4
  have F_m_a := F_m_a.other W4 (Or.inr (slot_ne (Or.inl (hw _ (List.mem_of_getElem? (i := 26) rfl))) (Or.inl (hw _ (List.mem_of_getElem? (i := 45) rfl))) (by decide) (t := .int) (t' := .int) (by decide) (by decide)))
  have F_e_a := F_e_a.other W4 (Or.inr (slot_ne (Or.inl (hw _ (List.mem_of_getElem? (i := 29) rfl))) (Or.inl (hw _ (List.mem_of_getElem? (i := 45) rfl))) (by decide) (t := (.array (.object "java/lang/Object"))) (t' := .int) (by decide) (by decide)))
  have V_d := V_d.other W4 (Ne.symm ne_a_d)
  have E_y := E_y.wr W4
  have O := O.wr W4 g_a
  have K := K.wr W4 (Or.inl (List.mem_of_getElem? (i := 0) rfl))
  have N4 := Fr.snoc X4 N3 g_a
  have w5 : ∀ t, Steps p.tables e below (T4.setTop (mkF m 22 #[.val (.ref a), .val (.ref y), .val (.ref d), .val (.int (1 : Int32))] [])) t → Steps p.tables e below (s₁.setTop (entryFrame m #[(.ref a), (.ref y), (.ref d), (.int (1 : Int32))] 4)) t := fun t k => by
    refine pre0 t ?_
    refine XS.iloadN X0.here hx rfl (hb hby d8_0) rfl ?_
    show Steps p.tables e below (s₁.setTop (mkF m 1 #[.val (.ref a), .val (.ref y), .val (.ref d), .val (.int (1 : Int32))] [(.int (1 : Int32))])) _
    refine XS.aloadN X0.here hx rfl (hb hby d8_1) rfl rfl ?_
    show Steps p.tables e below (s₁.setTop (mkF m 2 #[.val (.ref a), .val (.ref y), .val (.ref d), .val (.int (1 : Int32))] [(.ref d), (.int (1 : Int32))])) _
    refine X0.arraylength hx (by rw [e0]; exact Ar1.1) (State.isArrayOf_alike hZ.alike Ar1.2.1) (g := (mkF m 2 #[.val (.ref a), .val (.ref y), .val (.ref d), .val (.int (1 : Int32))] [(.ref d), (.int (1 : Int32))])) rfl rfl (hb hby d8_2) _ ?_
    rw [len_of Z1 N1]
    show Steps p.tables e below (s₁.setTop (mkF m 3 #[.val (.ref a), .val (.ref y), .val (.ref d), .val (.int (1 : Int32))] [(.int (10 : Int32)), (.int (1 : Int32))])) _
    refine XS.icmpYes X0.here hx rfl (pc0 := 3) (pc' := 11) rfl (hb hby d8_3) rfl (feq ((by decide) : ¬ ((1 : Int32) = (10 : Int32)))).2 (by decide) (by decide) ?_
    show Steps p.tables e below (s₁.setTop (mkF m 11 #[.val (.ref a), .val (.ref y), .val (.ref d), .val (.int (1 : Int32))] [])) _
    refine XS.aloadN X0.here hx rfl (hb hby d8_11) rfl rfl ?_
    show Steps p.tables e below (s₁.setTop (mkF m 12 #[.val (.ref a), .val (.ref y), .val (.ref d), .val (.int (1 : Int32))] [(.ref d)])) _
    refine XS.iloadN X0.here hx rfl (hb hby d8_12) rfl ?_
    show Steps p.tables e below (s₁.setTop (mkF m 13 #[.val (.ref a), .val (.ref y), .val (.ref d), .val (.int (1 : Int32))] [(.int (1 : Int32)), (.ref d)])) _
    refine XS.aloadN X0.here hx rfl (hb hby d8_13) rfl rfl ?_
    show Steps p.tables e below (s₁.setTop (mkF m 14 #[.val (.ref a), .val (.ref y), .val (.ref d), .val (.int (1 : Int32))] [(.ref y), (.int (1 : Int32)), (.ref d)])) _
    refine st3 _ ?_
    show Steps p.tables e below (T3.setTop (mkF m 15 #[.val (.ref a), .val (.ref y), .val (.ref d), .val (.int (1 : Int32))] [])) _
    refine XS.aloadN X3.here hx rfl (hb hby d8_15) rfl rfl ?_
    show Steps p.tables e below (T3.setTop (mkF m 16 #[.val (.ref a), .val (.ref y), .val (.ref d), .val (.int (1 : Int32))] [(.ref a)])) _
    refine XS.iloadN X3.here hx rfl (hb hby d8_16) rfl ?_
    show Steps p.tables e below (T3.setTop (mkF m 17 #[.val (.ref a), .val (.ref y), .val (.ref d), .val (.int (1 : Int32))] [(.int (1 : Int32)), (.ref a)])) _
    refine XS.iconst X3.here hx rfl (hb hby d8_17) ?_
    show Steps p.tables e below (T3.setTop (mkF m 18 #[.val (.ref a), .val (.ref y), .val (.ref d), .val (.int (1 : Int32))] [(.int (1 : Int32)), (.int (1 : Int32)), (.ref a)])) _
    refine XS.iadd X3.here hx rfl (hb hby d8_18) rfl ?_
    show Steps p.tables e below (T3.setTop (mkF m 19 #[.val (.ref a), .val (.ref y), .val (.ref d), .val (.int (1 : Int32))] [(.int (2 : Int32)), (.ref a)])) _
    refine st4 _ ?_
    show Steps p.tables e below (T4.setTop (mkF m 22 #[.val (.ref a), .val (.ref y), .val (.ref d), .val (.int (1 : Int32))] [])) _
    exact k
  obtain ⟨fs, hr, hrun, hended, hW, hsame⟩ := X4.leave (v := none) (fun _ => rfl)
  refine ⟨_, _, w5 _ ?_, hrun, hended, _, _, rfl, ?_, ⟨_, rfl⟩, hW, hsame.mono (by decide) (by decide)⟩
  · exact X4.returnOut hx Bd.returns (hb hby d8_22) hr
  · show Q8_1 Z a y d mc kb x1  h0 n0 _ T4.heap _
    rw [e4]
    exact ⟨rfl, N4, K, F_m_a, F_e_a, F_s_a, V_d⟩
theorem d7_0 : decode jdk_38_method_25_code 0 = .ok (.aload_n 0, 1) := by decide +kernel
theorem d7_1 : decode jdk_38_method_25_code 1 = .ok (.dup, 1) := by decide +kernel
theorem d7_2 : decode jdk_38_method_25_code 2 = .ok (.getfield 63, 3) := by decide +kernel
theorem d7_5 : decode jdk_38_method_25_code 5 = .ok (.iconst 1, 1) := by decide +kernel
theorem d7_6 : decode jdk_38_method_25_code 6 = .ok (.iadd, 1) := by decide +kernel
theorem d7_7 : decode jdk_38_method_25_code 7 = .ok (.putfield 63, 3) := by decide +kernel
theorem d7_10 : decode jdk_38_method_25_code 10 = .ok (.aload_n 0, 1) := by decide +kernel
theorem d7_11 : decode jdk_38_method_25_code 11 = .ok (.aload_n 1, 1) := by decide +kernel
theorem d7_12 : decode jdk_38_method_25_code 12 = .ok (.aload_n 0, 1) := by decide +kernel
theorem d7_13 : decode jdk_38_method_25_code 13 = .ok (.getfield 9, 3) := by decide +kernel
theorem d7_16 : decode jdk_38_method_25_code 16 = .ok (.aload_n 0, 1) := by decide +kernel
theorem d7_17 : decode jdk_38_method_25_code 17 = .ok (.getfield 48, 3) := by decide +kernel
theorem d7_20 : decode jdk_38_method_25_code 20 = .ok (.invokevirtual 131, 3) := by decide +kernel
theorem pd__40Ljava_47lang_47Object_59_91Ljava_47lang_47Object_59I_41V : parseMethodDescriptor "(Ljava/lang/Object;[Ljava/lang/Object;I)V" = some ⟨[(.object "java/lang/Object"), (.array (.object "java/lang/Object")), .int], none⟩ := by decide +kernel
theorem d7_23 : decode jdk_38_method_25_code 23 = .ok (.iconst 1, 1) := by decide +kernel
theorem d7_24 : decode jdk_38_method_25_code 24 = .ok (.ireturn, 1) := by decide +kernel
theorem ef_7_0 (m : MethodId) (x0 : Addr) (x1 : Addr) : entryFrame m #[(.ref x0), (.ref x1)] 2 = mkF m 0 #[.val (.ref x0), .val (.ref x1)] [] := by first | (simp [entryFrame, mkF, argsToLocals, Value.category]; done) | rfl
def Q7_0 (Z : State) (a : Addr) (y : Addr) (kd : ClassId) (s_DEF : Addr) (h0 : Heap) (n0 : Nat) (v : Option Value) (h : Heap) (L : List Loc) : Prop := ∃ z : Addr, ∃ kz : ClassId, v = some (.int (1 : Int32)) ∧ Fr n0 L ∧ Keep h0 h [a] ∧ Fld Z h a "java/util/AbstractList" "modCount" "I" (.int (1 : Int32)) ∧ Fld Z h a "java/util/ArrayList" "elementData" "[Ljava/lang/Object;" (.ref z) ∧ Fld Z h a "java/util/ArrayList" "size" "I" (.int (1 : Int32)) ∧ Arv Z h z kz (.object "java/lang/Object") (10 : Int32) [(.ref y), .null, .null, .null, .null, .null, .null, .null, .null, .null] .null ∧ h0.size ≤ z ∧ n0 ≤ z ∧ Ovr Z kz "java/lang/Object"
set_option maxRecDepth 65536 in
set_option maxHeartbeats 40000000 in
theorem rm7_0 (l : Launch) (Z : State) (a0 : Array Value) (hw : ∀ d ∈ tables_1, d.before a0 Z = true) (ws : List Jvm.Cond) (a : Addr) (y : Addr) (kd : ClassId) (s_DEF : Addr) (h0 : Heap) (n0 : Nat) (O0 : Old Z n0 h0) (S_s_DEF : Sta Z Z.heap "java/util/ArrayList" "DEFAULTCAPACITY_EMPTY_ELEMENTDATA" "[Ljava/lang/Object;" (.ref s_DEF)) (E_a : Exa Z h0 a "java/util/ArrayList") (F_m_a : Fld Z h0 a "java/util/AbstractList" "modCount" "I" (.int (0 : Int32))) (F_e_a : Fld Z h0 a "java/util/ArrayList" "elementData" "[Ljava/lang/Object;" (.ref s_DEF)) (F_s_a : Fld Z h0 a "java/util/ArrayList" "size" "I" (.int (0 : Int32))) (V_DEF : Arv Z h0 s_DEF kd (.object "java/lang/Object") (0 : Int32) [] .null) (E_y : Exa Z h0 y "java/lang/Integer") (g_a : n0 ≤ a) :
    MetFree l (⟨"java/util/ArrayList", "add", "(Ljava/lang/Object;)Z"⟩ : MethodName) (head1 (Jvm.Cond.code (⟨"java/util/ArrayList", "add", "(Ljava/lang/Object;)Z"⟩ : MethodName) jdk_38_method_25_code 2 (some .boolean) :: ws) ({ frames := 4, cells := 1, slots := 10, locals := 56 } : Room)) (fun aA uU => aA = #[(.ref a), (.ref y)] ∧ Z.Warmed39 uU.vm ∧ uU.heap = h0) (fun _ _ _ _ _ => True) (fun _ uU oO uU' => ∃ vV lL, oO = .returned vV ∧ Q7_0 Z a y kd s_DEF h0 n0 vV uU'.heap lL ∧ FrameEnd uU oO uU' lL ({ frames := 4, cells := 1, slots := 10, locals := 56 } : Room).cells ({ frames := 4, cells := 1, slots := 10, locals := 56 } : Room).slots) := by
  refine MetFree.of_bodySF (plainFor_of_name pn_java_util_ArrayList) hisR ?_
  intro p e s m args below meth c s₁ Bd hml0 hP hK
  obtain ⟨rfl, hZ, hh⟩ := hP
  have hx := Bd.exec
  have hby := Bd.bytes
  have hml : c.maxLocals = 2 := hml0
  have hown : s.vm.findClass "java/util/ArrayList" = some m.cls := findClass_of_methodNamed Bd.named
  have hnm := (name_of_methodNamed Bd.named Bd.method).1
  have X0 : Stand p l e ({ frames := 4, cells := 1, slots := 10, locals := 56 } : Room) s m #[(.ref a), (.ref y)] below meth c s₁ [] 0 0 := Stand.of_body Bd
  have e0 : s₁.heap = h0 := by rw [← hh, Bd.state]; rfl
  have N0 := Fr.nil n0
  have O := O0
  have K := Keep.refl h0 [a]
  have pre0 : ∀ t, Steps p.tables e below (s₁.setTop (mkF m 0 #[.val (.ref a), .val (.ref y)] [])) t → Steps p.tables e below (s₁.setTop (entryFrame m #[(.ref a), (.ref y)] 2)) t := fun t k => castTop (ef_7_0 m a y) k
  obtain ⟨T1, X1, e1, st1⟩ := getF X0 hx hZ hown (host := "") (Or.inl (hw _ (List.mem_of_getElem? (i := 42) rfl))) (Via.of (hw _ (List.mem_of_getElem? (i := 43) rfl))) e0 F_m_a (g := (mkF m 2 #[.val (.ref a), .val (.ref y)] [(.ref a), (.ref a)])) rfl rfl (hb hby d7_2)
  have ne_s_DEF_a : s_DEF ≠ a := (Ne.symm (Exa.neArv E_a V_DEF (hw _ (List.mem_of_getElem? (i := 5) rfl))))
  obtain ⟨T2, h2, X2, e2, W2, st2⟩ := putF X1 hx hZ hown (host := "") (Or.inl (hw _ (List.mem_of_getElem? (i := 42) rfl))) (Via.of (hw _ (List.mem_of_getElem? (i := 43) rfl))) e1 F_m_a E_a (Or.inl (hw _ (List.mem_of_getElem? (i := 26) rfl))) (hw _ (List.mem_of_getElem? (i := 5) rfl)) (ty := .int) (by decide) rfl rfl (g := (mkF m 7 #[.val (.ref a), .val (.ref y)] [(.int (1 : Int32)), (.ref a)])) rfl rfl (hb hby d7_7)
  have F_m_a := F_m_a.same W2
  have E_a := E_a.wr W2
  have F_e_a := F_e_a.other W2 (Or.inr (slot_ne (Or.inl (hw _ (List.mem_of_getElem? (i := 29) rfl))) (Or.inl (hw _ (List.mem_of_getElem? (i := 26) rfl))) (by decide) (t := (.array (.object "java/lang/Object"))) (t' := .int) (by decide) (by decide)))
  have F_s_a := F_s_a.other W2 (Or.inr (slot_ne (Or.inl (hw _ (List.mem_of_getElem? (i := 45) rfl))) (Or.inl (hw _ (List.mem_of_getElem? (i := 26) rfl))) (by decide) (t := .int) (t' := .int) (by decide) (by decide)))
  have V_DEF := V_DEF.other W2 ne_s_DEF_a
  have E_y := E_y.wr W2
  have O := O.wr W2 g_a
  have K := K.wr W2 (Or.inl (List.mem_of_getElem? (i := 0) rfl))
  have N2 := Fr.snoc X2 N0 g_a
  obtain ⟨T3, X3, e3, st3⟩ := getF X2 hx hZ hown (host := "") (Or.inl (hw _ (List.mem_of_getElem? (i := 28) rfl))) Via.refl e2 F_e_a (g := (mkF m 13 #[.val (.ref a), .val (.ref y)] [(.ref a), (.ref y), (.ref a)])) rfl rfl (hb hby d7_13)
  obtain ⟨T4, X4, e4, st4⟩ := getF X3 hx hZ hown (host := "") (Or.inl (hw _ (List.mem_of_getElem? (i := 44) rfl))) Via.refl e3 F_s_a (g := (mkF m 17 #[.val (.ref a), .val (.ref y)] [(.ref a), (.ref s_DEF), (.ref y), (.ref a)])) rfl rfl (hb hby d7_17)
  obtain ⟨cq5, q5, q5'⟩ := E_a.cell
  have lt5_a := E_a.lt
  have lt5_y := E_y.lt
  have lt5_s_DEF := V_DEF.lt
  obtain ⟨_, _, ⟨T5, L5, k5, n5⟩, -, X5, ⟨Lc5, hQ5, l5, y5, z5⟩, st5⟩ := X4.privateBack hx (y := (⟨"java/util/ArrayList", "add", "(Ljava/lang/Object;[Ljava/lang/Object;I)V"⟩ : MethodName)) hown (mvT hZ (hw _ (List.mem_of_getElem? (i := 46) rfl))) (mvT hZ (hw _ (List.mem_of_getElem? (i := 47) rfl))) (mvT hZ (hw _ (List.mem_of_getElem? (i := 49) rfl))) (Cond.privateMethod_at (mvP hZ (hw _ (List.mem_of_getElem? (i := 48) rfl)) (args := #[]))) (mvT hZ (hw _ (List.mem_of_getElem? (i := 50) rfl))) (by decide) (backOf (W := 0) (rm8_0 l Z a0 hw [] a y (1 : Int32) kd s_DEF h2 n0 O S_s_DEF E_a F_m_a F_e_a F_s_a V_DEF E_y g_a) hZ (hw _ (List.mem_of_getElem? (i := 50) rfl)) (hw _ (List.mem_of_getElem? (i := 6) rfl)) (by decide) (by decide)) (g := (mkF m 20 #[.val (.ref a), .val (.ref y)] [(.int (0 : Int32)), (.ref s_DEF), (.ref y), (.ref a)])) rfl (by rw [hml]; rfl) (Steps.refl _) (a := a) (by rw [e4]; exact q5) q5' (argsL := [(.ref y), (.ref s_DEF), (.int (0 : Int32))]) (rest := []) (lenOf pd__40Ljava_47lang_47Object_59_91Ljava_47lang_47Object_59I_41V rfl) rfl (by show 2 * 0 + _ ≤ _; exact Nat.le_of_eq rfl) (hb hby d7_20) (fun _ _ => ⟨rfl, e4, (by decide : 0 + 1 ≤ _), (by decide : 0 + 10 ≤ _)⟩)
  dsimp only [Pt.U, Pt.locs, Pt.cells, Pt.slots] at X5 l5 y5 z5 st5 hQ5
  subst l5 y5 z5
  obtain ⟨z_5, kz_5, rfl, N5q, K5, F_m_a_c5, F_e_a_c5, F_s_a_c5, V_z_c5, gz_5, gn_5, ov_5⟩ := hQ5
  have N5 := Fr.app N2 N5q
  have E_a := E_a.keep K5
  have V_DEF := V_DEF.keep K5 (ninS ne_s_DEF_a nin0)
  have E_y := E_y.keep K5
  have ne_a_z_5 : a ≠ z_5 := Nat.ne_of_lt (Nat.lt_of_lt_of_le lt5_a gz_5)
  have ne_y_z_5 : y ≠ z_5 := Nat.ne_of_lt (Nat.lt_of_lt_of_le lt5_y gz_5)
  have ne_s_DEF_z_5 : s_DEF ≠ z_5 := Nat.ne_of_lt (Nat.lt_of_lt_of_le lt5_s_DEF gz_5)
  have g_z_5 := gn_5
  have z_z_5 : h0.size ≤ z_5 := Nat.le_trans K.1 gz_5
  have O := O.keep K5 (allS g_a all0)
  have K := K.trans K5 (allS (Or.inl (List.mem_of_getElem? (i := 0) rfl)) all0)
  have w6 : ∀ t, Steps p.tables e below (T5.setTop (mkF m 24 #[.val (.ref a), .val (.ref y)] [(.int (1 : Int32))])) t → Steps p.tables e below (s₁.setTop (entryFrame m #[(.ref a), (.ref y)] 2)) t := fun t k => by
    refine pre0 t ?_
    refine XS.aloadN X0.here hx rfl (hb hby d7_0) rfl rfl ?_
    show Steps p.tables e below (s₁.setTop (mkF m 1 #[.val (.ref a), .val (.ref y)] [(.ref a)])) _
    refine XS.dup X0.here hx rfl (hb hby d7_1) rfl rfl ?_
    show Steps p.tables e below (s₁.setTop (mkF m 2 #[.val (.ref a), .val (.ref y)] [(.ref a), (.ref a)])) _
    refine st1 _ ?_
    show Steps p.tables e below (T1.setTop (mkF m 5 #[.val (.ref a), .val (.ref y)] [(.int (0 : Int32)), (.ref a)])) _
    refine XS.iconst X1.here hx rfl (hb hby d7_5) ?_
    show Steps p.tables e below (T1.setTop (mkF m 6 #[.val (.ref a), .val (.ref y)] [(.int (1 : Int32)), (.int (0 : Int32)), (.ref a)])) _
    refine XS.iadd X1.here hx rfl (hb hby d7_6) rfl ?_
    show Steps p.tables e below (T1.setTop (mkF m 7 #[.val (.ref a), .val (.ref y)] [(.int (1 : Int32)), (.ref a)])) _
    refine st2 _ ?_
    show Steps p.tables e below (T2.setTop (mkF m 10 #[.val (.ref a), .val (.ref y)] [])) _
    refine XS.aloadN X2.here hx rfl (hb hby d7_10) rfl rfl ?_
    show Steps p.tables e below (T2.setTop (mkF m 11 #[.val (.ref a), .val (.ref y)] [(.ref a)])) _
    refine XS.aloadN X2.here hx rfl (hb hby d7_11) rfl rfl ?_
    show Steps p.tables e below (T2.setTop (mkF m 12 #[.val (.ref a), .val (.ref y)] [(.ref y), (.ref a)])) _
    refine XS.aloadN X2.here hx rfl (hb hby d7_12) rfl rfl ?_
    show Steps p.tables e below (T2.setTop (mkF m 13 #[.val (.ref a), .val (.ref y)] [(.ref a), (.ref y), (.ref a)])) _
    refine st3 _ ?_
    show Steps p.tables e below (T3.setTop (mkF m 16 #[.val (.ref a), .val (.ref y)] [(.ref s_DEF), (.ref y), (.ref a)])) _
    refine XS.aloadN X3.here hx rfl (hb hby d7_16) rfl rfl ?_
    show Steps p.tables e below (T3.setTop (mkF m 17 #[.val (.ref a), .val (.ref y)] [(.ref a), (.ref s_DEF), (.ref y), (.ref a)])) _
    refine st4 _ ?_
    show Steps p.tables e below (T4.setTop (mkF m 20 #[.val (.ref a), .val (.ref y)] [(.int (0 : Int32)), (.ref s_DEF), (.ref y), (.ref a)])) _
    refine st5.trans ?_
    show Steps p.tables e below (T5.setTop (mkF m 23 #[.val (.ref a), .val (.ref y)] [])) _
    refine XS.iconst X5.here hx rfl (hb hby d7_23) ?_
    show Steps p.tables e below (T5.setTop (mkF m 24 #[.val (.ref a), .val (.ref y)] [(.int (1 : Int32))])) _
    exact k
  obtain ⟨fs, hr, hrun, hended, hW, hsame⟩ := X5.leave (v := some (.int (1 : Int32))) (fun h => by rw [Bd.returns] at h; cases h)
  refine ⟨_, _, w6 _ ?_, hrun, hended, _, _, rfl, ?_, ⟨_, rfl⟩, hW, hsame.mono (by decide) (by decide)⟩
  · exact retN X5 hx (t := .boolean) Bd.returns (by simp) (hb hby d7_24) hr
  · show Q7_0 Z a y kd s_DEF h0 n0 _ T5.heap _
    exact ⟨z_5, kz_5, rfl, N5, K, F_m_a_c5, F_e_a_c5, F_s_a_c5, V_z_c5, z_z_5, g_z_5, ov_5⟩
theorem ef_7_1 (m : MethodId) (x0 : Addr) (x1 : Addr) : entryFrame m #[(.ref x0), (.ref x1)] 2 = mkF m 0 #[.val (.ref x0), .val (.ref x1)] [] := by first | (simp [entryFrame, mkF, argsToLocals, Value.category]; done) | rfl
def Q7_1 (Z : State) (a : Addr) (y : Addr) (d : Addr) (kb : ClassId) (x1 : Addr) (h0 : Heap) (n0 : Nat) (v : Option Value) (h : Heap) (L : List Loc) : Prop := v = some (.int (1 : Int32)) ∧ Fr n0 L ∧ Keep h0 h [a, d] ∧ Fld Z h a "java/util/AbstractList" "modCount" "I" (.int (2 : Int32)) ∧ Fld Z h a "java/util/ArrayList" "elementData" "[Ljava/lang/Object;" (.ref d) ∧ Fld Z h a "java/util/ArrayList" "size" "I" (.int (2 : Int32)) ∧ Arv Z h d kb (.object "java/lang/Object") (10 : Int32) [(.ref x1), (.ref y), .null, .null, .null, .null, .null, .null, .null, .null] .null
set_option maxRecDepth 65536 in
set_option maxHeartbeats 40000000 in
theorem rm7_1 (l : Launch) (Z : State) (a0 : Array Value) (hw : ∀ d ∈ tables_1, d.before a0 Z = true) (ws : List Jvm.Cond) (a : Addr) (y : Addr) (d : Addr) (kb : ClassId) (x1 : Addr) (h0 : Heap) (n0 : Nat) (O0 : Old Z n0 h0) (E_a : Exa Z h0 a "java/util/ArrayList") (F_m_a : Fld Z h0 a "java/util/AbstractList" "modCount" "I" (.int (1 : Int32))) (F_e_a : Fld Z h0 a "java/util/ArrayList" "elementData" "[Ljava/lang/Object;" (.ref d)) (F_s_a : Fld Z h0 a "java/util/ArrayList" "size" "I" (.int (1 : Int32))) (V_d : Arv Z h0 d kb (.object "java/lang/Object") (10 : Int32) [(.ref x1), .null, .null, .null, .null, .null, .null, .null, .null, .null] .null) (E_y : Exa Z h0 y "java/lang/Integer") (ov : Ovr Z kb "java/lang/Object") (g_a : n0 ≤ a) (g_d : n0 ≤ d) :
    MetFree l (⟨"java/util/ArrayList", "add", "(Ljava/lang/Object;)Z"⟩ : MethodName) (head1 (Jvm.Cond.code (⟨"java/util/ArrayList", "add", "(Ljava/lang/Object;)Z"⟩ : MethodName) jdk_38_method_25_code 2 (some .boolean) :: ws) ({ frames := 1, cells := 0, slots := 0, locals := 15 } : Room)) (fun aA uU => aA = #[(.ref a), (.ref y)] ∧ Z.Warmed39 uU.vm ∧ uU.heap = h0) (fun _ _ _ _ _ => True) (fun _ uU oO uU' => ∃ vV lL, oO = .returned vV ∧ Q7_1 Z a y d kb x1  h0 n0 vV uU'.heap lL ∧ FrameEnd uU oO uU' lL ({ frames := 1, cells := 0, slots := 0, locals := 15 } : Room).cells ({ frames := 1, cells := 0, slots := 0, locals := 15 } : Room).slots) := by
  refine MetFree.of_bodySF (plainFor_of_name pn_java_util_ArrayList) hisR ?_
  intro p e s m args below meth c s₁ Bd hml0 hP hK
  obtain ⟨rfl, hZ, hh⟩ := hP
  have hx := Bd.exec
  have hby := Bd.bytes
  have hml : c.maxLocals = 2 := hml0
  have hown : s.vm.findClass "java/util/ArrayList" = some m.cls := findClass_of_methodNamed Bd.named
  have hnm := (name_of_methodNamed Bd.named Bd.method).1
  have X0 : Stand p l e ({ frames := 1, cells := 0, slots := 0, locals := 15 } : Room) s m #[(.ref a), (.ref y)] below meth c s₁ [] 0 0 := Stand.of_body Bd
  have e0 : s₁.heap = h0 := by rw [← hh, Bd.state]; rfl
  have N0 := Fr.nil n0
  have O := O0
  have K := Keep.refl h0 [a, d]
  have pre0 : ∀ t, Steps p.tables e below (s₁.setTop (mkF m 0 #[.val (.ref a), .val (.ref y)] [])) t → Steps p.tables e below (s₁.setTop (entryFrame m #[(.ref a), (.ref y)] 2)) t := fun t k => castTop (ef_7_1 m a y) k
  obtain ⟨T1, X1, e1, st1⟩ := getF X0 hx hZ hown (host := "") (Or.inl (hw _ (List.mem_of_getElem? (i := 42) rfl))) (Via.of (hw _ (List.mem_of_getElem? (i := 43) rfl))) e0 F_m_a (g := (mkF m 2 #[.val (.ref a), .val (.ref y)] [(.ref a), (.ref a)])) rfl rfl (hb hby d7_2)
  have ne_d_a : d ≠ a := (Ne.symm (Exa.neArv E_a V_d (hw _ (List.mem_of_getElem? (i := 5) rfl))))
  obtain ⟨T2, h2, X2, e2, W2, st2⟩ := putF X1 hx hZ hown (host := "") (Or.inl (hw _ (List.mem_of_getElem? (i := 42) rfl))) (Via.of (hw _ (List.mem_of_getElem? (i := 43) rfl))) e1 F_m_a E_a (Or.inl (hw _ (List.mem_of_getElem? (i := 26) rfl))) (hw _ (List.mem_of_getElem? (i := 5) rfl)) (ty := .int) (by decide) rfl rfl (g := (mkF m 7 #[.val (.ref a), .val (.ref y)] [(.int (2 : Int32)), (.ref a)])) rfl rfl (hb hby d7_7)
  have F_m_a := F_m_a.same W2
  have E_a := E_a.wr W2
  have F_e_a := F_e_a.other W2 (Or.inr (slot_ne (Or.inl (hw _ (List.mem_of_getElem? (i := 29) rfl))) (Or.inl (hw _ (List.mem_of_getElem? (i := 26) rfl))) (by decide) (t := (.array (.object "java/lang/Object"))) (t' := .int) (by decide) (by decide)))
  have F_s_a := F_s_a.other W2 (Or.inr (slot_ne (Or.inl (hw _ (List.mem_of_getElem? (i := 45) rfl))) (Or.inl (hw _ (List.mem_of_getElem? (i := 26) rfl))) (by decide) (t := .int) (t' := .int) (by decide) (by decide)))
  have V_d := V_d.other W2 ne_d_a
  have E_y := E_y.wr W2
  have O := O.wr W2 g_a
  have K := K.wr W2 (Or.inl (List.mem_of_getElem? (i := 0) rfl))
  have N2 := Fr.snoc X2 N0 g_a
  obtain ⟨T3, X3, e3, st3⟩ := getF X2 hx hZ hown (host := "") (Or.inl (hw _ (List.mem_of_getElem? (i := 28) rfl))) Via.refl e2 F_e_a (g := (mkF m 13 #[.val (.ref a), .val (.ref y)] [(.ref a), (.ref y), (.ref a)])) rfl rfl (hb hby d7_13)
  obtain ⟨T4, X4, e4, st4⟩ := getF X3 hx hZ hown (host := "") (Or.inl (hw _ (List.mem_of_getElem? (i := 44) rfl))) Via.refl e3 F_s_a (g := (mkF m 17 #[.val (.ref a), .val (.ref y)] [(.ref a), (.ref d), (.ref y), (.ref a)])) rfl rfl (hb hby d7_17)
  obtain ⟨cq5, q5, q5'⟩ := E_a.cell
  obtain ⟨_, _, ⟨T5, L5, k5, n5⟩, -, X5, ⟨Lc5, hQ5, l5, y5, z5⟩, st5⟩ := X4.privateBack hx (y := (⟨"java/util/ArrayList", "add", "(Ljava/lang/Object;[Ljava/lang/Object;I)V"⟩ : MethodName)) hown (mvT hZ (hw _ (List.mem_of_getElem? (i := 46) rfl))) (mvT hZ (hw _ (List.mem_of_getElem? (i := 47) rfl))) (mvT hZ (hw _ (List.mem_of_getElem? (i := 49) rfl))) (Cond.privateMethod_at (mvP hZ (hw _ (List.mem_of_getElem? (i := 48) rfl)) (args := #[]))) (mvT hZ (hw _ (List.mem_of_getElem? (i := 50) rfl))) (by decide) (backOf (W := 0) (rm8_1 l Z a0 hw [] a y d (2 : Int32) kb x1 h2 n0 O E_a F_m_a F_e_a F_s_a V_d E_y ov g_a g_d) hZ (hw _ (List.mem_of_getElem? (i := 50) rfl)) (hw _ (List.mem_of_getElem? (i := 6) rfl)) (by decide) (by decide)) (g := (mkF m 20 #[.val (.ref a), .val (.ref y)] [(.int (1 : Int32)), (.ref d), (.ref y), (.ref a)])) rfl (by rw [hml]; rfl) (Steps.refl _) (a := a) (by rw [e4]; exact q5) q5' (argsL := [(.ref y), (.ref d), (.int (1 : Int32))]) (rest := []) (lenOf pd__40Ljava_47lang_47Object_59_91Ljava_47lang_47Object_59I_41V rfl) rfl (by show 2 * 0 + _ ≤ _; exact Nat.le_of_eq rfl) (hb hby d7_20) (fun _ _ => ⟨rfl, e4, (by decide : 0 + 0 ≤ _), (by decide : 0 + 0 ≤ _)⟩)
  dsimp only [Pt.U, Pt.locs, Pt.cells, Pt.slots] at X5 l5 y5 z5 st5 hQ5
  subst l5 y5 z5
  obtain ⟨rfl, N5q, K5, F_m_a_c5, F_e_a_c5, F_s_a_c5, V_d_c5⟩ := hQ5
  have N5 := Fr.app N2 N5q
  have E_a := E_a.keep K5
  have E_y := E_y.keep K5
  have O := O.keep K5 (allS g_a (allS g_d all0))
  have K := K.trans K5 (allS (Or.inl (List.mem_of_getElem? (i := 0) rfl)) (allS (Or.inl (List.mem_of_getElem? (i := 1) rfl)) all0))
  have w6 : ∀ t, Steps p.tables e below (T5.setTop (mkF m 24 #[.val (.ref a), .val (.ref y)] [(.int (1 : Int32))])) t → Steps p.tables e below (s₁.setTop (entryFrame m #[(.ref a), (.ref y)] 2)) t := fun t k => by
    refine pre0 t ?_
    refine XS.aloadN X0.here hx rfl (hb hby d7_0) rfl rfl ?_
    show Steps p.tables e below (s₁.setTop (mkF m 1 #[.val (.ref a), .val (.ref y)] [(.ref a)])) _
    refine XS.dup X0.here hx rfl (hb hby d7_1) rfl rfl ?_
    show Steps p.tables e below (s₁.setTop (mkF m 2 #[.val (.ref a), .val (.ref y)] [(.ref a), (.ref a)])) _
    refine st1 _ ?_
    show Steps p.tables e below (T1.setTop (mkF m 5 #[.val (.ref a), .val (.ref y)] [(.int (1 : Int32)), (.ref a)])) _
    refine XS.iconst X1.here hx rfl (hb hby d7_5) ?_
    show Steps p.tables e below (T1.setTop (mkF m 6 #[.val (.ref a), .val (.ref y)] [(.int (1 : Int32)), (.int (1 : Int32)), (.ref a)])) _
    refine XS.iadd X1.here hx rfl (hb hby d7_6) rfl ?_
    show Steps p.tables e below (T1.setTop (mkF m 7 #[.val (.ref a), .val (.ref y)] [(.int (2 : Int32)), (.ref a)])) _
    refine st2 _ ?_
    show Steps p.tables e below (T2.setTop (mkF m 10 #[.val (.ref a), .val (.ref y)] [])) _
    refine XS.aloadN X2.here hx rfl (hb hby d7_10) rfl rfl ?_
    show Steps p.tables e below (T2.setTop (mkF m 11 #[.val (.ref a), .val (.ref y)] [(.ref a)])) _
    refine XS.aloadN X2.here hx rfl (hb hby d7_11) rfl rfl ?_
    show Steps p.tables e below (T2.setTop (mkF m 12 #[.val (.ref a), .val (.ref y)] [(.ref y), (.ref a)])) _
    refine XS.aloadN X2.here hx rfl (hb hby d7_12) rfl rfl ?_
    show Steps p.tables e below (T2.setTop (mkF m 13 #[.val (.ref a), .val (.ref y)] [(.ref a), (.ref y), (.ref a)])) _
    refine st3 _ ?_
    show Steps p.tables e below (T3.setTop (mkF m 16 #[.val (.ref a), .val (.ref y)] [(.ref d), (.ref y), (.ref a)])) _
    refine XS.aloadN X3.here hx rfl (hb hby d7_16) rfl rfl ?_
    show Steps p.tables e below (T3.setTop (mkF m 17 #[.val (.ref a), .val (.ref y)] [(.ref a), (.ref d), (.ref y), (.ref a)])) _
    refine st4 _ ?_
    show Steps p.tables e below (T4.setTop (mkF m 20 #[.val (.ref a), .val (.ref y)] [(.int (1 : Int32)), (.ref d), (.ref y), (.ref a)])) _
    refine st5.trans ?_
    show Steps p.tables e below (T5.setTop (mkF m 23 #[.val (.ref a), .val (.ref y)] [])) _
    refine XS.iconst X5.here hx rfl (hb hby d7_23) ?_
    show Steps p.tables e below (T5.setTop (mkF m 24 #[.val (.ref a), .val (.ref y)] [(.int (1 : Int32))])) _
    exact k
  obtain ⟨fs, hr, hrun, hended, hW, hsame⟩ := X5.leave (v := some (.int (1 : Int32))) (fun h => by rw [Bd.returns] at h; cases h)
  refine ⟨_, _, w6 _ ?_, hrun, hended, _, _, rfl, ?_, ⟨_, rfl⟩, hW, hsame.mono (by decide) (by decide)⟩
  · exact retN X5 hx (t := .boolean) Bd.returns (by simp) (hb hby d7_24) hr
  · show Q7_1 Z a y d kb x1  h0 n0 _ T5.heap _
    exact ⟨rfl, N5, K, F_m_a_c5, F_e_a_c5, F_s_a_c5, V_d_c5⟩
theorem d12_0 : decode prog_69_method_1_code 0 = .ok (.aload_n 0, 1) := by decide +kernel
theorem d12_1 : decode prog_69_method_1_code 1 = .ok (.invokespecial 1, 3) := by decide +kernel
theorem d12_4 : decode prog_69_method_1_code 4 = .ok (.aload_n 0, 1) := by decide +kernel
theorem d12_5 : decode prog_69_method_1_code 5 = .ok (.iload_n 1, 1) := by decide +kernel
theorem d12_6 : decode prog_69_method_1_code 6 = .ok (.putfield 7, 3) := by decide +kernel
theorem d12_9 : decode prog_69_method_1_code 9 = .ok (.aload_n 0, 1) := by decide +kernel
theorem d12_10 : decode prog_69_method_1_code 10 = .ok (.iload_n 2, 1) := by decide +kernel
theorem d12_11 : decode prog_69_method_1_code 11 = .ok (.putfield 13, 3) := by decide +kernel
theorem d12_14 : decode prog_69_method_1_code 14 = .ok (.aload_n 0, 1) := by decide +kernel
theorem d12_15 : decode prog_69_method_1_code 15 = .ok (.iload_n 3, 1) := by decide +kernel
theorem d12_16 : decode prog_69_method_1_code 16 = .ok (.putfield 16, 3) := by decide +kernel
theorem d12_19 : decode prog_69_method_1_code 19 = .ok (.return_, 1) := by decide +kernel
theorem ef_12 (m : MethodId) (x0 : Addr) : entryFrame m #[(.ref x0), (.int (0 : Int32)), (.int (0 : Int32)), (.int (0 : Int32))] 4 = mkF m 0 #[.val (.ref x0), .val (.int (0 : Int32)), .val (.int (0 : Int32)), .val (.int (0 : Int32))] [] := by first | (simp [entryFrame, mkF, argsToLocals, Value.category]; done) | rfl
def Q12 (Z : State) (a : Addr) (h0 : Heap) (n0 : Nat) (v : Option Value) (h : Heap) (L : List Loc) : Prop := v = none ∧ Fr n0 L ∧ Keep h0 h [a] ∧ Fld Z h a "com/example/hantei/hantei/packs/plandice/PlanDiceCheck" "plan" "I" (.int (0 : Int32)) ∧ Fld Z h a "com/example/hantei/hantei/packs/plandice/PlanDiceCheck" "judgement" "I" (.int (0 : Int32)) ∧ Fld Z h a "com/example/hantei/hantei/packs/plandice/PlanDiceCheck" "target" "I" (.int (0 : Int32))
set_option maxRecDepth 65536 in
set_option maxHeartbeats 40000000 in
theorem rm12 (l : Launch) (Z : State) (a0 : Array Value) (hw : ∀ d ∈ tables_1, d.before a0 Z = true) (ws : List Jvm.Cond) (a : Addr) (h0 : Heap) (n0 : Nat) (O0 : Old Z n0 h0) (E_a : Exa Z h0 a "com/example/hantei/hantei/packs/plandice/PlanDiceCheck") (F_plan_a : Fld Z h0 a "com/example/hantei/hantei/packs/plandice/PlanDiceCheck" "plan" "I" (.int (0 : Int32))) (F_judgement_a : Fld Z h0 a "com/example/hantei/hantei/packs/plandice/PlanDiceCheck" "judgement" "I" (.int (0 : Int32))) (F_target_a : Fld Z h0 a "com/example/hantei/hantei/packs/plandice/PlanDiceCheck" "target" "I" (.int (0 : Int32))) (g_a : n0 ≤ a) :
    MetFree l (⟨"com/example/hantei/hantei/packs/plandice/PlanDiceCheck", "<init>", "(III)V"⟩ : MethodName) (head1 (Jvm.Cond.code (⟨"com/example/hantei/hantei/packs/plandice/PlanDiceCheck", "<init>", "(III)V"⟩ : MethodName) prog_69_method_1_code 4 none :: ws) ({ frames := 2, cells := 0, slots := 0, locals := 24 } : Room)) (fun aA uU => aA = #[(.ref a), (.int (0 : Int32)), (.int (0 : Int32)), (.int (0 : Int32))] ∧ Z.Warmed39 uU.vm ∧ uU.heap = h0) (fun _ _ _ _ _ => True) (fun _ uU oO uU' => ∃ vV lL, oO = .returned vV ∧ Q12 Z a  h0 n0 vV uU'.heap lL ∧ FrameEnd uU oO uU' lL ({ frames := 2, cells := 0, slots := 0, locals := 24 } : Room).cells ({ frames := 2, cells := 0, slots := 0, locals := 24 } : Room).slots) := by
  refine MetFree.of_bodySF (plainFor_of_name pn_com_example_hantei_hantei_packs_plandice_PlanDiceCheck) hisR ?_
  intro p e s m args below meth c s₁ Bd hml0 hP hK
  obtain ⟨rfl, hZ, hh⟩ := hP
  have hx := Bd.exec
  have hby := Bd.bytes
  have hml : c.maxLocals = 4 := hml0
  have hown : s.vm.findClass "com/example/hantei/hantei/packs/plandice/PlanDiceCheck" = some m.cls := findClass_of_methodNamed Bd.named
  have hnm := (name_of_methodNamed Bd.named Bd.method).1
  have X0 : Stand p l e ({ frames := 2, cells := 0, slots := 0, locals := 24 } : Room) s m #[(.ref a), (.int (0 : Int32)), (.int (0 : Int32)), (.int (0 : Int32))] below meth c s₁ [] 0 0 := Stand.of_body Bd
  have e0 : s₁.heap = h0 := by rw [← hh, Bd.state]; rfl
  have N0 := Fr.nil n0
  have O := O0
  have K := Keep.refl h0 [a]
  have pre0 : ∀ t, Steps p.tables e below (s₁.setTop (mkF m 0 #[.val (.ref a), .val (.int (0 : Int32)), .val (.int (0 : Int32)), .val (.int (0 : Int32))] [])) t → Steps p.tables e below (s₁.setTop (entryFrame m #[(.ref a), (.int (0 : Int32)), (.int (0 : Int32)), (.int (0 : Int32))] 4)) t := fun t k => castTop (ef_12 m a) k
  obtain ⟨_, _, ⟨T1, L1, k1, n1⟩, -, X1, ⟨Lc1, hQ1, l1, y1, z1⟩, st1⟩ := X0.specialBack hx (y := (⟨"java/lang/Record", "<init>", "()V"⟩ : MethodName)) rfl hown (mvT hZ (hw _ (List.mem_of_getElem? (i := 73) rfl))) (mvT hZ (hw _ (List.mem_of_getElem? (i := 74) rfl))) (mvT hZ (hw _ (List.mem_of_getElem? (i := 77) rfl))) (by decide) (backOf (W := 0) (rm13 l Z a0 hw [] a h0 n0 O ) hZ (hw _ (List.mem_of_getElem? (i := 77) rfl)) (hw _ (List.mem_of_getElem? (i := 76) rfl)) (by decide) (by decide)) (g := (mkF m 1 #[.val (.ref a), .val (.int (0 : Int32)), .val (.int (0 : Int32)), .val (.int (0 : Int32))] [(.ref a)])) rfl (by rw [hml]; rfl) (Steps.refl _) (a := a) (argsL := []) (rest := []) (lenOf pd__40_41V rfl) rfl (by show 2 * 0 + _ ≤ _; exact Nat.le_of_eq rfl) (hb hby d12_1) (fun _ _ => ⟨rfl, e0, (by decide : 0 + 0 ≤ _), (by decide : 0 + 0 ≤ _)⟩)
  dsimp only [Pt.U, Pt.locs, Pt.cells, Pt.slots] at X1 l1 y1 z1 st1 hQ1
  subst l1 y1 z1
  obtain ⟨rfl, N1q, eh1⟩ := hQ1
  have N1 := Fr.app N0 N1q
  obtain ⟨T2, h2, X2, e2, W2, st2⟩ := putF X1 hx hZ hown (host := "") (Or.inl (hw _ (List.mem_of_getElem? (i := 79) rfl))) Via.refl eh1 F_plan_a E_a (Or.inr ⟨(hw _ (List.mem_of_getElem? (i := 80) rfl)), rfl, hnm⟩) (hw _ (List.mem_of_getElem? (i := 69) rfl)) (ty := .int) (by decide) rfl rfl (g := (mkF m 6 #[.val (.ref a), .val (.int (0 : Int32)), .val (.int (0 : Int32)), .val (.int (0 : Int32))] [(.int (0 : Int32)), (.ref a)])) rfl rfl (hb hby d12_6)
  have F_plan_a := F_plan_a.same W2
  have E_a := E_a.wr W2
  have F_judgement_a := F_judgement_a.other W2 (Or.inr (slot_ne (Or.inr (hw _ (List.mem_of_getElem? (i := 82) rfl))) (Or.inr (hw _ (List.mem_of_getElem? (i := 80) rfl))) (by decide) (t := .int) (t' := .int) (by decide) (by decide)))
  have F_target_a := F_target_a.other W2 (Or.inr (slot_ne (Or.inr (hw _ (List.mem_of_getElem? (i := 84) rfl))) (Or.inr (hw _ (List.mem_of_getElem? (i := 80) rfl))) (by decide) (t := .int) (t' := .int) (by decide) (by decide)))
  have O := O.wr W2 g_a
  have K := K.wr W2 (Or.inl (List.mem_of_getElem? (i := 0) rfl))
  have N2 := Fr.snoc X2 N1 g_a
  obtain ⟨T3, h3, X3, e3, W3, st3⟩ := putF X2 hx hZ hown (host := "") (Or.inl (hw _ (List.mem_of_getElem? (i := 81) rfl))) Via.refl e2 F_judgement_a E_a (Or.inr ⟨(hw _ (List.mem_of_getElem? (i := 82) rfl)), rfl, hnm⟩) (hw _ (List.mem_of_getElem? (i := 69) rfl)) (ty := .int) (by decide) rfl rfl (g := (mkF m 11 #[.val (.ref a), .val (.int (0 : Int32)), .val (.int (0 : Int32)), .val (.int (0 : Int32))] [(.int (0 : Int32)), (.ref a)])) rfl rfl (hb hby d12_11)
  have F_judgement_a := F_judgement_a.same W3
  have E_a := E_a.wr W3
  have F_plan_a := F_plan_a.other W3 (Or.inr (slot_ne (Or.inr (hw _ (List.mem_of_getElem? (i := 80) rfl))) (Or.inr (hw _ (List.mem_of_getElem? (i := 82) rfl))) (by decide) (t := .int) (t' := .int) (by decide) (by decide)))
  have F_target_a := F_target_a.other W3 (Or.inr (slot_ne (Or.inr (hw _ (List.mem_of_getElem? (i := 84) rfl))) (Or.inr (hw _ (List.mem_of_getElem? (i := 82) rfl))) (by decide) (t := .int) (t' := .int) (by decide) (by decide)))
  have O := O.wr W3 g_a
  have K := K.wr W3 (Or.inl (List.mem_of_getElem? (i := 0) rfl))
  have N3 := Fr.snoc X3 N2 g_a
  obtain ⟨T4, h4, X4, e4, W4, st4⟩ := putF X3 hx hZ hown (host := "") (Or.inl (hw _ (List.mem_of_getElem? (i := 83) rfl))) Via.refl e3 F_target_a E_a (Or.inr ⟨(hw _ (List.mem_of_getElem? (i := 84) rfl)), rfl, hnm⟩) (hw _ (List.mem_of_getElem? (i := 69) rfl)) (ty := .int) (by decide) rfl rfl (g := (mkF m 16 #[.val (.ref a), .val (.int (0 : Int32)), .val (.int (0 : Int32)), .val (.int (0 : Int32))] [(.int (0 : Int32)), (.ref a)])) rfl rfl (hb hby d12_16)
  have F_target_a := F_target_a.same W4
  have E_a := E_a.wr W4
  have F_plan_a := F_plan_a.other W4 (Or.inr (slot_ne (Or.inr (hw _ (List.mem_of_getElem? (i := 80) rfl))) (Or.inr (hw _ (List.mem_of_getElem? (i := 84) rfl))) (by decide) (t := .int) (t' := .int) (by decide) (by decide)))
  have F_judgement_a := F_judgement_a.other W4 (Or.inr (slot_ne (Or.inr (hw _ (List.mem_of_getElem? (i := 82) rfl))) (Or.inr (hw _ (List.mem_of_getElem? (i := 84) rfl))) (by decide) (t := .int) (t' := .int) (by decide) (by decide)))
  have O := O.wr W4 g_a
  have K := K.wr W4 (Or.inl (List.mem_of_getElem? (i := 0) rfl))
  have N4 := Fr.snoc X4 N3 g_a
  have w5 : ∀ t, Steps p.tables e below (T4.setTop (mkF m 19 #[.val (.ref a), .val (.int (0 : Int32)), .val (.int (0 : Int32)), .val (.int (0 : Int32))] [])) t → Steps p.tables e below (s₁.setTop (entryFrame m #[(.ref a), (.int (0 : Int32)), (.int (0 : Int32)), (.int (0 : Int32))] 4)) t := fun t k => by
    refine pre0 t ?_
    refine XS.aloadN X0.here hx rfl (hb hby d12_0) rfl rfl ?_
    show Steps p.tables e below (s₁.setTop (mkF m 1 #[.val (.ref a), .val (.int (0 : Int32)), .val (.int (0 : Int32)), .val (.int (0 : Int32))] [(.ref a)])) _
    refine st1.trans ?_
    show Steps p.tables e below (T1.setTop (mkF m 4 #[.val (.ref a), .val (.int (0 : Int32)), .val (.int (0 : Int32)), .val (.int (0 : Int32))] [])) _
    refine XS.aloadN X1.here hx rfl (hb hby d12_4) rfl rfl ?_
    show Steps p.tables e below (T1.setTop (mkF m 5 #[.val (.ref a), .val (.int (0 : Int32)), .val (.int (0 : Int32)), .val (.int (0 : Int32))] [(.ref a)])) _
    refine XS.iloadN X1.here hx rfl (hb hby d12_5) rfl ?_
    show Steps p.tables e below (T1.setTop (mkF m 6 #[.val (.ref a), .val (.int (0 : Int32)), .val (.int (0 : Int32)), .val (.int (0 : Int32))] [(.int (0 : Int32)), (.ref a)])) _
    refine st2 _ ?_
    show Steps p.tables e below (T2.setTop (mkF m 9 #[.val (.ref a), .val (.int (0 : Int32)), .val (.int (0 : Int32)), .val (.int (0 : Int32))] [])) _
    refine XS.aloadN X2.here hx rfl (hb hby d12_9) rfl rfl ?_
    show Steps p.tables e below (T2.setTop (mkF m 10 #[.val (.ref a), .val (.int (0 : Int32)), .val (.int (0 : Int32)), .val (.int (0 : Int32))] [(.ref a)])) _
    refine XS.iloadN X2.here hx rfl (hb hby d12_10) rfl ?_
    show Steps p.tables e below (T2.setTop (mkF m 11 #[.val (.ref a), .val (.int (0 : Int32)), .val (.int (0 : Int32)), .val (.int (0 : Int32))] [(.int (0 : Int32)), (.ref a)])) _
    refine st3 _ ?_
    show Steps p.tables e below (T3.setTop (mkF m 14 #[.val (.ref a), .val (.int (0 : Int32)), .val (.int (0 : Int32)), .val (.int (0 : Int32))] [])) _
    refine XS.aloadN X3.here hx rfl (hb hby d12_14) rfl rfl ?_
    show Steps p.tables e below (T3.setTop (mkF m 15 #[.val (.ref a), .val (.int (0 : Int32)), .val (.int (0 : Int32)), .val (.int (0 : Int32))] [(.ref a)])) _
    refine XS.iloadN X3.here hx rfl (hb hby d12_15) rfl ?_
    show Steps p.tables e below (T3.setTop (mkF m 16 #[.val (.ref a), .val (.int (0 : Int32)), .val (.int (0 : Int32)), .val (.int (0 : Int32))] [(.int (0 : Int32)), (.ref a)])) _
    refine st4 _ ?_
    show Steps p.tables e below (T4.setTop (mkF m 19 #[.val (.ref a), .val (.int (0 : Int32)), .val (.int (0 : Int32)), .val (.int (0 : Int32))] [])) _
    exact k
  obtain ⟨fs, hr, hrun, hended, hW, hsame⟩ := X4.leave (v := none) (fun _ => rfl)
  refine ⟨_, _, w5 _ ?_, hrun, hended, _, _, rfl, ?_, ⟨_, rfl⟩, hW, hsame.mono (by decide) (by decide)⟩
  · exact X4.returnOut hx Bd.returns (hb hby d12_19) hr
  · show Q12 Z a  h0 n0 _ T4.heap _
    rw [e4]
    exact ⟨rfl, N4, K, F_plan_a, F_judgement_a, F_target_a⟩
theorem d17_0 : decode jdk_41_method_11_code 0 = .ok (.iload_n 0, 1) := by decide +kernel
theorem d17_1 : decode jdk_41_method_11_code 1 = .ok (.ifCond .lt 8, 3) := by decide +kernel
theorem d17_4 : decode jdk_41_method_11_code 4 = .ok (.iload_n 0, 1) := by decide +kernel
theorem d17_5 : decode jdk_41_method_11_code 5 = .ok (.iload_n 1, 1) := by decide +kernel
theorem d17_6 : decode jdk_41_method_11_code 6 = .ok (.if_icmp .lt 10, 3) := by decide +kernel
theorem d17_16 : decode jdk_41_method_11_code 16 = .ok (.iload_n 0, 1) := by decide +kernel
theorem d17_17 : decode jdk_41_method_11_code 17 = .ok (.ireturn, 1) := by decide +kernel
theorem pn_jdk_internal_util_Preconditions : plainName "jdk/internal/util/Preconditions" = true := by first | (simp [plainName, overriddenIn]; done) | decide +kernel
theorem ef_17 (m : MethodId) : entryFrame m #[(.int (0 : Int32)), (.int (2 : Int32)), .null] 3 = mkF m 0 #[.val (.int (0 : Int32)), .val (.int (2 : Int32)), .val .null] [] := by first | (simp [entryFrame, mkF, argsToLocals, Value.category]; done) | rfl
def Q17 (Z : State) (h0 : Heap) (n0 : Nat) (v : Option Value) (h : Heap) (L : List Loc) : Prop := v = some (.int (0 : Int32)) ∧ Fr n0 L ∧ h = h0
set_option maxRecDepth 65536 in
set_option maxHeartbeats 40000000 in
theorem rm17 (l : Launch) (Z : State) (a0 : Array Value) (hw : ∀ d ∈ tables_1, d.before a0 Z = true) (ws : List Jvm.Cond) (h0 : Heap) (n0 : Nat) (O0 : Old Z n0 h0) :
    MetFree l (⟨"jdk/internal/util/Preconditions", "checkIndex", "(IILjava/util/function/BiFunction;)I"⟩ : MethodName) (head1 (Jvm.Cond.code (⟨"jdk/internal/util/Preconditions", "checkIndex", "(IILjava/util/function/BiFunction;)I"⟩ : MethodName) jdk_41_method_11_code 3 (some .int) :: ws) ({ frames := 0, cells := 0, slots := 0, locals := 0 } : Room)) (fun aA uU => aA = #[(.int (0 : Int32)), (.int (2 : Int32)), .null] ∧ Z.Warmed39 uU.vm ∧ uU.heap = h0) (fun _ _ _ _ _ => True) (fun _ uU oO uU' => ∃ vV lL, oO = .returned vV ∧ Q17 Z   h0 n0 vV uU'.heap lL ∧ FrameEnd uU oO uU' lL ({ frames := 0, cells := 0, slots := 0, locals := 0 } : Room).cells ({ frames := 0, cells := 0, slots := 0, locals := 0 } : Room).slots) := by
  refine MetFree.of_bodySF (plainFor_of_name pn_jdk_internal_util_Preconditions) hisR ?_
  intro p e s m args below meth c s₁ Bd hml0 hP hK
  obtain ⟨rfl, hZ, hh⟩ := hP
  have hx := Bd.exec
  have hby := Bd.bytes
  have hml : c.maxLocals = 3 := hml0
  have hown : s.vm.findClass "jdk/internal/util/Preconditions" = some m.cls := findClass_of_methodNamed Bd.named
  have hnm := (name_of_methodNamed Bd.named Bd.method).1
  have X0 : Stand p l e ({ frames := 0, cells := 0, slots := 0, locals := 0 } : Room) s m #[(.int (0 : Int32)), (.int (2 : Int32)), .null] below meth c s₁ [] 0 0 := Stand.of_body Bd
  have e0 : s₁.heap = h0 := by rw [← hh, Bd.state]; rfl
  have N0 := Fr.nil n0
  have O := O0
  have pre0 : ∀ t, Steps p.tables e below (s₁.setTop (mkF m 0 #[.val (.int (0 : Int32)), .val (.int (2 : Int32)), .val .null] [])) t → Steps p.tables e below (s₁.setTop (entryFrame m #[(.int (0 : Int32)), (.int (2 : Int32)), .null] 3)) t := fun t k => castTop (ef_17 m ) k
  have w1 : ∀ t, Steps p.tables e below (s₁.setTop (mkF m 17 #[.val (.int (0 : Int32)), .val (.int (2 : Int32)), .val .null] [(.int (0 : Int32))])) t → Steps p.tables e below (s₁.setTop (entryFrame m #[(.int (0 : Int32)), (.int (2 : Int32)), .null] 3)) t := fun t k => by
    refine pre0 t ?_
    refine XS.iloadN X0.here hx rfl (hb hby d17_0) rfl ?_
    show Steps p.tables e below (s₁.setTop (mkF m 1 #[.val (.int (0 : Int32)), .val (.int (2 : Int32)), .val .null] [(.int (0 : Int32))])) _
    refine XS.ifNo X0.here hx rfl (hb hby d17_1) rfl ((if0 _ _).trans (flt ((by decide) : ¬ ((0 : Int32) < (0 : Int32)))).1) ?_
    show Steps p.tables e below (s₁.setTop (mkF m 4 #[.val (.int (0 : Int32)), .val (.int (2 : Int32)), .val .null] [])) _
    refine XS.iloadN X0.here hx rfl (hb hby d17_4) rfl ?_
    show Steps p.tables e below (s₁.setTop (mkF m 5 #[.val (.int (0 : Int32)), .val (.int (2 : Int32)), .val .null] [(.int (0 : Int32))])) _
    refine XS.iloadN X0.here hx rfl (hb hby d17_5) rfl ?_
    show Steps p.tables e below (s₁.setTop (mkF m 6 #[.val (.int (0 : Int32)), .val (.int (2 : Int32)), .val .null] [(.int (2 : Int32)), (.int (0 : Int32))])) _
    refine XS.icmpYes X0.here hx rfl (pc0 := 6) (pc' := 16) rfl (hb hby d17_6) rfl (tlt ((by decide) : (0 : Int32) < (2 : Int32))).1 (by decide) (by decide) ?_
    show Steps p.tables e below (s₁.setTop (mkF m 16 #[.val (.int (0 : Int32)), .val (.int (2 : Int32)), .val .null] [])) _
    refine XS.iloadN X0.here hx rfl (hb hby d17_16) rfl ?_
    show Steps p.tables e below (s₁.setTop (mkF m 17 #[.val (.int (0 : Int32)), .val (.int (2 : Int32)), .val .null] [(.int (0 : Int32))])) _
    exact k
  obtain ⟨fs, hr, hrun, hended, hW, hsame⟩ := X0.leave (v := some (.int (0 : Int32))) (fun h => by rw [Bd.returns] at h; cases h)
  refine ⟨_, _, w1 _ ?_, hrun, hended, _, _, rfl, ?_, ⟨_, rfl⟩, hW, hsame.mono (by decide) (by decide)⟩
  · exact retI X0 hx Bd.returns (hb hby d17_17) hr
  · show Q17 Z   h0 n0 _ s₁.heap _
    rw [e0]
    exact ⟨rfl, N0, rfl⟩
theorem d16_0 : decode jdk_31_method_17_code 0 = .ok (.iload_n 0, 1) := by decide +kernel
theorem d16_1 : decode jdk_31_method_17_code 1 = .ok (.iload_n 1, 1) := by decide +kernel
theorem d16_2 : decode jdk_31_method_17_code 2 = .ok (.aconst_null, 1) := by decide +kernel
theorem d16_3 : decode jdk_31_method_17_code 3 = .ok (.invokestatic 105, 3) := by decide +kernel
theorem pd__40IILjava_47util_47function_47BiFunction_59_41I : parseMethodDescriptor "(IILjava/util/function/BiFunction;)I" = some ⟨[.int, .int, (.object "java/util/function/BiFunction")], some .int⟩ := by decide +kernel
theorem d16_6 : decode jdk_31_method_17_code 6 = .ok (.ireturn, 1) := by decide +kernel
theorem ef_16 (m : MethodId) : entryFrame m #[(.int (0 : Int32)), (.int (2 : Int32))] 2 = mkF m 0 #[.val (.int (0 : Int32)), .val (.int (2 : Int32))] [] := by first | (simp [entryFrame, mkF, argsToLocals, Value.category]; done) | rfl
def Q16 (Z : State) (h0 : Heap) (n0 : Nat) (v : Option Value) (h : Heap) (L : List Loc) : Prop := v = some (.int (0 : Int32)) ∧ Fr n0 L ∧ h = h0
set_option maxRecDepth 65536 in
set_option maxHeartbeats 40000000 in
theorem rm16 (l : Launch) (Z : State) (a0 : Array Value) (hw : ∀ d ∈ tables_1, d.before a0 Z = true) (ws : List Jvm.Cond) (h0 : Heap) (n0 : Nat) (O0 : Old Z n0 h0) :
    MetFree l (⟨"java/util/Objects", "checkIndex", "(II)I"⟩ : MethodName) (head1 (Jvm.Cond.code (⟨"java/util/Objects", "checkIndex", "(II)I"⟩ : MethodName) jdk_31_method_17_code 2 (some .int) :: ws) ({ frames := 1, cells := 0, slots := 0, locals := 14 } : Room)) (fun aA uU => aA = #[(.int (0 : Int32)), (.int (2 : Int32))] ∧ Z.Warmed39 uU.vm ∧ uU.heap = h0) (fun _ _ _ _ _ => True) (fun _ uU oO uU' => ∃ vV lL, oO = .returned vV ∧ Q16 Z   h0 n0 vV uU'.heap lL ∧ FrameEnd uU oO uU' lL ({ frames := 1, cells := 0, slots := 0, locals := 14 } : Room).cells ({ frames := 1, cells := 0, slots := 0, locals := 14 } : Room).slots) := by
  refine MetFree.of_bodySF (plainFor_of_name pn_java_util_Objects) hisR ?_
  intro p e s m args below meth c s₁ Bd hml0 hP hK
  obtain ⟨rfl, hZ, hh⟩ := hP
  have hx := Bd.exec
  have hby := Bd.bytes
  have hml : c.maxLocals = 2 := hml0
  have hown : s.vm.findClass "java/util/Objects" = some m.cls := findClass_of_methodNamed Bd.named
  have hnm := (name_of_methodNamed Bd.named Bd.method).1
  have X0 : Stand p l e ({ frames := 1, cells := 0, slots := 0, locals := 14 } : Room) s m #[(.int (0 : Int32)), (.int (2 : Int32))] below meth c s₁ [] 0 0 := Stand.of_body Bd
  have e0 : s₁.heap = h0 := by rw [← hh, Bd.state]; rfl
  have N0 := Fr.nil n0
  have O := O0
  have pre0 : ∀ t, Steps p.tables e below (s₁.setTop (mkF m 0 #[.val (.int (0 : Int32)), .val (.int (2 : Int32))] [])) t → Steps p.tables e below (s₁.setTop (entryFrame m #[(.int (0 : Int32)), (.int (2 : Int32))] 2)) t := fun t k => castTop (ef_16 m ) k
  obtain ⟨_, _, ⟨T1, L1, k1, n1⟩, -, X1, ⟨Lc1, hQ1, l1, y1, z1⟩, st1⟩ := Jvm.LawKit.callS X0 hx (y := (⟨"jdk/internal/util/Preconditions", "checkIndex", "(IILjava/util/function/BiFunction;)I"⟩ : MethodName)) hown (mvT hZ (hw _ (List.mem_of_getElem? (i := 106) rfl))) (mvT hZ (hw _ (List.mem_of_getElem? (i := 107) rfl))) (mvT hZ (hw _ (List.mem_of_getElem? (i := 108) rfl))) (mvT hZ (hw _ (List.mem_of_getElem? (i := 109) rfl))) (by decide) (backOf (W := 0) (rm17 l Z a0 hw []  h0 n0 O ) hZ (hw _ (List.mem_of_getElem? (i := 109) rfl)) (hw _ (List.mem_of_getElem? (i := 108) rfl)) (by decide) (by decide)) (g := (mkF m 3 #[.val (.int (0 : Int32)), .val (.int (2 : Int32))] [.null, (.int (2 : Int32)), (.int (0 : Int32))])) rfl (by rw [hml]; rfl) (argsL := [(.int (0 : Int32)), (.int (2 : Int32)), .null]) (rest := []) (lenOf pd__40IILjava_47util_47function_47BiFunction_59_41I rfl) rfl (by show 2 * 0 + _ ≤ _; exact Nat.le_of_eq rfl) (hb hby d16_3) (fun _ _ => ⟨rfl, e0, (by decide : 0 + 0 ≤ _), (by decide : 0 + 0 ≤ _)⟩)
  dsimp only [Pt.U, Pt.locs, Pt.cells, Pt.slots] at X1 l1 y1 z1 st1 hQ1
  subst l1 y1 z1
  obtain ⟨rfl, N1q, eh1⟩ := hQ1
  have N1 := Fr.app N0 N1q
  have w2 : ∀ t, Steps p.tables e below (T1.setTop (mkF m 6 #[.val (.int (0 : Int32)), .val (.int (2 : Int32))] [(.int (0 : Int32))])) t → Steps p.tables e below (s₁.setTop (entryFrame m #[(.int (0 : Int32)), (.int (2 : Int32))] 2)) t := fun t k => by
    refine pre0 t ?_
    refine XS.iloadN X0.here hx rfl (hb hby d16_0) rfl ?_
    show Steps p.tables e below (s₁.setTop (mkF m 1 #[.val (.int (0 : Int32)), .val (.int (2 : Int32))] [(.int (0 : Int32))])) _
    refine XS.iloadN X0.here hx rfl (hb hby d16_1) rfl ?_
    show Steps p.tables e below (s₁.setTop (mkF m 2 #[.val (.int (0 : Int32)), .val (.int (2 : Int32))] [(.int (2 : Int32)), (.int (0 : Int32))])) _
    refine XS.aconstNull X0.here hx rfl (hb hby d16_2) ?_
    show Steps p.tables e below (s₁.setTop (mkF m 3 #[.val (.int (0 : Int32)), .val (.int (2 : Int32))] [.null, (.int (2 : Int32)), (.int (0 : Int32))])) _
    refine st1 _ ?_
    show Steps p.tables e below (T1.setTop (mkF m 6 #[.val (.int (0 : Int32)), .val (.int (2 : Int32))] [(.int (0 : Int32))])) _
    exact k
  obtain ⟨fs, hr, hrun, hended, hW, hsame⟩ := X1.leave (v := some (.int (0 : Int32))) (fun h => by rw [Bd.returns] at h; cases h)
  refine ⟨_, _, w2 _ ?_, hrun, hended, _, _, rfl, ?_, ⟨_, rfl⟩, hW, hsame.mono (by decide) (by decide)⟩
  · exact retI X1 hx Bd.returns (hb hby d16_6) hr
  · show Q16 Z   h0 n0 _ T1.heap _
    rw [eh1]
    exact ⟨rfl, N1, rfl⟩
theorem d18_0 : decode jdk_38_method_18_code 0 = .ok (.aload_n 0, 1) := by decide +kernel
theorem d18_1 : decode jdk_38_method_18_code 1 = .ok (.getfield 9, 3) := by decide +kernel
theorem d18_4 : decode jdk_38_method_18_code 4 = .ok (.iload_n 1, 1) := by decide +kernel
theorem d18_5 : decode jdk_38_method_18_code 5 = .ok (.aaload, 1) := by decide +kernel
theorem d18_6 : decode jdk_38_method_18_code 6 = .ok (.areturn, 1) := by decide +kernel
theorem ef_18 (m : MethodId) (x0 : Addr) : entryFrame m #[(.ref x0), (.int (0 : Int32))] 2 = mkF m 0 #[.val (.ref x0), .val (.int (0 : Int32))] [] := by first | (simp [entryFrame, mkF, argsToLocals, Value.category]; done) | rfl
def Q18 (Z : State) (a : Addr) (d : Addr) (kb : ClassId) (x1 : Addr) (x2 : Addr) (h0 : Heap) (n0 : Nat) (v : Option Value) (h : Heap) (L : List Loc) : Prop := v = some (.ref x1) ∧ Fr n0 L ∧ h = h0
set_option maxRecDepth 65536 in
set_option maxHeartbeats 40000000 in
theorem rm18 (l : Launch) (Z : State) (a0 : Array Value) (hw : ∀ d ∈ tables_1, d.before a0 Z = true) (ws : List Jvm.Cond) (a : Addr) (d : Addr) (kb : ClassId) (x1 : Addr) (x2 : Addr) (h0 : Heap) (n0 : Nat) (O0 : Old Z n0 h0) (F_e_a : Fld Z h0 a "java/util/ArrayList" "elementData" "[Ljava/lang/Object;" (.ref d)) (V_d : Arv Z h0 d kb (.object "java/lang/Object") (10 : Int32) [(.ref x1), (.ref x2), .null, .null, .null, .null, .null, .null, .null, .null] .null) :
    MetFree l (⟨"java/util/ArrayList", "elementData", "(I)Ljava/lang/Object;"⟩ : MethodName) (head1 (Jvm.Cond.code (⟨"java/util/ArrayList", "elementData", "(I)Ljava/lang/Object;"⟩ : MethodName) jdk_38_method_18_code 2 (some (.object "java/lang/Object")) :: ws) ({ frames := 0, cells := 0, slots := 0, locals := 0 } : Room)) (fun aA uU => aA = #[(.ref a), (.int (0 : Int32))] ∧ Z.Warmed39 uU.vm ∧ uU.heap = h0) (fun _ _ _ _ _ => True) (fun _ uU oO uU' => ∃ vV lL, oO = .returned vV ∧ Q18 Z a d kb x1 x2  h0 n0 vV uU'.heap lL ∧ FrameEnd uU oO uU' lL ({ frames := 0, cells := 0, slots := 0, locals := 0 } : Room).cells ({ frames := 0, cells := 0, slots := 0, locals := 0 } : Room).slots) := by
  refine MetFree.of_bodySF (plainFor_of_name pn_java_util_ArrayList) hisR ?_
  intro p e s m args below meth c s₁ Bd hml0 hP hK
  obtain ⟨rfl, hZ, hh⟩ := hP
  have hx := Bd.exec
  have hby := Bd.bytes
  have hml : c.maxLocals = 2 := hml0
  have hown : s.vm.findClass "java/util/ArrayList" = some m.cls := findClass_of_methodNamed Bd.named
  have hnm := (name_of_methodNamed Bd.named Bd.method).1
  have X0 : Stand p l e ({ frames := 0, cells := 0, slots := 0, locals := 0 } : Room) s m #[(.ref a), (.int (0 : Int32))] below meth c s₁ [] 0 0 := Stand.of_body Bd
  have e0 : s₁.heap = h0 := by rw [← hh, Bd.state]; rfl
  have N0 := Fr.nil n0
  have O := O0
  have pre0 : ∀ t, Steps p.tables e below (s₁.setTop (mkF m 0 #[.val (.ref a), .val (.int (0 : Int32))] [])) t → Steps p.tables e below (s₁.setTop (entryFrame m #[(.ref a), (.int (0 : Int32))] 2)) t := fun t k => castTop (ef_18 m a) k
  obtain ⟨T1, X1, e1, st1⟩ := getF X0 hx hZ hown (host := "") (Or.inl (hw _ (List.mem_of_getElem? (i := 28) rfl))) Via.refl e0 F_e_a (g := (mkF m 1 #[.val (.ref a), .val (.int (0 : Int32))] [(.ref a)])) rfl rfl (hb hby d18_1)
  obtain ⟨cl2, Ar2, q2, Z2, N2, H2, G2⟩ := id V_d
  have hin2 : ¬ ((0 : Int32) < 0 ∨ cl2.slots.size ≤ ((0 : Int32)).toNatClampNeg) := inb_of Z2 ⟨by decide, by decide⟩
  have hat2 : cl2.slots[((0 : Int32)).toNatClampNeg]? = some (.ref x1) := H2.at hin2 rfl
  have w3 : ∀ t, Steps p.tables e below (T1.setTop (mkF m 6 #[.val (.ref a), .val (.int (0 : Int32))] [(.ref x1)])) t → Steps p.tables e below (s₁.setTop (entryFrame m #[(.ref a), (.int (0 : Int32))] 2)) t := fun t k => by
    refine pre0 t ?_
    refine XS.aloadN X0.here hx rfl (hb hby d18_0) rfl rfl ?_
    show Steps p.tables e below (s₁.setTop (mkF m 1 #[.val (.ref a), .val (.int (0 : Int32))] [(.ref a)])) _
    refine st1 _ ?_
    show Steps p.tables e below (T1.setTop (mkF m 4 #[.val (.ref a), .val (.int (0 : Int32))] [(.ref d)])) _
    refine XS.iloadN X1.here hx rfl (hb hby d18_4) rfl ?_
    show Steps p.tables e below (T1.setTop (mkF m 5 #[.val (.ref a), .val (.int (0 : Int32))] [(.int (0 : Int32)), (.ref d)])) _
    refine X1.aaload hx (j := (0 : Int32)) (v := (.ref x1)) (by rw [e1]; exact Ar2.1) (State.isArrayOf_alike hZ.alike Ar2.2.1) rfl Ar2.2.2 hin2 hat2 (g := (mkF m 5 #[.val (.ref a), .val (.int (0 : Int32))] [(.int (0 : Int32)), (.ref d)])) rfl rfl (hb hby d18_5) _ ?_
    show Steps p.tables e below (T1.setTop (mkF m 6 #[.val (.ref a), .val (.int (0 : Int32))] [(.ref x1)])) _
    exact k
  obtain ⟨fs, hr, hrun, hended, hW, hsame⟩ := X1.leave (v := some (.ref x1)) (fun h => by rw [Bd.returns] at h; cases h)
  refine ⟨_, _, w3 _ ?_, hrun, hended, _, _, rfl, ?_, ⟨_, rfl⟩, hW, hsame.mono (by decide) (by decide)⟩
  · jvm_step X1.here [X1.here.top, hx, (hb hby d18_6), X1.method', Bd.returns, Value.isRef, FieldType.isReference]
    first | (intro acts; rw [hr _ acts rfl rfl rfl]) | rw [hr _ _ rfl rfl rfl]
    exact Steps.refl _
  · show Q18 Z a d kb x1 x2  h0 n0 _ T1.heap _
    rw [e1]
    exact ⟨rfl, N0, rfl⟩
theorem d15_0 : decode jdk_38_method_20_code 0 = .ok (.iload_n 1, 1) := by decide +kernel
theorem d15_1 : decode jdk_38_method_20_code 1 = .ok (.aload_n 0, 1) := by decide +kernel
theorem d15_2 : decode jdk_38_method_20_code 2 = .ok (.getfield 48, 3) := by decide +kernel
theorem d15_5 : decode jdk_38_method_20_code 5 = .ok (.invokestatic 118, 3) := by decide +kernel
theorem d15_8 : decode jdk_38_method_20_code 8 = .ok (.pop, 1) := by decide +kernel
theorem d15_9 : decode jdk_38_method_20_code 9 = .ok (.aload_n 0, 1) := by decide +kernel
theorem d15_10 : decode jdk_38_method_20_code 10 = .ok (.iload_n 1, 1) := by decide +kernel
theorem d15_11 : decode jdk_38_method_20_code 11 = .ok (.invokevirtual 123, 3) := by decide +kernel
theorem pd__40I_41Ljava_47lang_47Object_59 : parseMethodDescriptor "(I)Ljava/lang/Object;" = some ⟨[.int], some (.object "java/lang/Object")⟩ := by decide +kernel
theorem d15_14 : decode jdk_38_method_20_code 14 = .ok (.areturn, 1) := by decide +kernel
theorem ef_15 (m : MethodId) (x0 : Addr) : entryFrame m #[(.ref x0), (.int (0 : Int32))] 2 = mkF m 0 #[.val (.ref x0), .val (.int (0 : Int32))] [] := by first | (simp [entryFrame, mkF, argsToLocals, Value.category]; done) | rfl
def Q15 (Z : State) (a : Addr) (d : Addr) (kb : ClassId) (x1 : Addr) (x2 : Addr) (h0 : Heap) (n0 : Nat) (v : Option Value) (h : Heap) (L : List Loc) : Prop := v = some (.ref x1) ∧ Fr n0 L ∧ h = h0
set_option maxRecDepth 65536 in
set_option maxHeartbeats 40000000 in
theorem rm15 (l : Launch) (Z : State) (a0 : Array Value) (hw : ∀ d ∈ tables_1, d.before a0 Z = true) (ws : List Jvm.Cond) (a : Addr) (d : Addr) (kb : ClassId) (x1 : Addr) (x2 : Addr) (h0 : Heap) (n0 : Nat) (O0 : Old Z n0 h0) (E_a : Exa Z h0 a "java/util/ArrayList") (F_e_a : Fld Z h0 a "java/util/ArrayList" "elementData" "[Ljava/lang/Object;" (.ref d)) (F_s_a : Fld Z h0 a "java/util/ArrayList" "size" "I" (.int (2 : Int32))) (V_d : Arv Z h0 d kb (.object "java/lang/Object") (10 : Int32) [(.ref x1), (.ref x2), .null, .null, .null, .null, .null, .null, .null, .null] .null) :
    MetFree l (⟨"java/util/ArrayList", "get", "(I)Ljava/lang/Object;"⟩ : MethodName) (head1 (Jvm.Cond.code (⟨"java/util/ArrayList", "get", "(I)Ljava/lang/Object;"⟩ : MethodName) jdk_38_method_20_code 2 (some (.object "java/lang/Object")) :: ws) ({ frames := 2, cells := 0, slots := 0, locals := 27 } : Room)) (fun aA uU => aA = #[(.ref a), (.int (0 : Int32))] ∧ Z.Warmed39 uU.vm ∧ uU.heap = h0) (fun _ _ _ _ _ => True) (fun _ uU oO uU' => ∃ vV lL, oO = .returned vV ∧ Q15 Z a d kb x1 x2  h0 n0 vV uU'.heap lL ∧ FrameEnd uU oO uU' lL ({ frames := 2, cells := 0, slots := 0, locals := 27 } : Room).cells ({ frames := 2, cells := 0, slots := 0, locals := 27 } : Room).slots) := by
  refine MetFree.of_bodySF (plainFor_of_name pn_java_util_ArrayList) hisR ?_
  intro p e s m args below meth c s₁ Bd hml0 hP hK
  obtain ⟨rfl, hZ, hh⟩ := hP
  have hx := Bd.exec
  have hby := Bd.bytes
  have hml : c.maxLocals = 2 := hml0
  have hown : s.vm.findClass "java/util/ArrayList" = some m.cls := findClass_of_methodNamed Bd.named
  have hnm := (name_of_methodNamed Bd.named Bd.method).1
  have X0 : Stand p l e ({ frames := 2, cells := 0, slots := 0, locals := 27 } : Room) s m #[(.ref a), (.int (0 : Int32))] below meth c s₁ [] 0 0 := Stand.of_body Bd
  have e0 : s₁.heap = h0 := by rw [← hh, Bd.state]; rfl
  have N0 := Fr.nil n0
  have O := O0
  have pre0 : ∀ t, Steps p.tables e below (s₁.setTop (mkF m 0 #[.val (.ref a), .val (.int (0 : Int32))] [])) t → Steps p.tables e below (s₁.setTop (entryFrame m #[(.ref a), (.int (0 : Int32))] 2)) t := fun t k => castTop (ef_15 m a) k
  obtain ⟨T1, X1, e1, st1⟩ := getF X0 hx hZ hown (host := "") (Or.inl (hw _ (List.mem_of_getElem? (i := 44) rfl))) Via.refl e0 F_s_a (g := (mkF m 2 #[.val (.ref a), .val (.int (0 : Int32))] [(.ref a), (.int (0 : Int32))])) rfl rfl (hb hby d15_2)
  obtain ⟨_, _, ⟨T2, L2, k2, n2⟩, -, X2, ⟨Lc2, hQ2, l2, y2, z2⟩, st2⟩ := Jvm.LawKit.callS X1 hx (y := (⟨"java/util/Objects", "checkIndex", "(II)I"⟩ : MethodName)) hown (mvT hZ (hw _ (List.mem_of_getElem? (i := 102) rfl))) (mvT hZ (hw _ (List.mem_of_getElem? (i := 103) rfl))) (mvT hZ (hw _ (List.mem_of_getElem? (i := 104) rfl))) (mvT hZ (hw _ (List.mem_of_getElem? (i := 105) rfl))) (by decide) (backOf (W := 0) (rm16 l Z a0 hw []  h0 n0 O ) hZ (hw _ (List.mem_of_getElem? (i := 105) rfl)) (hw _ (List.mem_of_getElem? (i := 104) rfl)) (by decide) (by decide)) (g := (mkF m 5 #[.val (.ref a), .val (.int (0 : Int32))] [(.int (2 : Int32)), (.int (0 : Int32))])) rfl (by rw [hml]; rfl) (argsL := [(.int (0 : Int32)), (.int (2 : Int32))]) (rest := []) (lenOf pd__40II_41I rfl) rfl (by show 2 * 0 + _ ≤ _; exact Nat.le_of_eq rfl) (hb hby d15_5) (fun _ _ => ⟨rfl, e1, (by decide : 0 + 0 ≤ _), (by decide : 0 + 0 ≤ _)⟩)
  dsimp only [Pt.U, Pt.locs, Pt.cells, Pt.slots] at X2 l2 y2 z2 st2 hQ2
  subst l2 y2 z2
  obtain ⟨rfl, N2q, eh2⟩ := hQ2
  have N2 := Fr.app N0 N2q
  obtain ⟨cq3, kq3, q3a, q3b, q3c⟩ := isOf hZ eh2 E_a
  obtain ⟨_, _, ⟨T3, L3, k3, n3⟩, -, X3, ⟨Lc3, hQ3, l3, y3, z3⟩, st3⟩ := X2.virtualBack hx (y := (⟨"java/util/ArrayList", "elementData", "(I)Ljava/lang/Object;"⟩ : MethodName)) (z := (⟨"java/util/ArrayList", "elementData", "(I)Ljava/lang/Object;"⟩ : MethodName)) hown (mvT hZ (hw _ (List.mem_of_getElem? (i := 110) rfl))) (mvT hZ (hw _ (List.mem_of_getElem? (i := 111) rfl))) (notFace_of_selects (args := #[]) (mvT hZ (hw _ (List.mem_of_getElem? (i := 113) rfl)))) (mvT hZ (hw _ (List.mem_of_getElem? (i := 113) rfl))) (mvT hZ (hw _ (List.mem_of_getElem? (i := 112) rfl))) (by decide) (backOf (W := 0) (rm18 l Z a0 hw [] a d kb x1 x2 h0 n0 O F_e_a V_d) hZ (hw _ (List.mem_of_getElem? (i := 114) rfl)) (hw _ (List.mem_of_getElem? (i := 6) rfl)) (by decide) (by decide)) q3a q3c (g := (mkF m 11 #[.val (.ref a), .val (.int (0 : Int32))] [(.int (0 : Int32)), (.ref a)])) rfl (by rw [hml]; rfl) (Steps.refl _) (argsL := [(.int (0 : Int32))]) (rest := []) (lenOf pd__40I_41Ljava_47lang_47Object_59 rfl) rfl (by show 2 * 0 + _ ≤ _; exact Nat.le_of_eq rfl) (hb hby d15_11) (fun _ _ => ⟨rfl, eh2, (by decide : 0 + 0 ≤ _), (by decide : 0 + 0 ≤ _)⟩)
  dsimp only [Pt.U, Pt.locs, Pt.cells, Pt.slots] at X3 l3 y3 z3 st3 hQ3
  subst l3 y3 z3
  obtain ⟨rfl, N3q, eh3⟩ := hQ3
  have N3 := Fr.app N2 N3q
  have w4 : ∀ t, Steps p.tables e below (T3.setTop (mkF m 14 #[.val (.ref a), .val (.int (0 : Int32))] [(.ref x1)])) t → Steps p.tables e below (s₁.setTop (entryFrame m #[(.ref a), (.int (0 : Int32))] 2)) t := fun t k => by
    refine pre0 t ?_
    refine XS.iloadN X0.here hx rfl (hb hby d15_0) rfl ?_
    show Steps p.tables e below (s₁.setTop (mkF m 1 #[.val (.ref a), .val (.int (0 : Int32))] [(.int (0 : Int32))])) _
    refine XS.aloadN X0.here hx rfl (hb hby d15_1) rfl rfl ?_
    show Steps p.tables e below (s₁.setTop (mkF m 2 #[.val (.ref a), .val (.int (0 : Int32))] [(.ref a), (.int (0 : Int32))])) _
    refine st1 _ ?_
    show Steps p.tables e below (T1.setTop (mkF m 5 #[.val (.ref a), .val (.int (0 : Int32))] [(.int (2 : Int32)), (.int (0 : Int32))])) _
    refine st2 _ ?_
    show Steps p.tables e below (T2.setTop (mkF m 8 #[.val (.ref a), .val (.int (0 : Int32))] [(.int (0 : Int32))])) _
    refine XS.pop X2.here hx rfl (hb hby d15_8) rfl rfl ?_
    show Steps p.tables e below (T2.setTop (mkF m 9 #[.val (.ref a), .val (.int (0 : Int32))] [])) _
    refine XS.aloadN X2.here hx rfl (hb hby d15_9) rfl rfl ?_
    show Steps p.tables e below (T2.setTop (mkF m 10 #[.val (.ref a), .val (.int (0 : Int32))] [(.ref a)])) _
    refine XS.iloadN X2.here hx rfl (hb hby d15_10) rfl ?_
    show Steps p.tables e below (T2.setTop (mkF m 11 #[.val (.ref a), .val (.int (0 : Int32))] [(.int (0 : Int32)), (.ref a)])) _
    refine st3.trans ?_
    show Steps p.tables e below (T3.setTop (mkF m 14 #[.val (.ref a), .val (.int (0 : Int32))] [(.ref x1)])) _
    exact k
  obtain ⟨fs, hr, hrun, hended, hW, hsame⟩ := X3.leave (v := some (.ref x1)) (fun h => by rw [Bd.returns] at h; cases h)
  refine ⟨_, _, w4 _ ?_, hrun, hended, _, _, rfl, ?_, ⟨_, rfl⟩, hW, hsame.mono (by decide) (by decide)⟩
  · jvm_step X3.here [X3.here.top, hx, (hb hby d15_14), X3.method', Bd.returns, Value.isRef, FieldType.isReference]
    first | (intro acts; rw [hr _ acts rfl rfl rfl]) | rw [hr _ _ rfl rfl rfl]
    exact Steps.refl _
  · show Q15 Z a d kb x1 x2  h0 n0 _ T3.heap _
    rw [eh3]
    exact ⟨rfl, N3, rfl⟩
theorem d19_0 : decode jdk_33_method_27_code 0 = .ok (.aload_n 0, 1) := by decide +kernel
theorem d19_1 : decode jdk_33_method_27_code 1 = .ok (.getfield 205, 3) := by decide +kernel
theorem d19_4 : decode jdk_33_method_27_code 4 = .ok (.ireturn, 1) := by decide +kernel
theorem ef_19 (m : MethodId) (x0 : Addr) : entryFrame m #[(.ref x0)] 1 = mkF m 0 #[.val (.ref x0)] [] := by first | (simp [entryFrame, mkF, argsToLocals, Value.category]; done) | rfl
def Q19 (Z : State) (a : Addr) (i : Int32) (h0 : Heap) (n0 : Nat) (v : Option Value) (h : Heap) (L : List Loc) : Prop := v = some (.int i) ∧ Fr n0 L ∧ h = h0
set_option maxRecDepth 65536 in
set_option maxHeartbeats 40000000 in
theorem rm19 (l : Launch) (Z : State) (a0 : Array Value) (hw : ∀ d ∈ tables_1, d.before a0 Z = true) (ws : List Jvm.Cond) (a : Addr) (i : Int32) (h0 : Heap) (n0 : Nat) (O0 : Old Z n0 h0) (F_v_a : Fld Z h0 a "java/lang/Integer" "value" "I" (.int i)) :
    MetFree l (⟨"java/lang/Integer", "intValue", "()I"⟩ : MethodName) (head1 (Jvm.Cond.code (⟨"java/lang/Integer", "intValue", "()I"⟩ : MethodName) jdk_33_method_27_code 1 (some .int) :: ws) ({ frames := 0, cells := 0, slots := 0, locals := 0 } : Room)) (fun aA uU => aA = #[(.ref a)] ∧ Z.Warmed39 uU.vm ∧ uU.heap = h0) (fun _ _ _ _ _ => True) (fun _ uU oO uU' => ∃ vV lL, oO = .returned vV ∧ Q19 Z a i  h0 n0 vV uU'.heap lL ∧ FrameEnd uU oO uU' lL ({ frames := 0, cells := 0, slots := 0, locals := 0 } : Room).cells ({ frames := 0, cells := 0, slots := 0, locals := 0 } : Room).slots) := by
  refine MetFree.of_bodySF (plainFor_of_name pn_java_lang_Integer) hisR ?_
  intro p e s m args below meth c s₁ Bd hml0 hP hK
  obtain ⟨rfl, hZ, hh⟩ := hP
  have hx := Bd.exec
  have hby := Bd.bytes
  have hml : c.maxLocals = 1 := hml0
  have hown : s.vm.findClass "java/lang/Integer" = some m.cls := findClass_of_methodNamed Bd.named
  have hnm := (name_of_methodNamed Bd.named Bd.method).1
  have X0 : Stand p l e ({ frames := 0, cells := 0, slots := 0, locals := 0 } : Room) s m #[(.ref a)] below meth c s₁ [] 0 0 := Stand.of_body Bd
  have e0 : s₁.heap = h0 := by rw [← hh, Bd.state]; rfl
  have N0 := Fr.nil n0
  have O := O0
  have pre0 : ∀ t, Steps p.tables e below (s₁.setTop (mkF m 0 #[.val (.ref a)] [])) t → Steps p.tables e below (s₁.setTop (entryFrame m #[(.ref a)] 1)) t := fun t k => castTop (ef_19 m a) k
  obtain ⟨T1, X1, e1, st1⟩ := getF X0 hx hZ hown (host := "") (Or.inl (hw _ (List.mem_of_getElem? (i := 122) rfl))) Via.refl e0 F_v_a (g := (mkF m 1 #[.val (.ref a)] [(.ref a)])) rfl rfl (hb hby d19_1)
  have w2 : ∀ t, Steps p.tables e below (T1.setTop (mkF m 4 #[.val (.ref a)] [(.int i)])) t → Steps p.tables e below (s₁.setTop (entryFrame m #[(.ref a)] 1)) t := fun t k => by
    refine pre0 t ?_
    refine XS.aloadN X0.here hx rfl (hb hby d19_0) rfl rfl ?_
    show Steps p.tables e below (s₁.setTop (mkF m 1 #[.val (.ref a)] [(.ref a)])) _
    refine st1 _ ?_
    show Steps p.tables e below (T1.setTop (mkF m 4 #[.val (.ref a)] [(.int i)])) _
    exact k
  obtain ⟨fs, hr, hrun, hended, hW, hsame⟩ := X1.leave (v := some (.int i)) (fun h => by rw [Bd.returns] at h; cases h)
  refine ⟨_, _, w2 _ ?_, hrun, hended, _, _, rfl, ?_, ⟨_, rfl⟩, hW, hsame.mono (by decide) (by decide)⟩
  · exact retI X1 hx Bd.returns (hb hby d19_4) hr
  · show Q19 Z a i  h0 n0 _ T1.heap _
    rw [e1]
    exact ⟨rfl, N0, rfl⟩
theorem d21_0 : decode jdk_44_method_2_code 0 = .ok (.aload_n 0, 1) := by decide +kernel
theorem d21_1 : decode jdk_44_method_2_code 1 = .ok (.invokespecial 1, 3) := by decide +kernel
theorem d21_4 : decode jdk_44_method_2_code 4 = .ok (.aload_n 0, 1) := by decide +kernel
theorem d21_5 : decode jdk_44_method_2_code 5 = .ok (.aload_n 1, 1) := by decide +kernel
theorem d21_6 : decode jdk_44_method_2_code 6 = .ok (.invokestatic 7, 3) := by decide +kernel
theorem pd__40Ljava_47lang_47Object_59_41Ljava_47lang_47Object_59 : parseMethodDescriptor "(Ljava/lang/Object;)Ljava/lang/Object;" = some ⟨[(.object "java/lang/Object")], some (.object "java/lang/Object")⟩ := by decide +kernel
theorem d21_9 : decode jdk_44_method_2_code 9 = .ok (.putfield 13, 3) := by decide +kernel
theorem d21_12 : decode jdk_44_method_2_code 12 = .ok (.aload_n 0, 1) := by decide +kernel
theorem d21_13 : decode jdk_44_method_2_code 13 = .ok (.aload_n 2, 1) := by decide +kernel
theorem d21_14 : decode jdk_44_method_2_code 14 = .ok (.invokestatic 7, 3) := by decide +kernel
theorem d21_17 : decode jdk_44_method_2_code 17 = .ok (.putfield 24, 3) := by decide +kernel
theorem d21_20 : decode jdk_44_method_2_code 20 = .ok (.return_, 1) := by decide +kernel
theorem pn_java_util_ImmutableCollections_List12 : plainName "java/util/ImmutableCollections$List12" = true := by first | (simp [plainName, overriddenIn]; done) | decide +kernel
theorem ef_21 (m : MethodId) (x0 : Addr) (x1 : Addr) (x2 : Addr) : entryFrame m #[(.ref x0), (.ref x1), (.ref x2)] 3 = mkF m 0 #[.val (.ref x0), .val (.ref x1), .val (.ref x2)] [] := by first | (simp [entryFrame, mkF, argsToLocals, Value.category]; done) | rfl
def Q21 (Z : State) (a : Addr) (y1 : Addr) (y2 : Addr) (h0 : Heap) (n0 : Nat) (v : Option Value) (h : Heap) (L : List Loc) : Prop := v = none ∧ Fr n0 L ∧ Keep h0 h [a] ∧ Fld Z h a "java/util/ImmutableCollections$List12" "e0" "Ljava/lang/Object;" (.ref y1) ∧ Fld Z h a "java/util/ImmutableCollections$List12" "e1" "Ljava/lang/Object;" (.ref y2)
set_option maxRecDepth 65536 in
set_option maxHeartbeats 40000000 in
theorem rm21 (l : Launch) (Z : State) (a0 : Array Value) (hw : ∀ d ∈ tables_1, d.before a0 Z = true) (ws : List Jvm.Cond) (a : Addr) (y1 : Addr) (y2 : Addr) (h0 : Heap) (n0 : Nat) (O0 : Old Z n0 h0) (E_a : Exa Z h0 a "java/util/ImmutableCollections$List12") (F_e0_a : Fld Z h0 a "java/util/ImmutableCollections$List12" "e0" "Ljava/lang/Object;" .null) (F_e1_a : Fld Z h0 a "java/util/ImmutableCollections$List12" "e1" "Ljava/lang/Object;" .null) (g_a : n0 ≤ a) :
    MetFree l (⟨"java/util/ImmutableCollections$List12", "<init>", "(Ljava/lang/Object;Ljava/lang/Object;)V"⟩ : MethodName) (head1 (Jvm.Cond.code (⟨"java/util/ImmutableCollections$List12", "<init>", "(Ljava/lang/Object;Ljava/lang/Object;)V"⟩ : MethodName) jdk_44_method_2_code 3 none :: ws) ({ frames := 4, cells := 0, slots := 0, locals := 48 } : Room)) (fun aA uU => aA = #[(.ref a), (.ref y1), (.ref y2)] ∧ Z.Warmed39 uU.vm ∧ uU.heap = h0) (fun _ _ _ _ _ => True) (fun _ uU oO uU' => ∃ vV lL, oO = .returned vV ∧ Q21 Z a y1 y2  h0 n0 vV uU'.heap lL ∧ FrameEnd uU oO uU' lL ({ frames := 4, cells := 0, slots := 0, locals := 48 } : Room).cells ({ frames := 4, cells := 0, slots := 0, locals := 48 } : Room).slots) := by
  refine MetFree.of_bodySF (plainFor_of_name pn_java_util_ImmutableCollections_List12) hisR ?_
  intro p e s m args below meth c s₁ Bd hml0 hP hK
  obtain ⟨rfl, hZ, hh⟩ := hP
  have hx := Bd.exec
  have hby := Bd.bytes
  have hml : c.maxLocals = 3 := hml0
  have hown : s.vm.findClass "java/util/ImmutableCollections$List12" = some m.cls := findClass_of_methodNamed Bd.named
  have hnm := (name_of_methodNamed Bd.named Bd.method).1
  have X0 : Stand p l e ({ frames := 4, cells := 0, slots := 0, locals := 48 } : Room) s m #[(.ref a), (.ref y1), (.ref y2)] below meth c s₁ [] 0 0 := Stand.of_body Bd
  have e0 : s₁.heap = h0 := by rw [← hh, Bd.state]; rfl
  have N0 := Fr.nil n0
  have O := O0
  have K := Keep.refl h0 [a]
  have pre0 : ∀ t, Steps p.tables e below (s₁.setTop (mkF m 0 #[.val (.ref a), .val (.ref y1), .val (.ref y2)] [])) t → Steps p.tables e below (s₁.setTop (entryFrame m #[(.ref a), (.ref y1), (.ref y2)] 3)) t := fun t k => castTop (ef_21 m a y1 y2) k
  obtain ⟨_, _, ⟨T1, L1, k1, n1⟩, -, X1, ⟨Lc1, hQ1, l1, y1, z1⟩, st1⟩ := X0.specialBack hx (y := (⟨"java/util/ImmutableCollections$AbstractImmutableList", "<init>", "()V"⟩ : MethodName)) rfl hown (mvT hZ (hw _ (List.mem_of_getElem? (i := 136) rfl))) (mvT hZ (hw _ (List.mem_of_getElem? (i := 137) rfl))) (mvT hZ (hw _ (List.mem_of_getElem? (i := 141) rfl))) (by decide) (backOf (W := 0) (rm22 l Z a0 hw [] a h0 n0 O ) hZ (hw _ (List.mem_of_getElem? (i := 141) rfl)) (hw _ (List.mem_of_getElem? (i := 140) rfl)) (by decide) (by decide)) (g := (mkF m 1 #[.val (.ref a), .val (.ref y1), .val (.ref y2)] [(.ref a)])) rfl (by rw [hml]; rfl) (Steps.refl _) (a := a) (argsL := []) (rest := []) (lenOf pd__40_41V rfl) rfl (by show 2 * 0 + _ ≤ _; exact Nat.le_of_eq rfl) (hb hby d21_1) (fun _ _ => ⟨rfl, e0, (by decide : 0 + 0 ≤ _), (by decide : 0 + 0 ≤ _)⟩)
  dsimp only [Pt.U, Pt.locs, Pt.cells, Pt.slots] at X1 l1 y1 z1 st1 hQ1
  subst l1 y1 z1
  obtain ⟨rfl, N1q, eh1⟩ := hQ1
  have N1 := Fr.app N0 N1q
  obtain ⟨_, _, ⟨T2, L2, k2, n2⟩, -, X2, ⟨Lc2, hQ2, l2, y2, z2⟩, st2⟩ := Jvm.LawKit.callS X1 hx (y := (⟨"java/util/Objects", "requireNonNull", "(Ljava/lang/Object;)Ljava/lang/Object;"⟩ : MethodName)) hown (mvT hZ (hw _ (List.mem_of_getElem? (i := 150) rfl))) (mvT hZ (hw _ (List.mem_of_getElem? (i := 151) rfl))) (mvT hZ (hw _ (List.mem_of_getElem? (i := 104) rfl))) (mvT hZ (hw _ (List.mem_of_getElem? (i := 152) rfl))) (by decide) (backOf (W := 1) (rm24 l Z a0 hw [] y1 h0 n0 O ) hZ (hw _ (List.mem_of_getElem? (i := 152) rfl)) (hw _ (List.mem_of_getElem? (i := 104) rfl)) (by decide) (by decide)) (g := (mkF m 6 #[.val (.ref a), .val (.ref y1), .val (.ref y2)] [(.ref y1), (.ref a)])) rfl (by rw [hml]; rfl) (argsL := [(.ref y1)]) (rest := [(.ref a)]) (lenOf pd__40Ljava_47lang_47Object_59_41Ljava_47lang_47Object_59 rfl) rfl (by show 2 * 0 + _ ≤ _; exact Nat.le_of_eq rfl) (hb hby d21_6) (fun _ _ => ⟨rfl, eh1, (by decide : 0 + 0 ≤ _), (by decide : 0 + 0 ≤ _)⟩)
  dsimp only [Pt.U, Pt.locs, Pt.cells, Pt.slots] at X2 l2 y2 z2 st2 hQ2
  subst l2 y2 z2
  obtain ⟨rfl, N2q, eh2⟩ := hQ2
  have N2 := Fr.app N1 N2q
  obtain ⟨T3, h3, X3, e3, W3, st3⟩ := putF X2 hx hZ hown (host := "") (Or.inl (hw _ (List.mem_of_getElem? (i := 153) rfl))) Via.refl eh2 F_e0_a E_a (Or.inr ⟨(hw _ (List.mem_of_getElem? (i := 154) rfl)), rfl, hnm⟩) (hw _ (List.mem_of_getElem? (i := 130) rfl)) (ty := (.object "java/lang/Object")) (by decide) rfl rfl (g := (mkF m 9 #[.val (.ref a), .val (.ref y1), .val (.ref y2)] [(.ref y1), (.ref a)])) rfl rfl (hb hby d21_9)
  have F_e0_a := F_e0_a.same W3
  have E_a := E_a.wr W3
  have F_e1_a := F_e1_a.other W3 (Or.inr (slot_ne (Or.inr (hw _ (List.mem_of_getElem? (i := 156) rfl))) (Or.inr (hw _ (List.mem_of_getElem? (i := 154) rfl))) (by decide) (t := (.object "java/lang/Object")) (t' := (.object "java/lang/Object")) (by decide) (by decide)))
  have O := O.wr W3 g_a
  have K := K.wr W3 (Or.inl (List.mem_of_getElem? (i := 0) rfl))
  have N3 := Fr.snoc X3 N2 g_a
  obtain ⟨_, _, ⟨T4, L4, k4, n4⟩, -, X4, ⟨Lc4, hQ4, l4, y4, z4⟩, st4⟩ := Jvm.LawKit.callS X3 hx (y := (⟨"java/util/Objects", "requireNonNull", "(Ljava/lang/Object;)Ljava/lang/Object;"⟩ : MethodName)) hown (mvT hZ (hw _ (List.mem_of_getElem? (i := 150) rfl))) (mvT hZ (hw _ (List.mem_of_getElem? (i := 151) rfl))) (mvT hZ (hw _ (List.mem_of_getElem? (i := 104) rfl))) (mvT hZ (hw _ (List.mem_of_getElem? (i := 152) rfl))) (by decide) (backOf (W := 1) (rm24 l Z a0 hw [] y2 h3 n0 O ) hZ (hw _ (List.mem_of_getElem? (i := 152) rfl)) (hw _ (List.mem_of_getElem? (i := 104) rfl)) (by decide) (by decide)) (g := (mkF m 14 #[.val (.ref a), .val (.ref y1), .val (.ref y2)] [(.ref y2), (.ref a)])) rfl (by rw [hml]; rfl) (argsL := [(.ref y2)]) (rest := [(.ref a)]) (lenOf pd__40Ljava_47lang_47Object_59_41Ljava_47lang_47Object_59 rfl) rfl (by show 2 * 0 + _ ≤ _; exact Nat.le_of_eq rfl) (hb hby d21_14) (fun _ _ => ⟨rfl, e3, (by decide : 0 + 0 ≤ _), (by decide : 0 + 0 ≤ _)⟩)
  dsimp only [Pt.U, Pt.locs, Pt.cells, Pt.slots] at X4 l4 y4 z4 st4 hQ4
  subst l4 y4 z4
  obtain ⟨rfl, N4q, eh4⟩ := hQ4
  have N4 := Fr.app N3 N4q
  obtain ⟨T5, h5, X5, e5, W5, st5⟩ := putF X4 hx hZ hown (host := "") (Or.inl (hw _ (List.mem_of_getElem? (i := 155) rfl))) Via.refl eh4 F_e1_a E_a (Or.inr ⟨(hw _ (List.mem_of_getElem? (i := 156) rfl)), rfl, hnm⟩) (hw _ (List.mem_of_getElem? (i := 130) rfl)) (ty := (.object "java/lang/Object")) (by decide) rfl rfl (g := (mkF m 17 #[.val (.ref a), .val (.ref y1), .val (.ref y2)] [(.ref y2), (.ref a)])) rfl rfl (hb hby d21_17)
  have F_e1_a := F_e1_a.same W5
  have E_a := E_a.wr W5
  have F_e0_a := F_e0_a.other W5 (Or.inr (slot_ne (Or.inr (hw _ (List.mem_of_getElem? (i := 154) rfl))) (Or.inr (hw _ (List.mem_of_getElem? (i := 156) rfl))) (by decide) (t := (.object "java/lang/Object")) (t' := (.object "java/lang/Object")) (by decide) (by decide)))
  have O := O.wr W5 g_a
  have K := K.wr W5 (Or.inl (List.mem_of_getElem? (i := 0) rfl))
  have N5 := Fr.snoc X5 N4 g_a
  have w6 : ∀ t, Steps p.tables e below (T5.setTop (mkF m 20 #[.val (.ref a), .val (.ref y1), .val (.ref y2)] [])) t → Steps p.tables e below (s₁.setTop (entryFrame m #[(.ref a), (.ref y1), (.ref y2)] 3)) t := fun t k => by
    refine pre0 t ?_
    refine XS.aloadN X0.here hx rfl (hb hby d21_0) rfl rfl ?_
    show Steps p.tables e below (s₁.setTop (mkF m 1 #[.val (.ref a), .val (.ref y1), .val (.ref y2)] [(.ref a)])) _
    refine st1.trans ?_
    show Steps p.tables e below (T1.setTop (mkF m 4 #[.val (.ref a), .val (.ref y1), .val (.ref y2)] [])) _
    refine XS.aloadN X1.here hx rfl (hb hby d21_4) rfl rfl ?_
    show Steps p.tables e below (T1.setTop (mkF m 5 #[.val (.ref a), .val (.ref y1), .val (.ref y2)] [(.ref a)])) _
    refine XS.aloadN X1.here hx rfl (hb hby d21_5) rfl rfl ?_
    show Steps p.tables e below (T1.setTop (mkF m 6 #[.val (.ref a), .val (.ref y1), .val (.ref y2)] [(.ref y1), (.ref a)])) _
    refine st2 _ ?_
    show Steps p.tables e below (T2.setTop (mkF m 9 #[.val (.ref a), .val (.ref y1), .val (.ref y2)] [(.ref y1), (.ref a)])) _
    refine st3 _ ?_
    show Steps p.tables e below (T3.setTop (mkF m 12 #[.val (.ref a), .val (.ref y1), .val (.ref y2)] [])) _
    refine XS.aloadN X3.here hx rfl (hb hby d21_12) rfl rfl ?_
    show Steps p.tables e below (T3.setTop (mkF m 13 #[.val (.ref a), .val (.ref y1), .val (.ref y2)] [(.ref a)])) _
    refine XS.aloadN X3.here hx rfl (hb hby d21_13) rfl rfl ?_
    show Steps p.tables e below (T3.setTop (mkF m 14 #[.val (.ref a), .val (.ref y1), .val (.ref y2)] [(.ref y2), (.ref a)])) _
    refine st4 _ ?_
    show Steps p.tables e below (T4.setTop (mkF m 17 #[.val (.ref a), .val (.ref y1), .val (.ref y2)] [(.ref y2), (.ref a)])) _
    refine st5 _ ?_
    show Steps p.tables e below (T5.setTop (mkF m 20 #[.val (.ref a), .val (.ref y1), .val (.ref y2)] [])) _
    exact k
  obtain ⟨fs, hr, hrun, hended, hW, hsame⟩ := X5.leave (v := none) (fun _ => rfl)
  refine ⟨_, _, w6 _ ?_, hrun, hended, _, _, rfl, ?_, ⟨_, rfl⟩, hW, hsame.mono (by decide) (by decide)⟩
  · exact X5.returnOut hx Bd.returns (hb hby d21_20) hr
  · show Q21 Z a y1 y2  h0 n0 _ T5.heap _
    rw [e5]
    exact ⟨rfl, N5, K, F_e0_a, F_e1_a⟩
theorem d20_0 : decode jdk_40_method_38_code 0 = .ok (.new 96, 3) := by decide +kernel
theorem d20_3 : decode jdk_40_method_38_code 3 = .ok (.dup, 1) := by decide +kernel
theorem d20_4 : decode jdk_40_method_38_code 4 = .ok (.aload_n 0, 1) := by decide +kernel
theorem d20_5 : decode jdk_40_method_38_code 5 = .ok (.aload_n 1, 1) := by decide +kernel
theorem d20_6 : decode jdk_40_method_38_code 6 = .ok (.invokespecial 100, 3) := by decide +kernel
theorem pd__40Ljava_47lang_47Object_59Ljava_47lang_47Object_59_41V : parseMethodDescriptor "(Ljava/lang/Object;Ljava/lang/Object;)V" = some ⟨[(.object "java/lang/Object"), (.object "java/lang/Object")], none⟩ := by decide +kernel
theorem d20_9 : decode jdk_40_method_38_code 9 = .ok (.areturn, 1) := by decide +kernel
theorem pn_java_util_List : plainName "java/util/List" = true := by first | (simp [plainName, overriddenIn]; done) | decide +kernel
theorem ef_20 (m : MethodId) (x0 : Addr) (x1 : Addr) : entryFrame m #[(.ref x0), (.ref x1)] 2 = mkF m 0 #[.val (.ref x0), .val (.ref x1)] [] := by first | (simp [entryFrame, mkF, argsToLocals, Value.category]; done) | rfl
def Q20 (Z : State) (y1 : Addr) (y2 : Addr) (h0 : Heap) (n0 : Nat) (v : Option Value) (h : Heap) (L : List Loc) : Prop := ∃ z : Addr, v = some (.ref z) ∧ Fr n0 L ∧ Keep h0 h [] ∧ Exa Z h z "java/util/ImmutableCollections$List12" ∧ Fld Z h z "java/util/ImmutableCollections$List12" "e0" "Ljava/lang/Object;" (.ref y1) ∧ Fld Z h z "java/util/ImmutableCollections$List12" "e1" "Ljava/lang/Object;" (.ref y2) ∧ h0.size ≤ z ∧ n0 ≤ z
set_option maxRecDepth 65536 in
set_option maxHeartbeats 40000000 in
theorem rm20 (l : Launch) (Z : State) (a0 : Array Value) (hw : ∀ d ∈ tables_1, d.before a0 Z = true) (ws : List Jvm.Cond) (y1 : Addr) (y2 : Addr) (h0 : Heap) (n0 : Nat) (O0 : Old Z n0 h0) :
    MetFree l (⟨"java/util/List", "of", "(Ljava/lang/Object;Ljava/lang/Object;)Ljava/util/List;"⟩ : MethodName) (head1 (Jvm.Cond.code (⟨"java/util/List", "of", "(Ljava/lang/Object;Ljava/lang/Object;)Ljava/util/List;"⟩ : MethodName) jdk_40_method_38_code 2 (some (.object "java/util/List")) :: ws) ({ frames := 5, cells := 1, slots := 2, locals := 63 } : Room)) (fun aA uU => aA = #[(.ref y1), (.ref y2)] ∧ Z.Warmed39 uU.vm ∧ uU.heap = h0) (fun _ _ _ _ _ => True) (fun _ uU oO uU' => ∃ vV lL, oO = .returned vV ∧ Q20 Z y1 y2  h0 n0 vV uU'.heap lL ∧ FrameEnd uU oO uU' lL ({ frames := 5, cells := 1, slots := 2, locals := 63 } : Room).cells ({ frames := 5, cells := 1, slots := 2, locals := 63 } : Room).slots) := by
  refine MetFree.of_bodySF (plainFor_of_name pn_java_util_List) hisR ?_
  intro p e s m args below meth c s₁ Bd hml0 hP hK
  obtain ⟨rfl, hZ, hh⟩ := hP
  have hx := Bd.exec
  have hby := Bd.bytes
  have hml : c.maxLocals = 2 := hml0
  have hown : s.vm.findClass "java/util/List" = some m.cls := findClass_of_methodNamed Bd.named
  have hnm := (name_of_methodNamed Bd.named Bd.method).1
  have X0 : Stand p l e ({ frames := 5, cells := 1, slots := 2, locals := 63 } : Room) s m #[(.ref y1), (.ref y2)] below meth c s₁ [] 0 0 := Stand.of_body Bd
  have e0 : s₁.heap = h0 := by rw [← hh, Bd.state]; rfl
  have N0 := Fr.nil n0
  have O := O0
  have K := Keep.refl h0 []
  have pre0 : ∀ t, Steps p.tables e below (s₁.setTop (mkF m 0 #[.val (.ref y1), .val (.ref y2)] [])) t → Steps p.tables e below (s₁.setTop (entryFrame m #[(.ref y1), (.ref y2)] 2)) t := fun t k => castTop (ef_20 m y1 y2) k
  obtain ⟨T1, h1, X1, e1, E1, A1, D1, -, st1⟩ := newO X0 hx hZ hown (hw _ (List.mem_of_getElem? (i := 129) rfl)) (hw _ (List.mem_of_getElem? (i := 130) rfl)) (hw _ (List.mem_of_getElem? (i := 131) rfl)) e0 (g := (mkF m 0 #[.val (.ref y1), .val (.ref y2)] [])) rfl (hb hby d20_0) (by decide) (by decide)
  obtain ⟨b1, gq1⟩ : ∃ z, z = Array.size h0 := ⟨_, rfl⟩
  rw [← gq1] at A1 D1 st1
  have g_b1 : n0 ≤ b1 := Nat.le_trans (O.1 ▸ O.2.1) (Nat.le_of_eq gq1.symm)
  have z_b1 : h0.size ≤ b1 := Nat.le_trans K.1 (Nat.le_of_eq gq1.symm)
  have O := O.ext E1
  have K := K.ext E1
  have F_e0_b1 : Fld Z h1 b1 "java/util/ImmutableCollections$List12" "e0" "Ljava/lang/Object;" .null := D1 (Or.inr (hw _ (List.mem_of_getElem? (i := 154) rfl))) (ty := (.object "java/lang/Object")) (by decide)
  have F_e1_b1 : Fld Z h1 b1 "java/util/ImmutableCollections$List12" "e1" "Ljava/lang/Object;" .null := D1 (Or.inr (hw _ (List.mem_of_getElem? (i := 156) rfl))) (ty := (.object "java/lang/Object")) (by decide)
  obtain ⟨_, _, ⟨T2, L2, k2, n2⟩, -, X2, ⟨Lc2, hQ2, l2, y2, z2⟩, st2⟩ := X1.specialBack hx (y := (⟨"java/util/ImmutableCollections$List12", "<init>", "(Ljava/lang/Object;Ljava/lang/Object;)V"⟩ : MethodName)) rfl hown (mvT hZ (hw _ (List.mem_of_getElem? (i := 132) rfl))) (mvT hZ (hw _ (List.mem_of_getElem? (i := 133) rfl))) (mvT hZ (hw _ (List.mem_of_getElem? (i := 135) rfl))) (by decide) (backOf (W := 1) (rm21 l Z a0 hw [] b1 y1 y2 h1 n0 O A1 F_e0_b1 F_e1_b1 g_b1) hZ (hw _ (List.mem_of_getElem? (i := 135) rfl)) (hw _ (List.mem_of_getElem? (i := 131) rfl)) (by decide) (by decide)) (g := (mkF m 6 #[.val (.ref y1), .val (.ref y2)] [(.ref y2), (.ref y1), (.ref b1), (.ref b1)])) rfl (by rw [hml]; rfl) (Steps.refl _) (a := b1) (argsL := [(.ref y1), (.ref y2)]) (rest := [(.ref b1)]) (lenOf pd__40Ljava_47lang_47Object_59Ljava_47lang_47Object_59_41V rfl) rfl (by show 2 * 0 + _ ≤ _; exact Nat.le_of_eq rfl) (hb hby d20_6) (fun _ _ => ⟨rfl, e1, (by decide : 1 + 0 ≤ _), (by decide : 2 + 0 ≤ _)⟩)
  dsimp only [Pt.U, Pt.locs, Pt.cells, Pt.slots] at X2 l2 y2 z2 st2 hQ2
  subst l2 y2 z2
  obtain ⟨rfl, N2q, K2, F_e0_a_c2, F_e1_a_c2⟩ := hQ2
  have N2 := Fr.app N0 N2q
  have A1 := A1.keep K2
  have O := O.keep K2 (allS g_b1 all0)
  have K := K.trans K2 (allS (Or.inr z_b1) all0)
  have w3 : ∀ t, Steps p.tables e below (T2.setTop (mkF m 9 #[.val (.ref y1), .val (.ref y2)] [(.ref b1)])) t → Steps p.tables e below (s₁.setTop (entryFrame m #[(.ref y1), (.ref y2)] 2)) t := fun t k => by
    refine pre0 t ?_
    refine st1 _ ?_
    show Steps p.tables e below (T1.setTop (mkF m 3 #[.val (.ref y1), .val (.ref y2)] [(.ref b1)])) _
    refine XS.dup X1.here hx rfl (hb hby d20_3) rfl rfl ?_
    show Steps p.tables e below (T1.setTop (mkF m 4 #[.val (.ref y1), .val (.ref y2)] [(.ref b1), (.ref b1)])) _
    refine XS.aloadN X1.here hx rfl (hb hby d20_4) rfl rfl ?_
    show Steps p.tables e below (T1.setTop (mkF m 5 #[.val (.ref y1), .val (.ref y2)] [(.ref y1), (.ref b1), (.ref b1)])) _
    refine XS.aloadN X1.here hx rfl (hb hby d20_5) rfl rfl ?_
    show Steps p.tables e below (T1.setTop (mkF m 6 #[.val (.ref y1), .val (.ref y2)] [(.ref y2), (.ref y1), (.ref b1), (.ref b1)])) _
    refine st2.trans ?_
    show Steps p.tables e below (T2.setTop (mkF m 9 #[.val (.ref y1), .val (.ref y2)] [(.ref b1)])) _
    exact k
  obtain ⟨fs, hr, hrun, hended, hW, hsame⟩ := X2.leave (v := some (.ref b1)) (fun h => by rw [Bd.returns] at h; cases h)
  refine ⟨_, _, w3 _ ?_, hrun, hended, _, _, rfl, ?_, ⟨_, rfl⟩, hW, hsame.mono (by decide) (by decide)⟩
  · jvm_step X2.here [X2.here.top, hx, (hb hby d20_9), X2.method', Bd.returns, Value.isRef, FieldType.isReference]
    first | (intro acts; rw [hr _ acts rfl rfl rfl]) | rw [hr _ _ rfl rfl rfl]
    exact Steps.refl _
  · show Q20 Z y1 y2  h0 n0 _ T2.heap _
    exact ⟨b1, rfl, N2, K, A1, F_e0_a_c2, F_e1_a_c2, z_b1, g_b1⟩
theorem d28_0 : decode jdk_44_method_3_code 0 = .ok (.aload_n 0, 1) := by decide +kernel
theorem d28_1 : decode jdk_44_method_3_code 1 = .ok (.getfield 24, 3) := by decide +kernel
theorem d28_4 : decode jdk_44_method_3_code 4 = .ok (.getstatic 19, 3) := by decide +kernel
theorem d28_7 : decode jdk_44_method_3_code 7 = .ok (.if_acmp .eq 7, 3) := by decide +kernel
theorem d28_10 : decode jdk_44_method_3_code 10 = .ok (.iconst 2, 1) := by decide +kernel
theorem d28_11 : decode jdk_44_method_3_code 11 = .ok (.goto 4, 3) := by decide +kernel
theorem d28_15 : decode jdk_44_method_3_code 15 = .ok (.ireturn, 1) := by decide +kernel
theorem ef_28 (m : MethodId) (x0 : Addr) : entryFrame m #[(.ref x0)] 1 = mkF m 0 #[.val (.ref x0)] [] := by first | (simp [entryFrame, mkF, argsToLocals, Value.category]; done) | rfl
def Q28 (Z : State) (a : Addr) (y2 : Addr) (s_EMPTY : Addr) (h0 : Heap) (n0 : Nat) (v : Option Value) (h : Heap) (L : List Loc) : Prop := v = some (.int (2 : Int32)) ∧ Fr n0 L ∧ h = h0
set_option maxRecDepth 65536 in
set_option maxHeartbeats 40000000 in
theorem rm28 (l : Launch) (Z : State) (a0 : Array Value) (hw : ∀ d ∈ tables_1, d.before a0 Z = true) (ws : List Jvm.Cond) (a : Addr) (y2 : Addr) (s_EMPTY : Addr) (h0 : Heap) (n0 : Nat) (O0 : Old Z n0 h0) (S_s_EMPTY : Sta Z Z.heap "java/util/ImmutableCollections" "EMPTY" "Ljava/lang/Object;" (.ref s_EMPTY)) (F_e1_a : Fld Z h0 a "java/util/ImmutableCollections$List12" "e1" "Ljava/lang/Object;" (.ref y2)) (E_y2 : Exa Z h0 y2 "java/lang/Integer") (E_EMPTY : Exa Z h0 s_EMPTY "java/lang/Object") :
    MetFree l (⟨"java/util/ImmutableCollections$List12", "size", "()I"⟩ : MethodName) (head1 (Jvm.Cond.code (⟨"java/util/ImmutableCollections$List12", "size", "()I"⟩ : MethodName) jdk_44_method_3_code 1 (some .int) :: ws) ({ frames := 0, cells := 0, slots := 0, locals := 0 } : Room)) (fun aA uU => aA = #[(.ref a)] ∧ Z.Warmed39 uU.vm ∧ uU.heap = h0) (fun _ _ _ _ _ => True) (fun _ uU oO uU' => ∃ vV lL, oO = .returned vV ∧ Q28 Z a y2 s_EMPTY h0 n0 vV uU'.heap lL ∧ FrameEnd uU oO uU' lL ({ frames := 0, cells := 0, slots := 0, locals := 0 } : Room).cells ({ frames := 0, cells := 0, slots := 0, locals := 0 } : Room).slots) := by
  refine MetFree.of_bodySF (plainFor_of_name pn_java_util_ImmutableCollections_List12) hisR ?_
  intro p e s m args below meth c s₁ Bd hml0 hP hK
  obtain ⟨rfl, hZ, hh⟩ := hP
  have hx := Bd.exec
  have hby := Bd.bytes
  have hml : c.maxLocals = 1 := hml0
  have hown : s.vm.findClass "java/util/ImmutableCollections$List12" = some m.cls := findClass_of_methodNamed Bd.named
  have hnm := (name_of_methodNamed Bd.named Bd.method).1
  have X0 : Stand p l e ({ frames := 0, cells := 0, slots := 0, locals := 0 } : Room) s m #[(.ref a)] below meth c s₁ [] 0 0 := Stand.of_body Bd
  have e0 : s₁.heap = h0 := by rw [← hh, Bd.state]; rfl
  have N0 := Fr.nil n0
  have O := O0
  have pre0 : ∀ t, Steps p.tables e below (s₁.setTop (mkF m 0 #[.val (.ref a)] [])) t → Steps p.tables e below (s₁.setTop (entryFrame m #[(.ref a)] 1)) t := fun t k => castTop (ef_28 m a) k
  obtain ⟨T1, X1, e1, st1⟩ := getF X0 hx hZ hown (host := "") (Or.inl (hw _ (List.mem_of_getElem? (i := 155) rfl))) Via.refl e0 F_e1_a (g := (mkF m 1 #[.val (.ref a)] [(.ref a)])) rfl rfl (hb hby d28_1)
  obtain ⟨T2, X2, e2, st2⟩ := getS2 X1 hx hZ hown (Or.inr (hw _ (List.mem_of_getElem? (i := 196) rfl))) Via.refl e1 (S_s_EMPTY.ext O.2) (g := (mkF m 4 #[.val (.ref a)] [(.ref y2)])) rfl (hb hby d28_4)
  have w3 : ∀ t, Steps p.tables e below (T2.setTop (mkF m 15 #[.val (.ref a)] [(.int (2 : Int32))])) t → Steps p.tables e below (s₁.setTop (entryFrame m #[(.ref a)] 1)) t := fun t k => by
    refine pre0 t ?_
    refine XS.aloadN X0.here hx rfl (hb hby d28_0) rfl rfl ?_
    show Steps p.tables e below (s₁.setTop (mkF m 1 #[.val (.ref a)] [(.ref a)])) _
    refine st1 _ ?_
    show Steps p.tables e below (T1.setTop (mkF m 4 #[.val (.ref a)] [(.ref y2)])) _
    refine st2 _ ?_
    show Steps p.tables e below (T2.setTop (mkF m 7 #[.val (.ref a)] [(.ref s_EMPTY), (.ref y2)])) _
    refine Jvm.RoadKit.acmp (g := (mkF m 7 #[.val (.ref a)] [(.ref s_EMPTY), (.ref y2)])) X2 hx rfl rfl rfl (pc0 := 7) (pc' := 10) (same := false) rfl (hb hby d28_7) rfl (decide_eq_false fun q => (Exa.ne E_y2 E_EMPTY (by decide)) (Value.ref.inj q)) (by decide) (by decide) ?_
    show Steps p.tables e below (T2.setTop (mkF m 10 #[.val (.ref a)] [])) _
    refine XS.iconst X2.here hx rfl (hb hby d28_10) ?_
    show Steps p.tables e below (T2.setTop (mkF m 11 #[.val (.ref a)] [(.int (2 : Int32))])) _
    refine XS.goto X2.here hx rfl (pc0 := 11) (pc' := 15) rfl (hb hby d28_11) (by decide) (by decide) ?_
    show Steps p.tables e below (T2.setTop (mkF m 15 #[.val (.ref a)] [(.int (2 : Int32))])) _
    exact k
  obtain ⟨fs, hr, hrun, hended, hW, hsame⟩ := X2.leave (v := some (.int (2 : Int32))) (fun h => by rw [Bd.returns] at h; cases h)
  refine ⟨_, _, w3 _ ?_, hrun, hended, _, _, rfl, ?_, ⟨_, rfl⟩, hW, hsame.mono (by decide) (by decide)⟩
  · exact retI X2 hx Bd.returns (hb hby d28_15) hr
  · show Q28 Z a y2 s_EMPTY h0 n0 _ T2.heap _
    rw [e2]
    exact ⟨rfl, N0, rfl⟩
theorem d29_0 : decode jdk_53_method_1_code 0 = .ok (.aload_n 0, 1) := by decide +kernel
theorem d29_1 : decode jdk_53_method_1_code 1 = .ok (.invokespecial 1, 3) := by decide +kernel
theorem d29_4 : decode jdk_53_method_1_code 4 = .ok (.aload_n 0, 1) := by decide +kernel
theorem d29_5 : decode jdk_53_method_1_code 5 = .ok (.aload_n 1, 1) := by decide +kernel
theorem d29_6 : decode jdk_53_method_1_code 6 = .ok (.putfield 7, 3) := by decide +kernel
theorem d29_9 : decode jdk_53_method_1_code 9 = .ok (.aload_n 0, 1) := by decide +kernel
theorem d29_10 : decode jdk_53_method_1_code 10 = .ok (.iload_n 2, 1) := by decide +kernel
theorem d29_11 : decode jdk_53_method_1_code 11 = .ok (.putfield 13, 3) := by decide +kernel
theorem d29_14 : decode jdk_53_method_1_code 14 = .ok (.aload_n 0, 1) := by decide +kernel
theorem d29_15 : decode jdk_53_method_1_code 15 = .ok (.iconst 0, 1) := by decide +kernel
theorem d29_16 : decode jdk_53_method_1_code 16 = .ok (.putfield 17, 3) := by decide +kernel
theorem d29_19 : decode jdk_53_method_1_code 19 = .ok (.aload_n 0, 1) := by decide +kernel
theorem d29_20 : decode jdk_53_method_1_code 20 = .ok (.iconst 0, 1) := by decide +kernel
theorem d29_21 : decode jdk_53_method_1_code 21 = .ok (.putfield 20, 3) := by decide +kernel
theorem d29_24 : decode jdk_53_method_1_code 24 = .ok (.return_, 1) := by decide +kernel
theorem pn_java_util_ImmutableCollections_ListItr : plainName "java/util/ImmutableCollections$ListItr" = true := by first | (simp [plainName, overriddenIn]; done) | decide +kernel
theorem ef_29 (m : MethodId) (x0 : Addr) (x1 : Addr) : entryFrame m #[(.ref x0), (.ref x1), (.int (2 : Int32))] 3 = mkF m 0 #[.val (.ref x0), .val (.ref x1), .val (.int (2 : Int32))] [] := by first | (simp [entryFrame, mkF, argsToLocals, Value.category]; done) | rfl
def Q29 (Z : State) (a : Addr) (l1 : Addr) (h0 : Heap) (n0 : Nat) (v : Option Value) (h : Heap) (L : List Loc) : Prop := v = none ∧ Fr n0 L ∧ Keep h0 h [a] ∧ Fld Z h a "java/util/ImmutableCollections$ListItr" "list" "Ljava/util/List;" (.ref l1) ∧ Fld Z h a "java/util/ImmutableCollections$ListItr" "size" "I" (.int (2 : Int32)) ∧ Fld Z h a "java/util/ImmutableCollections$ListItr" "cursor" "I" (.int (0 : Int32)) ∧ Fld Z h a "java/util/ImmutableCollections$ListItr" "isListIterator" "Z" (.int (0 : Int32))
set_option maxRecDepth 65536 in
set_option maxHeartbeats 40000000 in
theorem rm29 (l : Launch) (Z : State) (a0 : Array Value) (hw : ∀ d ∈ tables_1, d.before a0 Z = true) (ws : List Jvm.Cond) (a : Addr) (l1 : Addr) (h0 : Heap) (n0 : Nat) (O0 : Old Z n0 h0) (E_a : Exa Z h0 a "java/util/ImmutableCollections$ListItr") (F_list_a : Fld Z h0 a "java/util/ImmutableCollections$ListItr" "list" "Ljava/util/List;" .null) (F_size_a : Fld Z h0 a "java/util/ImmutableCollections$ListItr" "size" "I" (.int (0 : Int32))) (F_cursor_a : Fld Z h0 a "java/util/ImmutableCollections$ListItr" "cursor" "I" (.int (0 : Int32))) (F_isListIterator_a : Fld Z h0 a "java/util/ImmutableCollections$ListItr" "isListIterator" "Z" (.int (0 : Int32))) (g_a : n0 ≤ a) :
    MetFree l (⟨"java/util/ImmutableCollections$ListItr", "<init>", "(Ljava/util/List;I)V"⟩ : MethodName) (head1 (Jvm.Cond.code (⟨"java/util/ImmutableCollections$ListItr", "<init>", "(Ljava/util/List;I)V"⟩ : MethodName) jdk_53_method_1_code 3 none :: ws) ({ frames := 1, cells := 0, slots := 0, locals := 12 } : Room)) (fun aA uU => aA = #[(.ref a), (.ref l1), (.int (2 : Int32))] ∧ Z.Warmed39 uU.vm ∧ uU.heap = h0) (fun _ _ _ _ _ => True) (fun _ uU oO uU' => ∃ vV lL, oO = .returned vV ∧ Q29 Z a l1  h0 n0 vV uU'.heap lL ∧ FrameEnd uU oO uU' lL ({ frames := 1, cells := 0, slots := 0, locals := 12 } : Room).cells ({ frames := 1, cells := 0, slots := 0, locals := 12 } : Room).slots) := by
  refine MetFree.of_bodySF (plainFor_of_name pn_java_util_ImmutableCollections_ListItr) hisR ?_
  intro p e s m args below meth c s₁ Bd hml0 hP hK
  obtain ⟨rfl, hZ, hh⟩ := hP
  have hx := Bd.exec
  have hby := Bd.bytes
  have hml : c.maxLocals = 3 := hml0
  have hown : s.vm.findClass "java/util/ImmutableCollections$ListItr" = some m.cls := findClass_of_methodNamed Bd.named
  have hnm := (name_of_methodNamed Bd.named Bd.method).1
  have X0 : Stand p l e ({ frames := 1, cells := 0, slots := 0, locals := 12 } : Room) s m #[(.ref a), (.ref l1), (.int (2 : Int32))] below meth c s₁ [] 0 0 := Stand.of_body Bd
  have e0 : s₁.heap = h0 := by rw [← hh, Bd.state]; rfl
  have N0 := Fr.nil n0
  have O := O0
  have K := Keep.refl h0 [a]
  have pre0 : ∀ t, Steps p.tables e below (s₁.setTop (mkF m 0 #[.val (.ref a), .val (.ref l1), .val (.int (2 : Int32))] [])) t → Steps p.tables e below (s₁.setTop (entryFrame m #[(.ref a), (.ref l1), (.int (2 : Int32))] 3)) t := fun t k => castTop (ef_29 m a l1) k
  obtain ⟨T1, X1, e1, st1⟩ := initO X0 hx hZ hown (hw _ (List.mem_of_getElem? (i := 202) rfl)) (hw _ (List.mem_of_getElem? (i := 23) rfl)) (hw _ (List.mem_of_getElem? (i := 24) rfl)) e0 (g := (mkF m 1 #[.val (.ref a), .val (.ref l1), .val (.int (2 : Int32))] [(.ref a)])) rfl (by rw [hml]; rfl) rfl (hb hby d29_1) (by decide) (W := 0) (by show 2 * 0 + _ ≤ _; exact Nat.le_of_eq rfl) (by decide)
  obtain ⟨T2, h2, X2, e2, W2, st2⟩ := putF X1 hx hZ hown (host := "") (Or.inl (hw _ (List.mem_of_getElem? (i := 203) rfl))) Via.refl e1 F_list_a E_a (Or.inr ⟨(hw _ (List.mem_of_getElem? (i := 204) rfl)), rfl, hnm⟩) (hw _ (List.mem_of_getElem? (i := 188) rfl)) (ty := (.object "java/util/List")) (by decide) rfl rfl (g := (mkF m 6 #[.val (.ref a), .val (.ref l1), .val (.int (2 : Int32))] [(.ref l1), (.ref a)])) rfl rfl (hb hby d29_6)
  have F_list_a := F_list_a.same W2
  have E_a := E_a.wr W2
  have F_size_a := F_size_a.other W2 (Or.inr (slot_ne (Or.inr (hw _ (List.mem_of_getElem? (i := 206) rfl))) (Or.inr (hw _ (List.mem_of_getElem? (i := 204) rfl))) (by decide) (t := .int) (t' := (.object "java/util/List")) (by decide) (by decide)))
  have F_cursor_a := F_cursor_a.other W2 (Or.inr (slot_ne (Or.inl (hw _ (List.mem_of_getElem? (i := 208) rfl))) (Or.inr (hw _ (List.mem_of_getElem? (i := 204) rfl))) (by decide) (t := .int) (t' := (.object "java/util/List")) (by decide) (by decide)))
  have F_isListIterator_a := F_isListIterator_a.other W2 (Or.inr (slot_ne (Or.inr (hw _ (List.mem_of_getElem? (i := 210) rfl))) (Or.inr (hw _ (List.mem_of_getElem? (i := 204) rfl))) (by decide) (t := .boolean) (t' := (.object "java/util/List")) (by decide) (by decide)))
  have O := O.wr W2 g_a
  have K := K.wr W2 (Or.inl (List.mem_of_getElem? (i := 0) rfl))
  have N2 := Fr.snoc X2 N0 g_a
  obtain ⟨T3, h3, X3, e3, W3, st3⟩ := putF X2 hx hZ hown (host := "") (Or.inl (hw _ (List.mem_of_getElem? (i := 205) rfl))) Via.refl e2 F_size_a E_a (Or.inr ⟨(hw _ (List.mem_of_getElem? (i := 206) rfl)), rfl, hnm⟩) (hw _ (List.mem_of_getElem? (i := 188) rfl)) (ty := .int) (by decide) rfl rfl (g := (mkF m 11 #[.val (.ref a), .val (.ref l1), .val (.int (2 : Int32))] [(.int (2 : Int32)), (.ref a)])) rfl rfl (hb hby d29_11)
  have F_size_a := F_size_a.same W3
  have E_a := E_a.wr W3
  have F_list_a := F_list_a.other W3 (Or.inr (slot_ne (Or.inr (hw _ (List.mem_of_getElem? (i := 204) rfl))) (Or.inr (hw _ (List.mem_of_getElem? (i := 206) rfl))) (by decide) (t := (.object "java/util/List")) (t' := .int) (by decide) (by decide)))
  have F_cursor_a := F_cursor_a.other W3 (Or.inr (slot_ne (Or.inl (hw _ (List.mem_of_getElem? (i := 208) rfl))) (Or.inr (hw _ (List.mem_of_getElem? (i := 206) rfl))) (by decide) (t := .int) (t' := .int) (by decide) (by decide)))
  have F_isListIterator_a := F_isListIterator_a.other W3 (Or.inr (slot_ne (Or.inr (hw _ (List.mem_of_getElem? (i := 210) rfl))) (Or.inr (hw _ (List.mem_of_getElem? (i := 206) rfl))) (by decide) (t := .boolean) (t' := .int) (by decide) (by decide)))
  have O := O.wr W3 g_a
  have K := K.wr W3 (Or.inl (List.mem_of_getElem? (i := 0) rfl))
  have N3 := Fr.snoc X3 N2 g_a
  obtain ⟨T4, h4, X4, e4, W4, st4⟩ := putF X3 hx hZ hown (host := "") (Or.inl (hw _ (List.mem_of_getElem? (i := 207) rfl))) Via.refl e3 F_cursor_a E_a (Or.inl (hw _ (List.mem_of_getElem? (i := 208) rfl))) (hw _ (List.mem_of_getElem? (i := 188) rfl)) (ty := .int) (by decide) rfl rfl (g := (mkF m 16 #[.val (.ref a), .val (.ref l1), .val (.int (2 : Int32))] [(.int (0 : Int32)), (.ref a)])) rfl rfl (hb hby d29_16)
  have F_cursor_a := F_cursor_a.same W4
  have E_a := E_a.wr W4
  have F_list_a := F_list_a.other W4 (Or.inr (slot_ne (Or.inr (hw _ (List.mem_of_getElem? (i := 204) rfl))) (Or.inl (hw _ (List.mem_of_getElem? (i := 208) rfl))) (by decide) (t := (.object "java/util/List")) (t' := .int) (by decide) (by decide)))
  have F_size_a := F_size_a.other W4 (Or.inr (slot_ne (Or.inr (hw _ (List.mem_of_getElem? (i := 206) rfl))) (Or.inl (hw _ (List.mem_of_getElem? (i := 208) rfl))) (by decide) (t := .int) (t' := .int) (by decide) (by decide)))
  have F_isListIterator_a := F_isListIterator_a.other W4 (Or.inr (slot_ne (Or.inr (hw _ (List.mem_of_getElem? (i := 210) rfl))) (Or.inl (hw _ (List.mem_of_getElem? (i := 208) rfl))) (by decide) (t := .boolean) (t' := .int) (by decide) (by decide)))
  have O := O.wr W4 g_a
  have K := K.wr W4 (Or.inl (List.mem_of_getElem? (i := 0) rfl))
  have N4 := Fr.snoc X4 N3 g_a
  obtain ⟨T5, h5, X5, e5, W5, st5⟩ := putFN X4 hx hZ hown (hw _ (List.mem_of_getElem? (i := 209) rfl)) Via.refl e4 F_isListIterator_a E_a (Or.inr ⟨(hw _ (List.mem_of_getElem? (i := 210) rfl)), rfl, hnm⟩) (hw _ (List.mem_of_getElem? (i := 188) rfl)) (ty := .boolean) (v' := (.int (0 : Int32))) (by decide) rfl rfl (g := (mkF m 21 #[.val (.ref a), .val (.ref l1), .val (.int (2 : Int32))] [(.int (0 : Int32)), (.ref a)])) rfl rfl (hb hby d29_21)
  have F_isListIterator_a := F_isListIterator_a.same W5
  have E_a := E_a.wr W5
  have F_list_a := F_list_a.other W5 (Or.inr (slot_ne (Or.inr (hw _ (List.mem_of_getElem? (i := 204) rfl))) (Or.inr (hw _ (List.mem_of_getElem? (i := 210) rfl))) (by decide) (t := (.object "java/util/List")) (t' := .boolean) (by decide) (by decide)))
  have F_size_a := F_size_a.other W5 (Or.inr (slot_ne (Or.inr (hw _ (List.mem_of_getElem? (i := 206) rfl))) (Or.inr (hw _ (List.mem_of_getElem? (i := 210) rfl))) (by decide) (t := .int) (t' := .boolean) (by decide) (by decide)))
  have F_cursor_a := F_cursor_a.other W5 (Or.inr (slot_ne (Or.inl (hw _ (List.mem_of_getElem? (i := 208) rfl))) (Or.inr (hw _ (List.mem_of_getElem? (i := 210) rfl))) (by decide) (t := .int) (t' := .boolean) (by decide) (by decide)))
  have O := O.wr W5 g_a
  have K := K.wr W5 (Or.inl (List.mem_of_getElem? (i := 0) rfl))
  have N5 := Fr.snoc X5 N4 g_a
  have w6 : ∀ t, Steps p.tables e below (T5.setTop (mkF m 24 #[.val (.ref a), .val (.ref l1), .val (.int (2 : Int32))] [])) t → Steps p.tables e below (s₁.setTop (entryFrame m #[(.ref a), (.ref l1), (.int (2 : Int32))] 3)) t := fun t k => by
    refine pre0 t ?_
    refine XS.aloadN X0.here hx rfl (hb hby d29_0) rfl rfl ?_
    show Steps p.tables e below (s₁.setTop (mkF m 1 #[.val (.ref a), .val (.ref l1), .val (.int (2 : Int32))] [(.ref a)])) _
    refine st1 _ ?_
    show Steps p.tables e below (T1.setTop (mkF m 4 #[.val (.ref a), .val (.ref l1), .val (.int (2 : Int32))] [])) _
    refine XS.aloadN X1.here hx rfl (hb hby d29_4) rfl rfl ?_
    show Steps p.tables e below (T1.setTop (mkF m 5 #[.val (.ref a), .val (.ref l1), .val (.int (2 : Int32))] [(.ref a)])) _
    refine XS.aloadN X1.here hx rfl (hb hby d29_5) rfl rfl ?_
    show Steps p.tables e below (T1.setTop (mkF m 6 #[.val (.ref a), .val (.ref l1), .val (.int (2 : Int32))] [(.ref l1), (.ref a)])) _
    refine st2 _ ?_
    show Steps p.tables e below (T2.setTop (mkF m 9 #[.val (.ref a), .val (.ref l1), .val (.int (2 : Int32))] [])) _
    refine XS.aloadN X2.here hx rfl (hb hby d29_9) rfl rfl ?_
    show Steps p.tables e below (T2.setTop (mkF m 10 #[.val (.ref a), .val (.ref l1), .val (.int (2 : Int32))] [(.ref a)])) _
    refine XS.iloadN X2.here hx rfl (hb hby d29_10) rfl ?_
    show Steps p.tables e below (T2.setTop (mkF m 11 #[.val (.ref a), .val (.ref l1), .val (.int (2 : Int32))] [(.int (2 : Int32)), (.ref a)])) _
    refine st3 _ ?_
    show Steps p.tables e below (T3.setTop (mkF m 14 #[.val (.ref a), .val (.ref l1), .val (.int (2 : Int32))] [])) _
    refine XS.aloadN X3.here hx rfl (hb hby d29_14) rfl rfl ?_
    show Steps p.tables e below (T3.setTop (mkF m 15 #[.val (.ref a), .val (.ref l1), .val (.int (2 : Int32))] [(.ref a)])) _
    refine XS.iconst X3.here hx rfl (hb hby d29_15) ?_
    show Steps p.tables e below (T3.setTop (mkF m 16 #[.val (.ref a), .val (.ref l1), .val (.int (2 : Int32))] [(.int (0 : Int32)), (.ref a)])) _
    refine st4 _ ?_
    show Steps p.tables e below (T4.setTop (mkF m 19 #[.val (.ref a), .val (.ref l1), .val (.int (2 : Int32))] [])) _
    refine XS.aloadN X4.here hx rfl (hb hby d29_19) rfl rfl ?_
    show Steps p.tables e below (T4.setTop (mkF m 20 #[.val (.ref a), .val (.ref l1), .val (.int (2 : Int32))] [(.ref a)])) _
    refine XS.iconst X4.here hx rfl (hb hby d29_20) ?_
    show Steps p.tables e below (T4.setTop (mkF m 21 #[.val (.ref a), .val (.ref l1), .val (.int (2 : Int32))] [(.int (0 : Int32)), (.ref a)])) _
    refine st5 _ ?_
    show Steps p.tables e below (T5.setTop (mkF m 24 #[.val (.ref a), .val (.ref l1), .val (.int (2 : Int32))] [])) _
    exact k
  obtain ⟨fs, hr, hrun, hended, hW, hsame⟩ := X5.leave (v := none) (fun _ => rfl)
  refine ⟨_, _, w6 _ ?_, hrun, hended, _, _, rfl, ?_, ⟨_, rfl⟩, hW, hsame.mono (by decide) (by decide)⟩
  · exact X5.returnOut hx Bd.returns (hb hby d29_24) hr
  · show Q29 Z a l1  h0 n0 _ T5.heap _
    rw [e5]
    exact ⟨rfl, N5, K, F_list_a, F_size_a, F_cursor_a, F_isListIterator_a⟩
theorem d27_0 : decode jdk_46_method_10_code 0 = .ok (.new 61, 3) := by decide +kernel
theorem d27_3 : decode jdk_46_method_10_code 3 = .ok (.dup, 1) := by decide +kernel
theorem d27_4 : decode jdk_46_method_10_code 4 = .ok (.aload_n 0, 1) := by decide +kernel
theorem d27_5 : decode jdk_46_method_10_code 5 = .ok (.aload_n 0, 1) := by decide +kernel
theorem d27_6 : decode jdk_46_method_10_code 6 = .ok (.invokevirtual 13, 3) := by decide +kernel
theorem pd__40_41I : parseMethodDescriptor "()I" = some ⟨[], some .int⟩ := by decide +kernel
theorem d27_9 : decode jdk_46_method_10_code 9 = .ok (.invokespecial 63, 3) := by decide +kernel
theorem pd__40Ljava_47util_47List_59I_41V : parseMethodDescriptor "(Ljava/util/List;I)V" = some ⟨[(.object "java/util/List"), .int], none⟩ := by decide +kernel
theorem d27_12 : decode jdk_46_method_10_code 12 = .ok (.areturn, 1) := by decide +kernel
theorem ef_27 (m : MethodId) (x0 : Addr) : entryFrame m #[(.ref x0)] 1 = mkF m 0 #[.val (.ref x0)] [] := by first | (simp [entryFrame, mkF, argsToLocals, Value.category]; done) | rfl
def Q27 (Z : State) (a : Addr) (y2 : Addr) (s_EMPTY : Addr) (h0 : Heap) (n0 : Nat) (v : Option Value) (h : Heap) (L : List Loc) : Prop := ∃ z : Addr, v = some (.ref z) ∧ Fr n0 L ∧ Keep h0 h [] ∧ Exa Z h z "java/util/ImmutableCollections$ListItr" ∧ Fld Z h z "java/util/ImmutableCollections$ListItr" "list" "Ljava/util/List;" (.ref a) ∧ Fld Z h z "java/util/ImmutableCollections$ListItr" "size" "I" (.int (2 : Int32)) ∧ Fld Z h z "java/util/ImmutableCollections$ListItr" "cursor" "I" (.int (0 : Int32)) ∧ Fld Z h z "java/util/ImmutableCollections$ListItr" "isListIterator" "Z" (.int (0 : Int32)) ∧ h0.size ≤ z ∧ n0 ≤ z
set_option maxRecDepth 65536 in
set_option maxHeartbeats 40000000 in
theorem rm27 (l : Launch) (Z : State) (a0 : Array Value) (hw : ∀ d ∈ tables_1, d.before a0 Z = true) (ws : List Jvm.Cond) (a : Addr) (y2 : Addr) (s_EMPTY : Addr) (h0 : Heap) (n0 : Nat) (O0 : Old Z n0 h0) (S_s_EMPTY : Sta Z Z.heap "java/util/ImmutableCollections" "EMPTY" "Ljava/lang/Object;" (.ref s_EMPTY)) (E_a : Exa Z h0 a "java/util/ImmutableCollections$List12") (F_e1_a : Fld Z h0 a "java/util/ImmutableCollections$List12" "e1" "Ljava/lang/Object;" (.ref y2)) (E_y2 : Exa Z h0 y2 "java/lang/Integer") (E_EMPTY : Exa Z h0 s_EMPTY "java/lang/Object") :
    MetFree l (⟨"java/util/ImmutableCollections$AbstractImmutableList", "iterator", "()Ljava/util/Iterator;"⟩ : MethodName) (head1 (Jvm.Cond.code (⟨"java/util/ImmutableCollections$AbstractImmutableList", "iterator", "()Ljava/util/Iterator;"⟩ : MethodName) jdk_46_method_10_code 1 (some (.object "java/util/Iterator")) :: ws) ({ frames := 2, cells := 1, slots := 4, locals := 27 } : Room)) (fun aA uU => aA = #[(.ref a)] ∧ Z.Warmed39 uU.vm ∧ uU.heap = h0) (fun _ _ _ _ _ => True) (fun _ uU oO uU' => ∃ vV lL, oO = .returned vV ∧ Q27 Z a y2 s_EMPTY h0 n0 vV uU'.heap lL ∧ FrameEnd uU oO uU' lL ({ frames := 2, cells := 1, slots := 4, locals := 27 } : Room).cells ({ frames := 2, cells := 1, slots := 4, locals := 27 } : Room).slots) := by
  refine MetFree.of_bodySF (plainFor_of_name pn_java_util_ImmutableCollections_AbstractImmutableList) hisR ?_
  intro p e s m args below meth c s₁ Bd hml0 hP hK
  obtain ⟨rfl, hZ, hh⟩ := hP
  have hx := Bd.exec
  have hby := Bd.bytes
  have hml : c.maxLocals = 1 := hml0
  have hown : s.vm.findClass "java/util/ImmutableCollections$AbstractImmutableList" = some m.cls := findClass_of_methodNamed Bd.named
  have hnm := (name_of_methodNamed Bd.named Bd.method).1
  have X0 : Stand p l e ({ frames := 2, cells := 1, slots := 4, locals := 27 } : Room) s m #[(.ref a)] below meth c s₁ [] 0 0 := Stand.of_body Bd
  have e0 : s₁.heap = h0 := by rw [← hh, Bd.state]; rfl
  have N0 := Fr.nil n0
  have O := O0
  have K := Keep.refl h0 []
  have pre0 : ∀ t, Steps p.tables e below (s₁.setTop (mkF m 0 #[.val (.ref a)] [])) t → Steps p.tables e below (s₁.setTop (entryFrame m #[(.ref a)] 1)) t := fun t k => castTop (ef_27 m a) k
  obtain ⟨T1, h1, X1, e1, E1, A1, D1, -, st1⟩ := newO X0 hx hZ hown (hw _ (List.mem_of_getElem? (i := 187) rfl)) (hw _ (List.mem_of_getElem? (i := 188) rfl)) (hw _ (List.mem_of_getElem? (i := 189) rfl)) e0 (g := (mkF m 0 #[.val (.ref a)] [])) rfl (hb hby d27_0) (by decide) (by decide)
  obtain ⟨b1, gq1⟩ : ∃ z, z = Array.size h0 := ⟨_, rfl⟩
  rw [← gq1] at A1 D1 st1
  have ne_a_b1 : a ≠ b1 := Nat.ne_of_lt (Nat.lt_of_lt_of_le E_a.lt (Nat.le_of_eq gq1.symm))
  have ne_y2_b1 : y2 ≠ b1 := Nat.ne_of_lt (Nat.lt_of_lt_of_le E_y2.lt (Nat.le_of_eq gq1.symm))
  have ne_s_EMPTY_b1 : s_EMPTY ≠ b1 := Nat.ne_of_lt (Nat.lt_of_lt_of_le E_EMPTY.lt (Nat.le_of_eq gq1.symm))
  have g_b1 : n0 ≤ b1 := Nat.le_trans (O.1 ▸ O.2.1) (Nat.le_of_eq gq1.symm)
  have z_b1 : h0.size ≤ b1 := Nat.le_trans K.1 (Nat.le_of_eq gq1.symm)
  have E_a := E_a.ext E1
  have F_e1_a := F_e1_a.ext E1
  have E_y2 := E_y2.ext E1
  have E_EMPTY := E_EMPTY.ext E1
  have O := O.ext E1
  have K := K.ext E1
  have F_list_b1 : Fld Z h1 b1 "java/util/ImmutableCollections$ListItr" "list" "Ljava/util/List;" .null := D1 (Or.inr (hw _ (List.mem_of_getElem? (i := 204) rfl))) (ty := (.object "java/util/List")) (by decide)
  have F_size_b1 : Fld Z h1 b1 "java/util/ImmutableCollections$ListItr" "size" "I" (.int (0 : Int32)) := D1 (Or.inr (hw _ (List.mem_of_getElem? (i := 206) rfl))) (ty := .int) (by decide)
  have F_cursor_b1 : Fld Z h1 b1 "java/util/ImmutableCollections$ListItr" "cursor" "I" (.int (0 : Int32)) := D1 (Or.inl (hw _ (List.mem_of_getElem? (i := 208) rfl))) (ty := .int) (by decide)
  have F_isListIterator_b1 : Fld Z h1 b1 "java/util/ImmutableCollections$ListItr" "isListIterator" "Z" (.int (0 : Int32)) := D1 (Or.inr (hw _ (List.mem_of_getElem? (i := 210) rfl))) (ty := .boolean) (by decide)
  obtain ⟨cq2, kq2, q2a, q2b, q2c⟩ := isOf hZ e1 E_a
  obtain ⟨_, _, ⟨T2, L2, k2, n2⟩, -, X2, ⟨Lc2, hQ2, l2, y2, z2⟩, st2⟩ := X1.virtualBackUp hx (x := (⟨"java/util/ImmutableCollections$AbstractImmutableList", "size", "()I"⟩ : MethodName)) (y := (⟨"java/util/ImmutableCollections$List12", "size", "()I"⟩ : MethodName)) (owner := "java/util/AbstractCollection") hown (mvT hZ (hw _ (List.mem_of_getElem? (i := 190) rfl))) (mvT hZ (hw _ (List.mem_of_getElem? (i := 191) rfl))) (mvT hZ (hw _ (List.mem_of_getElem? (i := 192) rfl))) (by decide) (mvT hZ (hw _ (List.mem_of_getElem? (i := 193) rfl))) (mvT hZ (hw _ (List.mem_of_getElem? (i := 194) rfl))) (backOf (W := 3) (rm28 l Z a0 hw [] a y2 s_EMPTY h1 n0 O S_s_EMPTY F_e1_a E_y2 E_EMPTY) hZ (hw _ (List.mem_of_getElem? (i := 195) rfl)) (hw _ (List.mem_of_getElem? (i := 131) rfl)) (by decide) (by decide)) q2a q2c (g := (mkF m 6 #[.val (.ref a)] [(.ref a), (.ref a), (.ref b1), (.ref b1)])) rfl (by rw [hml]; rfl) (Steps.refl _) (argsL := []) (rest := [(.ref a), (.ref b1), (.ref b1)]) (lenOf pd__40_41I rfl) rfl (by show 2 * 0 + _ ≤ _; exact Nat.le_of_eq rfl) (hb hby d27_6) (fun _ _ => ⟨rfl, e1, (by decide : 1 + 0 ≤ _), (by decide : 4 + 0 ≤ _)⟩)
  dsimp only [Pt.U, Pt.locs, Pt.cells, Pt.slots] at X2 l2 y2 z2 st2 hQ2
  subst l2 y2 z2
  obtain ⟨rfl, N2q, eh2⟩ := hQ2
  have N2 := Fr.app N0 N2q
  obtain ⟨_, _, ⟨T3, L3, k3, n3⟩, -, X3, ⟨Lc3, hQ3, l3, y3, z3⟩, st3⟩ := X2.specialBack hx (y := (⟨"java/util/ImmutableCollections$ListItr", "<init>", "(Ljava/util/List;I)V"⟩ : MethodName)) rfl hown (mvT hZ (hw _ (List.mem_of_getElem? (i := 198) rfl))) (mvT hZ (hw _ (List.mem_of_getElem? (i := 199) rfl))) (mvT hZ (hw _ (List.mem_of_getElem? (i := 201) rfl))) (by decide) (backOf (W := 1) (rm29 l Z a0 hw [] b1 a h1 n0 O A1 F_list_b1 F_size_b1 F_cursor_b1 F_isListIterator_b1 g_b1) hZ (hw _ (List.mem_of_getElem? (i := 201) rfl)) (hw _ (List.mem_of_getElem? (i := 189) rfl)) (by decide) (by decide)) (g := (mkF m 9 #[.val (.ref a)] [(.int (2 : Int32)), (.ref a), (.ref b1), (.ref b1)])) rfl (by rw [hml]; rfl) (Steps.refl _) (a := b1) (argsL := [(.ref a), (.int (2 : Int32))]) (rest := [(.ref b1)]) (lenOf pd__40Ljava_47util_47List_59I_41V rfl) rfl (by show 2 * 0 + _ ≤ _; exact Nat.le_of_eq rfl) (hb hby d27_9) (fun _ _ => ⟨rfl, eh2, (by decide : 1 + 0 ≤ _), (by decide : 4 + 0 ≤ _)⟩)
  dsimp only [Pt.U, Pt.locs, Pt.cells, Pt.slots] at X3 l3 y3 z3 st3 hQ3
  subst l3 y3 z3
  obtain ⟨rfl, N3q, K3, F_list_a_c3, F_size_a_c3, F_cursor_a_c3, F_isListIterator_a_c3⟩ := hQ3
  have N3 := Fr.app N2 N3q
  have E_a := E_a.keep K3
  have F_e1_a := F_e1_a.keep K3 (ninS ne_a_b1 nin0)
  have E_y2 := E_y2.keep K3
  have E_EMPTY := E_EMPTY.keep K3
  have A1 := A1.keep K3
  have O := O.keep K3 (allS g_b1 all0)
  have K := K.trans K3 (allS (Or.inr z_b1) all0)
  have w4 : ∀ t, Steps p.tables e below (T3.setTop (mkF m 12 #[.val (.ref a)] [(.ref b1)])) t → Steps p.tables e below (s₁.setTop (entryFrame m #[(.ref a)] 1)) t := fun t k => by
    refine pre0 t ?_
    refine st1 _ ?_
    show Steps p.tables e below (T1.setTop (mkF m 3 #[.val (.ref a)] [(.ref b1)])) _
    refine XS.dup X1.here hx rfl (hb hby d27_3) rfl rfl ?_
    show Steps p.tables e below (T1.setTop (mkF m 4 #[.val (.ref a)] [(.ref b1), (.ref b1)])) _
    refine XS.aloadN X1.here hx rfl (hb hby d27_4) rfl rfl ?_
    show Steps p.tables e below (T1.setTop (mkF m 5 #[.val (.ref a)] [(.ref a), (.ref b1), (.ref b1)])) _
    refine XS.aloadN X1.here hx rfl (hb hby d27_5) rfl rfl ?_
    show Steps p.tables e below (T1.setTop (mkF m 6 #[.val (.ref a)] [(.ref a), (.ref a), (.ref b1), (.ref b1)])) _
    refine st2.trans ?_
    show Steps p.tables e below (T2.setTop (mkF m 9 #[.val (.ref a)] [(.int (2 : Int32)), (.ref a), (.ref b1), (.ref b1)])) _
    refine st3.trans ?_
    show Steps p.tables e below (T3.setTop (mkF m 12 #[.val (.ref a)] [(.ref b1)])) _
    exact k
  obtain ⟨fs, hr, hrun, hended, hW, hsame⟩ := X3.leave (v := some (.ref b1)) (fun h => by rw [Bd.returns] at h; cases h)
  refine ⟨_, _, w4 _ ?_, hrun, hended, _, _, rfl, ?_, ⟨_, rfl⟩, hW, hsame.mono (by decide) (by decide)⟩
  · jvm_step X3.here [X3.here.top, hx, (hb hby d27_12), X3.method', Bd.returns, Value.isRef, FieldType.isReference]
    first | (intro acts; rw [hr _ acts rfl rfl rfl]) | rw [hr _ _ rfl rfl rfl]
    exact Steps.refl _
  · show Q27 Z a y2 s_EMPTY h0 n0 _ T3.heap _
    exact ⟨b1, rfl, N3, K, A1, F_list_a_c3, F_size_a_c3, F_cursor_a_c3, F_isListIterator_a_c3, z_b1, g_b1⟩
theorem d30_0 : decode jdk_53_method_3_code 0 = .ok (.aload_n 0, 1) := by decide +kernel
theorem d30_1 : decode jdk_53_method_3_code 1 = .ok (.getfield 17, 3) := by decide +kernel
theorem d30_4 : decode jdk_53_method_3_code 4 = .ok (.aload_n 0, 1) := by decide +kernel
theorem d30_5 : decode jdk_53_method_3_code 5 = .ok (.getfield 13, 3) := by decide +kernel
theorem d30_8 : decode jdk_53_method_3_code 8 = .ok (.if_icmp .eq 7, 3) := by decide +kernel
theorem d30_11 : decode jdk_53_method_3_code 11 = .ok (.iconst 1, 1) := by decide +kernel
theorem d30_12 : decode jdk_53_method_3_code 12 = .ok (.goto 4, 3) := by decide +kernel
theorem d30_16 : decode jdk_53_method_3_code 16 = .ok (.ireturn, 1) := by decide +kernel
theorem ef_30_0 (m : MethodId) (x0 : Addr) : entryFrame m #[(.ref x0)] 1 = mkF m 0 #[.val (.ref x0)] [] := by first | (simp [entryFrame, mkF, argsToLocals, Value.category]; done) | rfl
def Q30_0 (Z : State) (a : Addr) (h0 : Heap) (n0 : Nat) (v : Option Value) (h : Heap) (L : List Loc) : Prop := v = some (.int (1 : Int32)) ∧ Fr n0 L ∧ h = h0
set_option maxRecDepth 65536 in
set_option maxHeartbeats 40000000 in
theorem rm30_0 (l : Launch) (Z : State) (a0 : Array Value) (hw : ∀ d ∈ tables_1, d.before a0 Z = true) (ws : List Jvm.Cond) (a : Addr) (h0 : Heap) (n0 : Nat) (O0 : Old Z n0 h0) (F_cursor_a : Fld Z h0 a "java/util/ImmutableCollections$ListItr" "cursor" "I" (.int (0 : Int32))) (F_size_a : Fld Z h0 a "java/util/ImmutableCollections$ListItr" "size" "I" (.int (2 : Int32))) :
    MetFree l (⟨"java/util/ImmutableCollections$ListItr", "hasNext", "()Z"⟩ : MethodName) (head1 (Jvm.Cond.code (⟨"java/util/ImmutableCollections$ListItr", "hasNext", "()Z"⟩ : MethodName) jdk_53_method_3_code 1 (some .boolean) :: ws) ({ frames := 0, cells := 0, slots := 0, locals := 0 } : Room)) (fun aA uU => aA = #[(.ref a)] ∧ Z.Warmed39 uU.vm ∧ uU.heap = h0) (fun _ _ _ _ _ => True) (fun _ uU oO uU' => ∃ vV lL, oO = .returned vV ∧ Q30_0 Z a  h0 n0 vV uU'.heap lL ∧ FrameEnd uU oO uU' lL ({ frames := 0, cells := 0, slots := 0, locals := 0 } : Room).cells ({ frames := 0, cells := 0, slots := 0, locals := 0 } : Room).slots) := by
  refine MetFree.of_bodySF (plainFor_of_name pn_java_util_ImmutableCollections_ListItr) hisR ?_
  intro p e s m args below meth c s₁ Bd hml0 hP hK
  obtain ⟨rfl, hZ, hh⟩ := hP
  have hx := Bd.exec
  have hby := Bd.bytes
  have hml : c.maxLocals = 1 := hml0
  have hown : s.vm.findClass "java/util/ImmutableCollections$ListItr" = some m.cls := findClass_of_methodNamed Bd.named
  have hnm := (name_of_methodNamed Bd.named Bd.method).1
  have X0 : Stand p l e ({ frames := 0, cells := 0, slots := 0, locals := 0 } : Room) s m #[(.ref a)] below meth c s₁ [] 0 0 := Stand.of_body Bd
  have e0 : s₁.heap = h0 := by rw [← hh, Bd.state]; rfl
  have N0 := Fr.nil n0
  have O := O0
  have pre0 : ∀ t, Steps p.tables e below (s₁.setTop (mkF m 0 #[.val (.ref a)] [])) t → Steps p.tables e below (s₁.setTop (entryFrame m #[(.ref a)] 1)) t := fun t k => castTop (ef_30_0 m a) k
  obtain ⟨T1, X1, e1, st1⟩ := getF X0 hx hZ hown (host := "") (Or.inl (hw _ (List.mem_of_getElem? (i := 207) rfl))) Via.refl e0 F_cursor_a (g := (mkF m 1 #[.val (.ref a)] [(.ref a)])) rfl rfl (hb hby d30_1)
  obtain ⟨T2, X2, e2, st2⟩ := getF X1 hx hZ hown (host := "") (Or.inl (hw _ (List.mem_of_getElem? (i := 205) rfl))) Via.refl e1 F_size_a (g := (mkF m 5 #[.val (.ref a)] [(.ref a), (.int (0 : Int32))])) rfl rfl (hb hby d30_5)
  have w3 : ∀ t, Steps p.tables e below (T2.setTop (mkF m 16 #[.val (.ref a)] [(.int (1 : Int32))])) t → Steps p.tables e below (s₁.setTop (entryFrame m #[(.ref a)] 1)) t := fun t k => by
    refine pre0 t ?_
    refine XS.aloadN X0.here hx rfl (hb hby d30_0) rfl rfl ?_
    show Steps p.tables e below (s₁.setTop (mkF m 1 #[.val (.ref a)] [(.ref a)])) _
    refine st1 _ ?_
    show Steps p.tables e below (T1.setTop (mkF m 4 #[.val (.ref a)] [(.int (0 : Int32))])) _
    refine XS.aloadN X1.here hx rfl (hb hby d30_4) rfl rfl ?_
    show Steps p.tables e below (T1.setTop (mkF m 5 #[.val (.ref a)] [(.ref a), (.int (0 : Int32))])) _
    refine st2 _ ?_
    show Steps p.tables e below (T2.setTop (mkF m 8 #[.val (.ref a)] [(.int (2 : Int32)), (.int (0 : Int32))])) _
    refine XS.icmpNo X2.here hx rfl (hb hby d30_8) rfl (feq ((by decide) : ¬ ((0 : Int32) = (2 : Int32)))).1 ?_
    show Steps p.tables e below (T2.setTop (mkF m 11 #[.val (.ref a)] [])) _
    refine XS.iconst X2.here hx rfl (hb hby d30_11) ?_
    show Steps p.tables e below (T2.setTop (mkF m 12 #[.val (.ref a)] [(.int (1 : Int32))])) _
    refine XS.goto X2.here hx rfl (pc0 := 12) (pc' := 16) rfl (hb hby d30_12) (by decide) (by decide) ?_
    show Steps p.tables e below (T2.setTop (mkF m 16 #[.val (.ref a)] [(.int (1 : Int32))])) _
    exact k
  obtain ⟨fs, hr, hrun, hended, hW, hsame⟩ := X2.leave (v := some (.int (1 : Int32))) (fun h => by rw [Bd.returns] at h; cases h)
  refine ⟨_, _, w3 _ ?_, hrun, hended, _, _, rfl, ?_, ⟨_, rfl⟩, hW, hsame.mono (by decide) (by decide)⟩
  · exact retN X2 hx (t := .boolean) Bd.returns (by simp) (hb hby d30_16) hr
  · show Q30_0 Z a  h0 n0 _ T2.heap _
    rw [e2]
    exact ⟨rfl, N0, rfl⟩
theorem ef_30_1 (m : MethodId) (x0 : Addr) : entryFrame m #[(.ref x0)] 1 = mkF m 0 #[.val (.ref x0)] [] := by first | (simp [entryFrame, mkF, argsToLocals, Value.category]; done) | rfl
def Q30_1 (Z : State) (a : Addr) (h0 : Heap) (n0 : Nat) (v : Option Value) (h : Heap) (L : List Loc) : Prop := v = some (.int (1 : Int32)) ∧ Fr n0 L ∧ h = h0
set_option maxRecDepth 65536 in
set_option maxHeartbeats 40000000 in
theorem rm30_1 (l : Launch) (Z : State) (a0 : Array Value) (hw : ∀ d ∈ tables_1, d.before a0 Z = true) (ws : List Jvm.Cond) (a : Addr) (h0 : Heap) (n0 : Nat) (O0 : Old Z n0 h0) (F_cursor_a : Fld Z h0 a "java/util/ImmutableCollections$ListItr" "cursor" "I" (.int (1 : Int32))) (F_size_a : Fld Z h0 a "java/util/ImmutableCollections$ListItr" "size" "I" (.int (2 : Int32))) :
    MetFree l (⟨"java/util/ImmutableCollections$ListItr", "hasNext", "()Z"⟩ : MethodName) (head1 (Jvm.Cond.code (⟨"java/util/ImmutableCollections$ListItr", "hasNext", "()Z"⟩ : MethodName) jdk_53_method_3_code 1 (some .boolean) :: ws) ({ frames := 0, cells := 0, slots := 0, locals := 0 } : Room)) (fun aA uU => aA = #[(.ref a)] ∧ Z.Warmed39 uU.vm ∧ uU.heap = h0) (fun _ _ _ _ _ => True) (fun _ uU oO uU' => ∃ vV lL, oO = .returned vV ∧ Q30_1 Z a  h0 n0 vV uU'.heap lL ∧ FrameEnd uU oO uU' lL ({ frames := 0, cells := 0, slots := 0, locals := 0 } : Room).cells ({ frames := 0, cells := 0, slots := 0, locals := 0 } : Room).slots) := by
  refine MetFree.of_bodySF (plainFor_of_name pn_java_util_ImmutableCollections_ListItr) hisR ?_
  intro p e s m args below meth c s₁ Bd hml0 hP hK
  obtain ⟨rfl, hZ, hh⟩ := hP
  have hx := Bd.exec
  have hby := Bd.bytes
  have hml : c.maxLocals = 1 := hml0
  have hown : s.vm.findClass "java/util/ImmutableCollections$ListItr" = some m.cls := findClass_of_methodNamed Bd.named
  have hnm := (name_of_methodNamed Bd.named Bd.method).1
  have X0 : Stand p l e ({ frames := 0, cells := 0, slots := 0, locals := 0 } : Room) s m #[(.ref a)] below meth c s₁ [] 0 0 := Stand.of_body Bd
  have e0 : s₁.heap = h0 := by rw [← hh, Bd.state]; rfl
  have N0 := Fr.nil n0
  have O := O0
  have pre0 : ∀ t, Steps p.tables e below (s₁.setTop (mkF m 0 #[.val (.ref a)] [])) t → Steps p.tables e below (s₁.setTop (entryFrame m #[(.ref a)] 1)) t := fun t k => castTop (ef_30_1 m a) k
  obtain ⟨T1, X1, e1, st1⟩ := getF X0 hx hZ hown (host := "") (Or.inl (hw _ (List.mem_of_getElem? (i := 207) rfl))) Via.refl e0 F_cursor_a (g := (mkF m 1 #[.val (.ref a)] [(.ref a)])) rfl rfl (hb hby d30_1)
  obtain ⟨T2, X2, e2, st2⟩ := getF X1 hx hZ hown (host := "") (Or.inl (hw _ (List.mem_of_getElem? (i := 205) rfl))) Via.refl e1 F_size_a (g := (mkF m 5 #[.val (.ref a)] [(.ref a), (.int (1 : Int32))])) rfl rfl (hb hby d30_5)
  have w3 : ∀ t, Steps p.tables e below (T2.setTop (mkF m 16 #[.val (.ref a)] [(.int (1 : Int32))])) t → Steps p.tables e below (s₁.setTop (entryFrame m #[(.ref a)] 1)) t := fun t k => by
    refine pre0 t ?_
    refine XS.aloadN X0.here hx rfl (hb hby d30_0) rfl rfl ?_
    show Steps p.tables e below (s₁.setTop (mkF m 1 #[.val (.ref a)] [(.ref a)])) _
    refine st1 _ ?_
    show Steps p.tables e below (T1.setTop (mkF m 4 #[.val (.ref a)] [(.int (1 : Int32))])) _
    refine XS.aloadN X1.here hx rfl (hb hby d30_4) rfl rfl ?_
    show Steps p.tables e below (T1.setTop (mkF m 5 #[.val (.ref a)] [(.ref a), (.int (1 : Int32))])) _
    refine st2 _ ?_
    show Steps p.tables e below (T2.setTop (mkF m 8 #[.val (.ref a)] [(.int (2 : Int32)), (.int (1 : Int32))])) _
    refine XS.icmpNo X2.here hx rfl (hb hby d30_8) rfl (feq ((by decide) : ¬ ((1 : Int32) = (2 : Int32)))).1 ?_
    show Steps p.tables e below (T2.setTop (mkF m 11 #[.val (.ref a)] [])) _
    refine XS.iconst X2.here hx rfl (hb hby d30_11) ?_
    show Steps p.tables e below (T2.setTop (mkF m 12 #[.val (.ref a)] [(.int (1 : Int32))])) _
    refine XS.goto X2.here hx rfl (pc0 := 12) (pc' := 16) rfl (hb hby d30_12) (by decide) (by decide) ?_
    show Steps p.tables e below (T2.setTop (mkF m 16 #[.val (.ref a)] [(.int (1 : Int32))])) _
    exact k
  obtain ⟨fs, hr, hrun, hended, hW, hsame⟩ := X2.leave (v := some (.int (1 : Int32))) (fun h => by rw [Bd.returns] at h; cases h)
  refine ⟨_, _, w3 _ ?_, hrun, hended, _, _, rfl, ?_, ⟨_, rfl⟩, hW, hsame.mono (by decide) (by decide)⟩
  · exact retN X2 hx (t := .boolean) Bd.returns (by simp) (hb hby d30_16) hr
  · show Q30_1 Z a  h0 n0 _ T2.heap _
    rw [e2]
    exact ⟨rfl, N0, rfl⟩
theorem d30_15 : decode jdk_53_method_3_code 15 = .ok (.iconst 0, 1) := by decide +kernel
theorem ef_30_2 (m : MethodId) (x0 : Addr) : entryFrame m #[(.ref x0)] 1 = mkF m 0 #[.val (.ref x0)] [] := by first | (simp [entryFrame, mkF, argsToLocals, Value.category]; done) | rfl
def Q30_2 (Z : State) (a : Addr) (h0 : Heap) (n0 : Nat) (v : Option Value) (h : Heap) (L : List Loc) : Prop := v = some (.int (0 : Int32)) ∧ Fr n0 L ∧ h = h0
set_option maxRecDepth 65536 in
set_option maxHeartbeats 40000000 in
theorem rm30_2 (l : Launch) (Z : State) (a0 : Array Value) (hw : ∀ d ∈ tables_1, d.before a0 Z = true) (ws : List Jvm.Cond) (a : Addr) (h0 : Heap) (n0 : Nat) (O0 : Old Z n0 h0) (F_cursor_a : Fld Z h0 a "java/util/ImmutableCollections$ListItr" "cursor" "I" (.int (2 : Int32))) (F_size_a : Fld Z h0 a "java/util/ImmutableCollections$ListItr" "size" "I" (.int (2 : Int32))) :
    MetFree l (⟨"java/util/ImmutableCollections$ListItr", "hasNext", "()Z"⟩ : MethodName) (head1 (Jvm.Cond.code (⟨"java/util/ImmutableCollections$ListItr", "hasNext", "()Z"⟩ : MethodName) jdk_53_method_3_code 1 (some .boolean) :: ws) ({ frames := 0, cells := 0, slots := 0, locals := 0 } : Room)) (fun aA uU => aA = #[(.ref a)] ∧ Z.Warmed39 uU.vm ∧ uU.heap = h0) (fun _ _ _ _ _ => True) (fun _ uU oO uU' => ∃ vV lL, oO = .returned vV ∧ Q30_2 Z a  h0 n0 vV uU'.heap lL ∧ FrameEnd uU oO uU' lL ({ frames := 0, cells := 0, slots := 0, locals := 0 } : Room).cells ({ frames := 0, cells := 0, slots := 0, locals := 0 } : Room).slots) := by
  refine MetFree.of_bodySF (plainFor_of_name pn_java_util_ImmutableCollections_ListItr) hisR ?_
  intro p e s m args below meth c s₁ Bd hml0 hP hK
  obtain ⟨rfl, hZ, hh⟩ := hP
  have hx := Bd.exec
  have hby := Bd.bytes
  have hml : c.maxLocals = 1 := hml0
  have hown : s.vm.findClass "java/util/ImmutableCollections$ListItr" = some m.cls := findClass_of_methodNamed Bd.named
  have hnm := (name_of_methodNamed Bd.named Bd.method).1
  have X0 : Stand p l e ({ frames := 0, cells := 0, slots := 0, locals := 0 } : Room) s m #[(.ref a)] below meth c s₁ [] 0 0 := Stand.of_body Bd
  have e0 : s₁.heap = h0 := by rw [← hh, Bd.state]; rfl
  have N0 := Fr.nil n0
  have O := O0
  have pre0 : ∀ t, Steps p.tables e below (s₁.setTop (mkF m 0 #[.val (.ref a)] [])) t → Steps p.tables e below (s₁.setTop (entryFrame m #[(.ref a)] 1)) t := fun t k => castTop (ef_30_2 m a) k
  obtain ⟨T1, X1, e1, st1⟩ := getF X0 hx hZ hown (host := "") (Or.inl (hw _ (List.mem_of_getElem? (i := 207) rfl))) Via.refl e0 F_cursor_a (g := (mkF m 1 #[.val (.ref a)] [(.ref a)])) rfl rfl (hb hby d30_1)
  obtain ⟨T2, X2, e2, st2⟩ := getF X1 hx hZ hown (host := "") (Or.inl (hw _ (List.mem_of_getElem? (i := 205) rfl))) Via.refl e1 F_size_a (g := (mkF m 5 #[.val (.ref a)] [(.ref a), (.int (2 : Int32))])) rfl rfl (hb hby d30_5)
  have w3 : ∀ t, Steps p.tables e below (T2.setTop (mkF m 16 #[.val (.ref a)] [(.int (0 : Int32))])) t → Steps p.tables e below (s₁.setTop (entryFrame m #[(.ref a)] 1)) t := fun t k => by
    refine pre0 t ?_
    refine XS.aloadN X0.here hx rfl (hb hby d30_0) rfl rfl ?_
    show Steps p.tables e below (s₁.setTop (mkF m 1 #[.val (.ref a)] [(.ref a)])) _
    refine st1 _ ?_
    show Steps p.tables e below (T1.setTop (mkF m 4 #[.val (.ref a)] [(.int (2 : Int32))])) _
    refine XS.aloadN X1.here hx rfl (hb hby d30_4) rfl rfl ?_
    show Steps p.tables e below (T1.setTop (mkF m 5 #[.val (.ref a)] [(.ref a), (.int (2 : Int32))])) _
    refine st2 _ ?_
    show Steps p.tables e below (T2.setTop (mkF m 8 #[.val (.ref a)] [(.int (2 : Int32)), (.int (2 : Int32))])) _
    refine XS.icmpYes X2.here hx rfl (pc0 := 8) (pc' := 15) rfl (hb hby d30_8) rfl (teq (rfl : (2 : Int32) = (2 : Int32))).1 (by decide) (by decide) ?_
    show Steps p.tables e below (T2.setTop (mkF m 15 #[.val (.ref a)] [])) _
    refine XS.iconst X2.here hx rfl (hb hby d30_15) ?_
    show Steps p.tables e below (T2.setTop (mkF m 16 #[.val (.ref a)] [(.int (0 : Int32))])) _
    exact k
  obtain ⟨fs, hr, hrun, hended, hW, hsame⟩ := X2.leave (v := some (.int (0 : Int32))) (fun h => by rw [Bd.returns] at h; cases h)
  refine ⟨_, _, w3 _ ?_, hrun, hended, _, _, rfl, ?_, ⟨_, rfl⟩, hW, hsame.mono (by decide) (by decide)⟩
  · exact retN X2 hx (t := .boolean) Bd.returns (by simp) (hb hby d30_16) hr
  · show Q30_2 Z a  h0 n0 _ T2.heap _
    rw [e2]
    exact ⟨rfl, N0, rfl⟩
theorem d32_0 : decode jdk_44_method_5_code 0 = .ok (.iload_n 1, 1) := by decide +kernel
theorem d32_1 : decode jdk_44_method_5_code 1 = .ok (.ifCond .ne 8, 3) := by decide +kernel
theorem d32_4 : decode jdk_44_method_5_code 4 = .ok (.aload_n 0, 1) := by decide +kernel
theorem d32_5 : decode jdk_44_method_5_code 5 = .ok (.getfield 13, 3) := by decide +kernel
theorem d32_8 : decode jdk_44_method_5_code 8 = .ok (.areturn, 1) := by decide +kernel
theorem ef_32_0 (m : MethodId) (x0 : Addr) : entryFrame m #[(.ref x0), (.int (0 : Int32))] 2 = mkF m 0 #[.val (.ref x0), .val (.int (0 : Int32))] [] := by first | (simp [entryFrame, mkF, argsToLocals, Value.category]; done) | rfl
def Q32_0 (Z : State) (a : Addr) (y1 : Addr) (y2 : Addr) (h0 : Heap) (n0 : Nat) (v : Option Value) (h : Heap) (L : List Loc) : Prop := v = some (.ref y1) ∧ Fr n0 L ∧ h = h0
set_option maxRecDepth 65536 in
set_option maxHeartbeats 40000000 in
theorem rm32_0 (l : Launch) (Z : State) (a0 : Array Value) (hw : ∀ d ∈ tables_1, d.before a0 Z = true) (ws : List Jvm.Cond) (a : Addr) (y1 : Addr) (y2 : Addr) (h0 : Heap) (n0 : Nat) (O0 : Old Z n0 h0) (F_e0_a : Fld Z h0 a "java/util/ImmutableCollections$List12" "e0" "Ljava/lang/Object;" (.ref y1)) (F_e1_a : Fld Z h0 a "java/util/ImmutableCollections$List12" "e1" "Ljava/lang/Object;" (.ref y2)) :
    MetFree l (⟨"java/util/ImmutableCollections$List12", "get", "(I)Ljava/lang/Object;"⟩ : MethodName) (head1 (Jvm.Cond.code (⟨"java/util/ImmutableCollections$List12", "get", "(I)Ljava/lang/Object;"⟩ : MethodName) jdk_44_method_5_code 2 (some (.object "java/lang/Object")) :: ws) ({ frames := 0, cells := 0, slots := 0, locals := 0 } : Room)) (fun aA uU => aA = #[(.ref a), (.int (0 : Int32))] ∧ Z.Warmed39 uU.vm ∧ uU.heap = h0) (fun _ _ _ _ _ => True) (fun _ uU oO uU' => ∃ vV lL, oO = .returned vV ∧ Q32_0 Z a y1 y2  h0 n0 vV uU'.heap lL ∧ FrameEnd uU oO uU' lL ({ frames := 0, cells := 0, slots := 0, locals := 0 } : Room).cells ({ frames := 0, cells := 0, slots := 0, locals := 0 } : Room).slots) := by
  refine MetFree.of_bodySF (plainFor_of_name pn_java_util_ImmutableCollections_List12) hisR ?_
  intro p e s m args below meth c s₁ Bd hml0 hP hK
  obtain ⟨rfl, hZ, hh⟩ := hP
  have hx := Bd.exec
  have hby := Bd.bytes
  have hml : c.maxLocals = 2 := hml0
  have hown : s.vm.findClass "java/util/ImmutableCollections$List12" = some m.cls := findClass_of_methodNamed Bd.named
  have hnm := (name_of_methodNamed Bd.named Bd.method).1
  have X0 : Stand p l e ({ frames := 0, cells := 0, slots := 0, locals := 0 } : Room) s m #[(.ref a), (.int (0 : Int32))] below meth c s₁ [] 0 0 := Stand.of_body Bd
  have e0 : s₁.heap = h0 := by rw [← hh, Bd.state]; rfl
  have N0 := Fr.nil n0
  have O := O0
  have pre0 : ∀ t, Steps p.tables e below (s₁.setTop (mkF m 0 #[.val (.ref a), .val (.int (0 : Int32))] [])) t → Steps p.tables e below (s₁.setTop (entryFrame m #[(.ref a), (.int (0 : Int32))] 2)) t := fun t k => castTop (ef_32_0 m a) k
  obtain ⟨T1, X1, e1, st1⟩ := getF X0 hx hZ hown (host := "") (Or.inl (hw _ (List.mem_of_getElem? (i := 153) rfl))) Via.refl e0 F_e0_a (g := (mkF m 5 #[.val (.ref a), .val (.int (0 : Int32))] [(.ref a)])) rfl rfl (hb hby d32_5)
  have w2 : ∀ t, Steps p.tables e below (T1.setTop (mkF m 8 #[.val (.ref a), .val (.int (0 : Int32))] [(.ref y1)])) t → Steps p.tables e below (s₁.setTop (entryFrame m #[(.ref a), (.int (0 : Int32))] 2)) t := fun t k => by
    refine pre0 t ?_
    refine XS.iloadN X0.here hx rfl (hb hby d32_0) rfl ?_
    show Steps p.tables e below (s₁.setTop (mkF m 1 #[.val (.ref a), .val (.int (0 : Int32))] [(.int (0 : Int32))])) _
    refine XS.ifNo X0.here hx rfl (hb hby d32_1) rfl ((if0 _ _).trans (teq (rfl : (0 : Int32) = (0 : Int32))).2) ?_
    show Steps p.tables e below (s₁.setTop (mkF m 4 #[.val (.ref a), .val (.int (0 : Int32))] [])) _
    refine XS.aloadN X0.here hx rfl (hb hby d32_4) rfl rfl ?_
    show Steps p.tables e below (s₁.setTop (mkF m 5 #[.val (.ref a), .val (.int (0 : Int32))] [(.ref a)])) _
    refine st1 _ ?_
    show Steps p.tables e below (T1.setTop (mkF m 8 #[.val (.ref a), .val (.int (0 : Int32))] [(.ref y1)])) _
    exact k
  obtain ⟨fs, hr, hrun, hended, hW, hsame⟩ := X1.leave (v := some (.ref y1)) (fun h => by rw [Bd.returns] at h; cases h)
  refine ⟨_, _, w2 _ ?_, hrun, hended, _, _, rfl, ?_, ⟨_, rfl⟩, hW, hsame.mono (by decide) (by decide)⟩
  · jvm_step X1.here [X1.here.top, hx, (hb hby d32_8), X1.method', Bd.returns, Value.isRef, FieldType.isReference]
    first | (intro acts; rw [hr _ acts rfl rfl rfl]) | rw [hr _ _ rfl rfl rfl]
    exact Steps.refl _
  · show Q32_0 Z a y1 y2  h0 n0 _ T1.heap _
    rw [e1]
    exact ⟨rfl, N0, rfl⟩
theorem d31_0 : decode jdk_53_method_4_code 0 = .ok (.aload_n 0, 1) := by decide +kernel
theorem d31_1 : decode jdk_53_method_4_code 1 = .ok (.getfield 17, 3) := by decide +kernel
theorem d31_4 : decode jdk_53_method_4_code 4 = .ok (.istore_n 1, 1) := by decide +kernel
theorem d31_5 : decode jdk_53_method_4_code 5 = .ok (.aload_n 0, 1) := by decide +kernel
theorem d31_6 : decode jdk_53_method_4_code 6 = .ok (.getfield 7, 3) := by decide +kernel
theorem d31_9 : decode jdk_53_method_4_code 9 = .ok (.iload_n 1, 1) := by decide +kernel
theorem d31_10 : decode jdk_53_method_4_code 10 = .ok (.invokeinterface 24 2, 5) := by decide +kernel
theorem d31_15 : decode jdk_53_method_4_code 15 = .ok (.astore_n 2, 1) := by decide +kernel
theorem d31_16 : decode jdk_53_method_4_code 16 = .ok (.aload_n 0, 1) := by decide +kernel
theorem d31_17 : decode jdk_53_method_4_code 17 = .ok (.iload_n 1, 1) := by decide +kernel
theorem d31_18 : decode jdk_53_method_4_code 18 = .ok (.iconst 1, 1) := by decide +kernel
theorem d31_19 : decode jdk_53_method_4_code 19 = .ok (.iadd, 1) := by decide +kernel
theorem d31_20 : decode jdk_53_method_4_code 20 = .ok (.putfield 17, 3) := by decide +kernel
theorem d31_23 : decode jdk_53_method_4_code 23 = .ok (.aload_n 2, 1) := by decide +kernel
theorem d31_24 : decode jdk_53_method_4_code 24 = .ok (.areturn, 1) := by decide +kernel
theorem ef_31_0 (m : MethodId) (x0 : Addr) : entryFrame m #[(.ref x0)] 3 = mkF m 0 #[.val (.ref x0), .unset, .unset] [] := by first | (simp [entryFrame, mkF, argsToLocals, Value.category]; done) | rfl
def Q31_0 (Z : State) (a : Addr) (l1 : Addr) (y1 : Addr) (y2 : Addr) (h0 : Heap) (n0 : Nat) (v : Option Value) (h : Heap) (L : List Loc) : Prop := v = some (.ref y1) ∧ Fr n0 L ∧ Keep h0 h [a] ∧ Fld Z h a "java/util/ImmutableCollections$ListItr" "list" "Ljava/util/List;" (.ref l1) ∧ Fld Z h a "java/util/ImmutableCollections$ListItr" "size" "I" (.int (2 : Int32)) ∧ Fld Z h a "java/util/ImmutableCollections$ListItr" "cursor" "I" (.int (1 : Int32)) ∧ Fld Z h a "java/util/ImmutableCollections$ListItr" "isListIterator" "Z" (.int (0 : Int32))
set_option maxRecDepth 65536 in
set_option maxHeartbeats 40000000 in
theorem rm31_0 (l : Launch) (Z : State) (a0 : Array Value) (hw : ∀ d ∈ tables_1, d.before a0 Z = true) (ws : List Jvm.Cond) (a : Addr) (l1 : Addr) (y1 : Addr) (y2 : Addr) (h0 : Heap) (n0 : Nat) (O0 : Old Z n0 h0) (E_a : Exa Z h0 a "java/util/ImmutableCollections$ListItr") (F_list_a : Fld Z h0 a "java/util/ImmutableCollections$ListItr" "list" "Ljava/util/List;" (.ref l1)) (F_size_a : Fld Z h0 a "java/util/ImmutableCollections$ListItr" "size" "I" (.int (2 : Int32))) (F_cursor_a : Fld Z h0 a "java/util/ImmutableCollections$ListItr" "cursor" "I" (.int (0 : Int32))) (F_isListIterator_a : Fld Z h0 a "java/util/ImmutableCollections$ListItr" "isListIterator" "Z" (.int (0 : Int32))) (E_l1 : Exa Z h0 l1 "java/util/ImmutableCollections$List12") (F_e0_l1 : Fld Z h0 l1 "java/util/ImmutableCollections$List12" "e0" "Ljava/lang/Object;" (.ref y1)) (F_e1_l1 : Fld Z h0 l1 "java/util/ImmutableCollections$List12" "e1" "Ljava/lang/Object;" (.ref y2)) (g_a : n0 ≤ a) :
    MetFree l (⟨"java/util/ImmutableCollections$ListItr", "next", "()Ljava/lang/Object;"⟩ : MethodName) (head1 (Jvm.Cond.codeWith (⟨"java/util/ImmutableCollections$ListItr", "next", "()Ljava/lang/Object;"⟩ : MethodName) jdk_53_method_4_code 3 (some (.object "java/lang/Object")) [((0 : Nat), (24 : Nat), (25 : Nat), (30 : Nat))] :: ws) ({ frames := 1, cells := 0, slots := 0, locals := 13 } : Room)) (fun aA uU => aA = #[(.ref a)] ∧ Z.Warmed39 uU.vm ∧ uU.heap = h0) (fun _ _ _ _ _ => True) (fun _ uU oO uU' => ∃ vV lL, oO = .returned vV ∧ Q31_0 Z a l1 y1 y2  h0 n0 vV uU'.heap lL ∧ FrameEnd uU oO uU' lL ({ frames := 1, cells := 0, slots := 0, locals := 13 } : Room).cells ({ frames := 1, cells := 0, slots := 0, locals := 13 } : Room).slots) := by
  refine MetFree.of_bodySF (plainFor_of_name pn_java_util_ImmutableCollections_ListItr) hisWith ?_
  intro p e s m args below meth c s₁ Bd hml0 hP hK
  obtain ⟨rfl, hZ, hh⟩ := hP
  have hx := Bd.exec
  have hby := Bd.bytes
  have hml : c.maxLocals = 3 := hml0
  have hown : s.vm.findClass "java/util/ImmutableCollections$ListItr" = some m.cls := findClass_of_methodNamed Bd.named
  have hnm := (name_of_methodNamed Bd.named Bd.method).1
  have X0 : Stand p l e ({ frames := 1, cells := 0, slots := 0, locals := 13 } : Room) s m #[(.ref a)] below meth c s₁ [] 0 0 := Stand.of_body Bd
  have e0 : s₁.heap = h0 := by rw [← hh, Bd.state]; rfl
  have N0 := Fr.nil n0
  have O := O0
  have K := Keep.refl h0 [a]
  have pre0 : ∀ t, Steps p.tables e below (s₁.setTop (mkF m 0 #[.val (.ref a), .unset, .unset] [])) t → Steps p.tables e below (s₁.setTop (entryFrame m #[(.ref a)] 3)) t := fun t k => castTop (ef_31_0 m a) k
  obtain ⟨T1, X1, e1, st1⟩ := getF X0 hx hZ hown (host := "") (Or.inl (hw _ (List.mem_of_getElem? (i := 207) rfl))) Via.refl e0 F_cursor_a (g := (mkF m 1 #[.val (.ref a), .unset, .unset] [(.ref a)])) rfl rfl (hb hby d31_1)
  obtain ⟨T2, X2, e2, st2⟩ := getF X1 hx hZ hown (host := "") (Or.inl (hw _ (List.mem_of_getElem? (i := 203) rfl))) Via.refl e1 F_list_a (g := (mkF m 6 #[.val (.ref a), .val (.int (0 : Int32)), .unset] [(.ref a)])) rfl rfl (hb hby d31_6)
  obtain ⟨cq3, kq3, q3a, q3b, q3c⟩ := isOf hZ e2 E_l1
  obtain ⟨_, _, ⟨T3, L3, k3, n3⟩, -, X3, ⟨Lc3, hQ3, l3, y3, z3⟩, st3⟩ := X2.interfaceBack hx (xi := (⟨"java/util/List", "get", "(I)Ljava/lang/Object;"⟩ : MethodName)) (y := (⟨"java/util/ImmutableCollections$List12", "get", "(I)Ljava/lang/Object;"⟩ : MethodName)) hown (mvT hZ (hw _ (List.mem_of_getElem? (i := 228) rfl))) (mvT hZ (hw _ (List.mem_of_getElem? (i := 94) rfl))) (mvT hZ (hw _ (List.mem_of_getElem? (i := 95) rfl))) (mvT hZ (hw _ (List.mem_of_getElem? (i := 229) rfl))) (mvT hZ (hw _ (List.mem_of_getElem? (i := 230) rfl))) (mvT hZ (hw _ (List.mem_of_getElem? (i := 231) rfl))) (mvT hZ (hw _ (List.mem_of_getElem? (i := 232) rfl))) (mvT hZ (hw _ (List.mem_of_getElem? (i := 166) rfl))) (by decide) (backOf (W := 0) (rm32_0 l Z a0 hw [] l1 y1 y2 h0 n0 O F_e0_l1 F_e1_l1) hZ (hw _ (List.mem_of_getElem? (i := 233) rfl)) (hw _ (List.mem_of_getElem? (i := 131) rfl)) (by decide) (by decide)) q3a q3b q3c (g := (mkF m 10 #[.val (.ref a), .val (.int (0 : Int32)), .unset] [(.int (0 : Int32)), (.ref l1)])) rfl (by rw [hml]; rfl) (Steps.refl _) (argsL := [(.int (0 : Int32))]) (rest := []) (lenOf pd__40I_41Ljava_47lang_47Object_59 rfl) rfl (by show 2 * 0 + _ ≤ _; exact Nat.le_of_eq rfl) (hb hby d31_10) (fun _ _ => ⟨rfl, e2, (by decide : 0 + 0 ≤ _), (by decide : 0 + 0 ≤ _)⟩)
  dsimp only [Pt.U, Pt.locs, Pt.cells, Pt.slots] at X3 l3 y3 z3 st3 hQ3
  subst l3 y3 z3
  obtain ⟨rfl, N3q, eh3⟩ := hQ3
  have N3 := Fr.app N0 N3q
  have ne_l1_a : l1 ≠ a := (Exa.ne E_l1 E_a (by decide))
  obtain ⟨T4, h4, X4, e4, W4, st4⟩ := putF X3 hx hZ hown (host := "") (Or.inl (hw _ (List.mem_of_getElem? (i := 207) rfl))) Via.refl eh3 F_cursor_a E_a (Or.inl (hw _ (List.mem_of_getElem? (i := 208) rfl))) (hw _ (List.mem_of_getElem? (i := 188) rfl)) (ty := .int) (by decide) rfl rfl (g := (mkF m 20 #[.val (.ref a), .val (.int (0 : Int32)), .val (.ref y1)] [(.int (1 : Int32)), (.ref a)])) rfl rfl (hb hby d31_20)
  have F_cursor_a := F_cursor_a.same W4
  have E_a := E_a.wr W4
  have F_list_a := F_list_a.other W4 (Or.inr (slot_ne (Or.inr (hw _ (List.mem_of_getElem? (i := 204) rfl))) (Or.inl (hw _ (List.mem_of_getElem? (i := 208) rfl))) (by decide) (t := (.object "java/util/List")) (t' := .int) (by decide) (by decide)))
  have F_size_a := F_size_a.other W4 (Or.inr (slot_ne (Or.inr (hw _ (List.mem_of_getElem? (i := 206) rfl))) (Or.inl (hw _ (List.mem_of_getElem? (i := 208) rfl))) (by decide) (t := .int) (t' := .int) (by decide) (by decide)))
  have F_isListIterator_a := F_isListIterator_a.other W4 (Or.inr (slot_ne (Or.inr (hw _ (List.mem_of_getElem? (i := 210) rfl))) (Or.inl (hw _ (List.mem_of_getElem? (i := 208) rfl))) (by decide) (t := .boolean) (t' := .int) (by decide) (by decide)))
  have E_l1 := E_l1.wr W4
  have F_e0_l1 := F_e0_l1.other W4 (Or.inl ne_l1_a)
  have F_e1_l1 := F_e1_l1.other W4 (Or.inl ne_l1_a)
  have O := O.wr W4 g_a
  have K := K.wr W4 (Or.inl (List.mem_of_getElem? (i := 0) rfl))
  have N4 := Fr.snoc X4 N3 g_a
  have w5 : ∀ t, Steps p.tables e below (T4.setTop (mkF m 24 #[.val (.ref a), .val (.int (0 : Int32)), .val (.ref y1)] [(.ref y1)])) t → Steps p.tables e below (s₁.setTop (entryFrame m #[(.ref a)] 3)) t := fun t k => by
    refine pre0 t ?_
    refine XS.aloadN X0.here hx rfl (hb hby d31_0) rfl rfl ?_
    show Steps p.tables e below (s₁.setTop (mkF m 1 #[.val (.ref a), .unset, .unset] [(.ref a)])) _
    refine st1 _ ?_
    show Steps p.tables e below (T1.setTop (mkF m 4 #[.val (.ref a), .unset, .unset] [(.int (0 : Int32))])) _
    refine XS.istoreN X1.here hx rfl (hb hby d31_4) rfl (l' := #[.val (.ref a), .val (.int (0 : Int32)), .unset]) rfl ?_
    show Steps p.tables e below (T1.setTop (mkF m 5 #[.val (.ref a), .val (.int (0 : Int32)), .unset] [])) _
    refine XS.aloadN X1.here hx rfl (hb hby d31_5) rfl rfl ?_
    show Steps p.tables e below (T1.setTop (mkF m 6 #[.val (.ref a), .val (.int (0 : Int32)), .unset] [(.ref a)])) _
    refine st2 _ ?_
    show Steps p.tables e below (T2.setTop (mkF m 9 #[.val (.ref a), .val (.int (0 : Int32)), .unset] [(.ref l1)])) _
    refine XS.iloadN X2.here hx rfl (hb hby d31_9) rfl ?_
    show Steps p.tables e below (T2.setTop (mkF m 10 #[.val (.ref a), .val (.int (0 : Int32)), .unset] [(.int (0 : Int32)), (.ref l1)])) _
    refine st3.trans ?_
    show Steps p.tables e below (T3.setTop (mkF m 15 #[.val (.ref a), .val (.int (0 : Int32)), .unset] [(.ref y1)])) _
    refine XS.astoreN X3.here hx rfl (hb hby d31_15) rfl rfl (l' := #[.val (.ref a), .val (.int (0 : Int32)), .val (.ref y1)]) rfl ?_
    show Steps p.tables e below (T3.setTop (mkF m 16 #[.val (.ref a), .val (.int (0 : Int32)), .val (.ref y1)] [])) _
    refine XS.aloadN X3.here hx rfl (hb hby d31_16) rfl rfl ?_
    show Steps p.tables e below (T3.setTop (mkF m 17 #[.val (.ref a), .val (.int (0 : Int32)), .val (.ref y1)] [(.ref a)])) _
    refine XS.iloadN X3.here hx rfl (hb hby d31_17) rfl ?_
    show Steps p.tables e below (T3.setTop (mkF m 18 #[.val (.ref a), .val (.int (0 : Int32)), .val (.ref y1)] [(.int (0 : Int32)), (.ref a)])) _
    refine XS.iconst X3.here hx rfl (hb hby d31_18) ?_
    show Steps p.tables e below (T3.setTop (mkF m 19 #[.val (.ref a), .val (.int (0 : Int32)), .val (.ref y1)] [(.int (1 : Int32)), (.int (0 : Int32)), (.ref a)])) _
    refine XS.iadd X3.here hx rfl (hb hby d31_19) rfl ?_
    show Steps p.tables e below (T3.setTop (mkF m 20 #[.val (.ref a), .val (.int (0 : Int32)), .val (.ref y1)] [(.int (1 : Int32)), (.ref a)])) _
    refine st4 _ ?_
    show Steps p.tables e below (T4.setTop (mkF m 23 #[.val (.ref a), .val (.int (0 : Int32)), .val (.ref y1)] [])) _
    refine XS.aloadN X4.here hx rfl (hb hby d31_23) rfl rfl ?_
    show Steps p.tables e below (T4.setTop (mkF m 24 #[.val (.ref a), .val (.int (0 : Int32)), .val (.ref y1)] [(.ref y1)])) _
    exact k
  obtain ⟨fs, hr, hrun, hended, hW, hsame⟩ := X4.leave (v := some (.ref y1)) (fun h => by rw [Bd.returns] at h; cases h)
  refine ⟨_, _, w5 _ ?_, hrun, hended, _, _, rfl, ?_, ⟨_, rfl⟩, hW, hsame.mono (by decide) (by decide)⟩
  · jvm_step X4.here [X4.here.top, hx, (hb hby d31_24), X4.method', Bd.returns, Value.isRef, FieldType.isReference]
    first | (intro acts; rw [hr _ acts rfl rfl rfl]) | rw [hr _ _ rfl rfl rfl]
    exact Steps.refl _
  · show Q31_0 Z a l1 y1 y2  h0 n0 _ T4.heap _
    rw [e4]
    exact ⟨rfl, N4, K, F_list_a, F_size_a, F_cursor_a, F_isListIterator_a⟩
theorem d32_9 : decode jdk_44_method_5_code 9 = .ok (.iload_n 1, 1) := by decide +kernel
theorem d32_10 : decode jdk_44_method_5_code 10 = .ok (.iconst 1, 1) := by decide +kernel
theorem d32_11 : decode jdk_44_method_5_code 11 = .ok (.if_icmp .ne 18, 3) := by decide +kernel
theorem d32_14 : decode jdk_44_method_5_code 14 = .ok (.aload_n 0, 1) := by decide +kernel
theorem d32_15 : decode jdk_44_method_5_code 15 = .ok (.getfield 24, 3) := by decide +kernel
theorem d32_18 : decode jdk_44_method_5_code 18 = .ok (.getstatic 19, 3) := by decide +kernel
theorem d32_21 : decode jdk_44_method_5_code 21 = .ok (.if_acmp .eq 8, 3) := by decide +kernel
theorem d32_24 : decode jdk_44_method_5_code 24 = .ok (.aload_n 0, 1) := by decide +kernel
theorem d32_25 : decode jdk_44_method_5_code 25 = .ok (.getfield 24, 3) := by decide +kernel
theorem d32_28 : decode jdk_44_method_5_code 28 = .ok (.areturn, 1) := by decide +kernel
theorem ef_32_1 (m : MethodId) (x0 : Addr) : entryFrame m #[(.ref x0), (.int (1 : Int32))] 2 = mkF m 0 #[.val (.ref x0), .val (.int (1 : Int32))] [] := by first | (simp [entryFrame, mkF, argsToLocals, Value.category]; done) | rfl
def Q32_1 (Z : State) (a : Addr) (y1 : Addr) (y2 : Addr) (s_EMPTY : Addr) (h0 : Heap) (n0 : Nat) (v : Option Value) (h : Heap) (L : List Loc) : Prop := v = some (.ref y2) ∧ Fr n0 L ∧ h = h0
set_option maxRecDepth 65536 in
set_option maxHeartbeats 40000000 in
theorem rm32_1 (l : Launch) (Z : State) (a0 : Array Value) (hw : ∀ d ∈ tables_1, d.before a0 Z = true) (ws : List Jvm.Cond) (a : Addr) (y1 : Addr) (y2 : Addr) (s_EMPTY : Addr) (h0 : Heap) (n0 : Nat) (O0 : Old Z n0 h0) (S_s_EMPTY : Sta Z Z.heap "java/util/ImmutableCollections" "EMPTY" "Ljava/lang/Object;" (.ref s_EMPTY)) (F_e0_a : Fld Z h0 a "java/util/ImmutableCollections$List12" "e0" "Ljava/lang/Object;" (.ref y1)) (F_e1_a : Fld Z h0 a "java/util/ImmutableCollections$List12" "e1" "Ljava/lang/Object;" (.ref y2)) (E_y2 : Exa Z h0 y2 "java/lang/Integer") (E_EMPTY : Exa Z h0 s_EMPTY "java/lang/Object") :
    MetFree l (⟨"java/util/ImmutableCollections$List12", "get", "(I)Ljava/lang/Object;"⟩ : MethodName) (head1 (Jvm.Cond.code (⟨"java/util/ImmutableCollections$List12", "get", "(I)Ljava/lang/Object;"⟩ : MethodName) jdk_44_method_5_code 2 (some (.object "java/lang/Object")) :: ws) ({ frames := 0, cells := 0, slots := 0, locals := 0 } : Room)) (fun aA uU => aA = #[(.ref a), (.int (1 : Int32))] ∧ Z.Warmed39 uU.vm ∧ uU.heap = h0) (fun _ _ _ _ _ => True) (fun _ uU oO uU' => ∃ vV lL, oO = .returned vV ∧ Q32_1 Z a y1 y2 s_EMPTY h0 n0 vV uU'.heap lL ∧ FrameEnd uU oO uU' lL ({ frames := 0, cells := 0, slots := 0, locals := 0 } : Room).cells ({ frames := 0, cells := 0, slots := 0, locals := 0 } : Room).slots) := by
  refine MetFree.of_bodySF (plainFor_of_name pn_java_util_ImmutableCollections_List12) hisR ?_
  intro p e s m args below meth c s₁ Bd hml0 hP hK
  obtain ⟨rfl, hZ, hh⟩ := hP
  have hx := Bd.exec
  have hby := Bd.bytes
  have hml : c.maxLocals = 2 := hml0
  have hown : s.vm.findClass "java/util/ImmutableCollections$List12" = some m.cls := findClass_of_methodNamed Bd.named
  have hnm := (name_of_methodNamed Bd.named Bd.method).1
  have X0 : Stand p l e ({ frames := 0, cells := 0, slots := 0, locals := 0 } : Room) s m #[(.ref a), (.int (1 : Int32))] below meth c s₁ [] 0 0 := Stand.of_body Bd
  have e0 : s₁.heap = h0 := by rw [← hh, Bd.state]; rfl
  have N0 := Fr.nil n0
  have O := O0
  have pre0 : ∀ t, Steps p.tables e below (s₁.setTop (mkF m 0 #[.val (.ref a), .val (.int (1 : Int32))] [])) t → Steps p.tables e below (s₁.setTop (entryFrame m #[(.ref a), (.int (1 : Int32))] 2)) t := fun t k => castTop (ef_32_1 m a) k
  obtain ⟨T1, X1, e1, st1⟩ := getF X0 hx hZ hown (host := "") (Or.inl (hw _ (List.mem_of_getElem? (i := 155) rfl))) Via.refl e0 F_e1_a (g := (mkF m 15 #[.val (.ref a), .val (.int (1 : Int32))] [(.ref a)])) rfl rfl (hb hby d32_15)
  obtain ⟨T2, X2, e2, st2⟩ := getS2 X1 hx hZ hown (Or.inr (hw _ (List.mem_of_getElem? (i := 196) rfl))) Via.refl e1 (S_s_EMPTY.ext O.2) (g := (mkF m 18 #[.val (.ref a), .val (.int (1 : Int32))] [(.ref y2)])) rfl (hb hby d32_18)
  obtain ⟨T3, X3, e3, st3⟩ := getF X2 hx hZ hown (host := "") (Or.inl (hw _ (List.mem_of_getElem? (i := 155) rfl))) Via.refl e2 F_e1_a (g := (mkF m 25 #[.val (.ref a), .val (.int (1 : Int32))] [(.ref a)])) rfl rfl (hb hby d32_25)
  have w4 : ∀ t, Steps p.tables e below (T3.setTop (mkF m 28 #[.val (.ref a), .val (.int (1 : Int32))] [(.ref y2)])) t → Steps p.tables e below (s₁.setTop (entryFrame m #[(.ref a), (.int (1 : Int32))] 2)) t := fun t k => by
    refine pre0 t ?_
    refine XS.iloadN X0.here hx rfl (hb hby d32_0) rfl ?_
    show Steps p.tables e below (s₁.setTop (mkF m 1 #[.val (.ref a), .val (.int (1 : Int32))] [(.int (1 : Int32))])) _
    refine XS.ifYes X0.here hx rfl (pc0 := 1) (pc' := 9) rfl (hb hby d32_1) rfl ((if0 _ _).trans (feq ((by decide) : ¬ ((1 : Int32) = (0 : Int32)))).2) (by decide) (by decide) ?_
    show Steps p.tables e below (s₁.setTop (mkF m 9 #[.val (.ref a), .val (.int (1 : Int32))] [])) _
    refine XS.iloadN X0.here hx rfl (hb hby d32_9) rfl ?_
    show Steps p.tables e below (s₁.setTop (mkF m 10 #[.val (.ref a), .val (.int (1 : Int32))] [(.int (1 : Int32))])) _
    refine XS.iconst X0.here hx rfl (hb hby d32_10) ?_
    show Steps p.tables e below (s₁.setTop (mkF m 11 #[.val (.ref a), .val (.int (1 : Int32))] [(.int (1 : Int32)), (.int (1 : Int32))])) _
    refine XS.icmpNo X0.here hx rfl (hb hby d32_11) rfl (teq (rfl : (1 : Int32) = (1 : Int32))).2 ?_
    show Steps p.tables e below (s₁.setTop (mkF m 14 #[.val (.ref a), .val (.int (1 : Int32))] [])) _
    refine XS.aloadN X0.here hx rfl (hb hby d32_14) rfl rfl ?_
    show Steps p.tables e below (s₁.setTop (mkF m 15 #[.val (.ref a), .val (.int (1 : Int32))] [(.ref a)])) _
    refine st1 _ ?_
    show Steps p.tables e below (T1.setTop (mkF m 18 #[.val (.ref a), .val (.int (1 : Int32))] [(.ref y2)])) _
    refine st2 _ ?_
    show Steps p.tables e below (T2.setTop (mkF m 21 #[.val (.ref a), .val (.int (1 : Int32))] [(.ref s_EMPTY), (.ref y2)])) _
    refine Jvm.RoadKit.acmp (g := (mkF m 21 #[.val (.ref a), .val (.int (1 : Int32))] [(.ref s_EMPTY), (.ref y2)])) X2 hx rfl rfl rfl (pc0 := 21) (pc' := 24) (same := false) rfl (hb hby d32_21) rfl (decide_eq_false fun q => (Exa.ne E_y2 E_EMPTY (by decide)) (Value.ref.inj q)) (by decide) (by decide) ?_
    show Steps p.tables e below (T2.setTop (mkF m 24 #[.val (.ref a), .val (.int (1 : Int32))] [])) _
    refine XS.aloadN X2.here hx rfl (hb hby d32_24) rfl rfl ?_
    show Steps p.tables e below (T2.setTop (mkF m 25 #[.val (.ref a), .val (.int (1 : Int32))] [(.ref a)])) _
    refine st3 _ ?_
    show Steps p.tables e below (T3.setTop (mkF m 28 #[.val (.ref a), .val (.int (1 : Int32))] [(.ref y2)])) _
    exact k
  obtain ⟨fs, hr, hrun, hended, hW, hsame⟩ := X3.leave (v := some (.ref y2)) (fun h => by rw [Bd.returns] at h; cases h)
  refine ⟨_, _, w4 _ ?_, hrun, hended, _, _, rfl, ?_, ⟨_, rfl⟩, hW, hsame.mono (by decide) (by decide)⟩
  · jvm_step X3.here [X3.here.top, hx, (hb hby d32_28), X3.method', Bd.returns, Value.isRef, FieldType.isReference]
    first | (intro acts; rw [hr _ acts rfl rfl rfl]) | rw [hr _ _ rfl rfl rfl]
    exact Steps.refl _
  · show Q32_1 Z a y1 y2 s_EMPTY h0 n0 _ T3.heap _
    rw [e3]
    exact ⟨rfl, N0, rfl⟩
theorem ef_31_1 (m : MethodId) (x0 : Addr) : entryFrame m #[(.ref x0)] 3 = mkF m 0 #[.val (.ref x0), .unset, .unset] [] := by first | (simp [entryFrame, mkF, argsToLocals, Value.category]; done) | rfl
def Q31_1 (Z : State) (a : Addr) (l1 : Addr) (y1 : Addr) (y2 : Addr) (s_EMPTY : Addr) (h0 : Heap) (n0 : Nat) (v : Option Value) (h : Heap) (L : List Loc) : Prop := v = some (.ref y2) ∧ Fr n0 L ∧ Keep h0 h [a] ∧ Fld Z h a "java/util/ImmutableCollections$ListItr" "list" "Ljava/util/List;" (.ref l1) ∧ Fld Z h a "java/util/ImmutableCollections$ListItr" "size" "I" (.int (2 : Int32)) ∧ Fld Z h a "java/util/ImmutableCollections$ListItr" "cursor" "I" (.int (2 : Int32)) ∧ Fld Z h a "java/util/ImmutableCollections$ListItr" "isListIterator" "Z" (.int (0 : Int32))
set_option maxRecDepth 65536 in
set_option maxHeartbeats 40000000 in
theorem rm31_1 (l : Launch) (Z : State) (a0 : Array Value) (hw : ∀ d ∈ tables_1, d.before a0 Z = true) (ws : List Jvm.Cond) (a : Addr) (l1 : Addr) (y1 : Addr) (y2 : Addr) (s_EMPTY : Addr) (h0 : Heap) (n0 : Nat) (O0 : Old Z n0 h0) (S_s_EMPTY : Sta Z Z.heap "java/util/ImmutableCollections" "EMPTY" "Ljava/lang/Object;" (.ref s_EMPTY)) (E_a : Exa Z h0 a "java/util/ImmutableCollections$ListItr") (F_list_a : Fld Z h0 a "java/util/ImmutableCollections$ListItr" "list" "Ljava/util/List;" (.ref l1)) (F_size_a : Fld Z h0 a "java/util/ImmutableCollections$ListItr" "size" "I" (.int (2 : Int32))) (F_cursor_a : Fld Z h0 a "java/util/ImmutableCollections$ListItr" "cursor" "I" (.int (1 : Int32))) (F_isListIterator_a : Fld Z h0 a "java/util/ImmutableCollections$ListItr" "isListIterator" "Z" (.int (0 : Int32))) (E_l1 : Exa Z h0 l1 "java/util/ImmutableCollections$List12") (F_e0_l1 : Fld Z h0 l1 "java/util/ImmutableCollections$List12" "e0" "Ljava/lang/Object;" (.ref y1)) (F_e1_l1 : Fld Z h0 l1 "java/util/ImmutableCollections$List12" "e1" "Ljava/lang/Object;" (.ref y2)) (E_y2 : Exa Z h0 y2 "java/lang/Integer") (E_EMPTY : Exa Z h0 s_EMPTY "java/lang/Object") (g_a : n0 ≤ a) :
    MetFree l (⟨"java/util/ImmutableCollections$ListItr", "next", "()Ljava/lang/Object;"⟩ : MethodName) (head1 (Jvm.Cond.codeWith (⟨"java/util/ImmutableCollections$ListItr", "next", "()Ljava/lang/Object;"⟩ : MethodName) jdk_53_method_4_code 3 (some (.object "java/lang/Object")) [((0 : Nat), (24 : Nat), (25 : Nat), (30 : Nat))] :: ws) ({ frames := 1, cells := 0, slots := 0, locals := 13 } : Room)) (fun aA uU => aA = #[(.ref a)] ∧ Z.Warmed39 uU.vm ∧ uU.heap = h0) (fun _ _ _ _ _ => True) (fun _ uU oO uU' => ∃ vV lL, oO = .returned vV ∧ Q31_1 Z a l1 y1 y2 s_EMPTY h0 n0 vV uU'.heap lL ∧ FrameEnd uU oO uU' lL ({ frames := 1, cells := 0, slots := 0, locals := 13 } : Room).cells ({ frames := 1, cells := 0, slots := 0, locals := 13 } : Room).slots) := by
  refine MetFree.of_bodySF (plainFor_of_name pn_java_util_ImmutableCollections_ListItr) hisWith ?_
  intro p e s m args below meth c s₁ Bd hml0 hP hK
  obtain ⟨rfl, hZ, hh⟩ := hP
  have hx := Bd.exec
  have hby := Bd.bytes
  have hml : c.maxLocals = 3 := hml0
  have hown : s.vm.findClass "java/util/ImmutableCollections$ListItr" = some m.cls := findClass_of_methodNamed Bd.named
  have hnm := (name_of_methodNamed Bd.named Bd.method).1
  have X0 : Stand p l e ({ frames := 1, cells := 0, slots := 0, locals := 13 } : Room) s m #[(.ref a)] below meth c s₁ [] 0 0 := Stand.of_body Bd
  have e0 : s₁.heap = h0 := by rw [← hh, Bd.state]; rfl
  have N0 := Fr.nil n0
  have O := O0
  have K := Keep.refl h0 [a]
  have pre0 : ∀ t, Steps p.tables e below (s₁.setTop (mkF m 0 #[.val (.ref a), .unset, .unset] [])) t → Steps p.tables e below (s₁.setTop (entryFrame m #[(.ref a)] 3)) t := fun t k => castTop (ef_31_1 m a) k
  obtain ⟨T1, X1, e1, st1⟩ := getF X0 hx hZ hown (host := "") (Or.inl (hw _ (List.mem_of_getElem? (i := 207) rfl))) Via.refl e0 F_cursor_a (g := (mkF m 1 #[.val (.ref a), .unset, .unset] [(.ref a)])) rfl rfl (hb hby d31_1)
  obtain ⟨T2, X2, e2, st2⟩ := getF X1 hx hZ hown (host := "") (Or.inl (hw _ (List.mem_of_getElem? (i := 203) rfl))) Via.refl e1 F_list_a (g := (mkF m 6 #[.val (.ref a), .val (.int (1 : Int32)), .unset] [(.ref a)])) rfl rfl (hb hby d31_6)
  obtain ⟨cq3, kq3, q3a, q3b, q3c⟩ := isOf hZ e2 E_l1
  obtain ⟨_, _, ⟨T3, L3, k3, n3⟩, -, X3, ⟨Lc3, hQ3, l3, y3, z3⟩, st3⟩ := X2.interfaceBack hx (xi := (⟨"java/util/List", "get", "(I)Ljava/lang/Object;"⟩ : MethodName)) (y := (⟨"java/util/ImmutableCollections$List12", "get", "(I)Ljava/lang/Object;"⟩ : MethodName)) hown (mvT hZ (hw _ (List.mem_of_getElem? (i := 228) rfl))) (mvT hZ (hw _ (List.mem_of_getElem? (i := 94) rfl))) (mvT hZ (hw _ (List.mem_of_getElem? (i := 95) rfl))) (mvT hZ (hw _ (List.mem_of_getElem? (i := 229) rfl))) (mvT hZ (hw _ (List.mem_of_getElem? (i := 230) rfl))) (mvT hZ (hw _ (List.mem_of_getElem? (i := 231) rfl))) (mvT hZ (hw _ (List.mem_of_getElem? (i := 232) rfl))) (mvT hZ (hw _ (List.mem_of_getElem? (i := 166) rfl))) (by decide) (backOf (W := 0) (rm32_1 l Z a0 hw [] l1 y1 y2 s_EMPTY h0 n0 O S_s_EMPTY F_e0_l1 F_e1_l1 E_y2 E_EMPTY) hZ (hw _ (List.mem_of_getElem? (i := 233) rfl)) (hw _ (List.mem_of_getElem? (i := 131) rfl)) (by decide) (by decide)) q3a q3b q3c (g := (mkF m 10 #[.val (.ref a), .val (.int (1 : Int32)), .unset] [(.int (1 : Int32)), (.ref l1)])) rfl (by rw [hml]; rfl) (Steps.refl _) (argsL := [(.int (1 : Int32))]) (rest := []) (lenOf pd__40I_41Ljava_47lang_47Object_59 rfl) rfl (by show 2 * 0 + _ ≤ _; exact Nat.le_of_eq rfl) (hb hby d31_10) (fun _ _ => ⟨rfl, e2, (by decide : 0 + 0 ≤ _), (by decide : 0 + 0 ≤ _)⟩)
  dsimp only [Pt.U, Pt.locs, Pt.cells, Pt.slots] at X3 l3 y3 z3 st3 hQ3
  subst l3 y3 z3
  obtain ⟨rfl, N3q, eh3⟩ := hQ3
  have N3 := Fr.app N0 N3q
  have ne_l1_a : l1 ≠ a := (Exa.ne E_l1 E_a (by decide))
  obtain ⟨T4, h4, X4, e4, W4, st4⟩ := putF X3 hx hZ hown (host := "") (Or.inl (hw _ (List.mem_of_getElem? (i := 207) rfl))) Via.refl eh3 F_cursor_a E_a (Or.inl (hw _ (List.mem_of_getElem? (i := 208) rfl))) (hw _ (List.mem_of_getElem? (i := 188) rfl)) (ty := .int) (by decide) rfl rfl (g := (mkF m 20 #[.val (.ref a), .val (.int (1 : Int32)), .val (.ref y2)] [(.int (2 : Int32)), (.ref a)])) rfl rfl (hb hby d31_20)
  have F_cursor_a := F_cursor_a.same W4
  have E_a := E_a.wr W4
  have F_list_a := F_list_a.other W4 (Or.inr (slot_ne (Or.inr (hw _ (List.mem_of_getElem? (i := 204) rfl))) (Or.inl (hw _ (List.mem_of_getElem? (i := 208) rfl))) (by decide) (t := (.object "java/util/List")) (t' := .int) (by decide) (by decide)))
  have F_size_a := F_size_a.other W4 (Or.inr (slot_ne (Or.inr (hw _ (List.mem_of_getElem? (i := 206) rfl))) (Or.inl (hw _ (List.mem_of_getElem? (i := 208) rfl))) (by decide) (t := .int) (t' := .int) (by decide) (by decide)))
  have F_isListIterator_a := F_isListIterator_a.other W4 (Or.inr (slot_ne (Or.inr (hw _ (List.mem_of_getElem? (i := 210) rfl))) (Or.inl (hw _ (List.mem_of_getElem? (i := 208) rfl))) (by decide) (t := .boolean) (t' := .int) (by decide) (by decide)))
  have E_l1 := E_l1.wr W4
  have F_e0_l1 := F_e0_l1.other W4 (Or.inl ne_l1_a)
  have F_e1_l1 := F_e1_l1.other W4 (Or.inl ne_l1_a)
  have E_y2 := E_y2.wr W4
  have E_EMPTY := E_EMPTY.wr W4
  have O := O.wr W4 g_a
  have K := K.wr W4 (Or.inl (List.mem_of_getElem? (i := 0) rfl))
  have N4 := Fr.snoc X4 N3 g_a
  have w5 : ∀ t, Steps p.tables e below (T4.setTop (mkF m 24 #[.val (.ref a), .val (.int (1 : Int32)), .val (.ref y2)] [(.ref y2)])) t → Steps p.tables e below (s₁.setTop (entryFrame m #[(.ref a)] 3)) t := fun t k => by
    refine pre0 t ?_
    refine XS.aloadN X0.here hx rfl (hb hby d31_0) rfl rfl ?_
    show Steps p.tables e below (s₁.setTop (mkF m 1 #[.val (.ref a), .unset, .unset] [(.ref a)])) _
    refine st1 _ ?_
    show Steps p.tables e below (T1.setTop (mkF m 4 #[.val (.ref a), .unset, .unset] [(.int (1 : Int32))])) _
    refine XS.istoreN X1.here hx rfl (hb hby d31_4) rfl (l' := #[.val (.ref a), .val (.int (1 : Int32)), .unset]) rfl ?_
    show Steps p.tables e below (T1.setTop (mkF m 5 #[.val (.ref a), .val (.int (1 : Int32)), .unset] [])) _
    refine XS.aloadN X1.here hx rfl (hb hby d31_5) rfl rfl ?_
    show Steps p.tables e below (T1.setTop (mkF m 6 #[.val (.ref a), .val (.int (1 : Int32)), .unset] [(.ref a)])) _
    refine st2 _ ?_
    show Steps p.tables e below (T2.setTop (mkF m 9 #[.val (.ref a), .val (.int (1 : Int32)), .unset] [(.ref l1)])) _
    refine XS.iloadN X2.here hx rfl (hb hby d31_9) rfl ?_
    show Steps p.tables e below (T2.setTop (mkF m 10 #[.val (.ref a), .val (.int (1 : Int32)), .unset] [(.int (1 : Int32)), (.ref l1)])) _
    refine st3.trans ?_
    show Steps p.tables e below (T3.setTop (mkF m 15 #[.val (.ref a), .val (.int (1 : Int32)), .unset] [(.ref y2)])) _
    refine XS.astoreN X3.here hx rfl (hb hby d31_15) rfl rfl (l' := #[.val (.ref a), .val (.int (1 : Int32)), .val (.ref y2)]) rfl ?_
    show Steps p.tables e below (T3.setTop (mkF m 16 #[.val (.ref a), .val (.int (1 : Int32)), .val (.ref y2)] [])) _
    refine XS.aloadN X3.here hx rfl (hb hby d31_16) rfl rfl ?_
    show Steps p.tables e below (T3.setTop (mkF m 17 #[.val (.ref a), .val (.int (1 : Int32)), .val (.ref y2)] [(.ref a)])) _
    refine XS.iloadN X3.here hx rfl (hb hby d31_17) rfl ?_
    show Steps p.tables e below (T3.setTop (mkF m 18 #[.val (.ref a), .val (.int (1 : Int32)), .val (.ref y2)] [(.int (1 : Int32)), (.ref a)])) _
    refine XS.iconst X3.here hx rfl (hb hby d31_18) ?_
    show Steps p.tables e below (T3.setTop (mkF m 19 #[.val (.ref a), .val (.int (1 : Int32)), .val (.ref y2)] [(.int (1 : Int32)), (.int (1 : Int32)), (.ref a)])) _
    refine XS.iadd X3.here hx rfl (hb hby d31_19) rfl ?_
    show Steps p.tables e below (T3.setTop (mkF m 20 #[.val (.ref a), .val (.int (1 : Int32)), .val (.ref y2)] [(.int (2 : Int32)), (.ref a)])) _
    refine st4 _ ?_
    show Steps p.tables e below (T4.setTop (mkF m 23 #[.val (.ref a), .val (.int (1 : Int32)), .val (.ref y2)] [])) _
    refine XS.aloadN X4.here hx rfl (hb hby d31_23) rfl rfl ?_
    show Steps p.tables e below (T4.setTop (mkF m 24 #[.val (.ref a), .val (.int (1 : Int32)), .val (.ref y2)] [(.ref y2)])) _
    exact k
  obtain ⟨fs, hr, hrun, hended, hW, hsame⟩ := X4.leave (v := some (.ref y2)) (fun h => by rw [Bd.returns] at h; cases h)
  refine ⟨_, _, w5 _ ?_, hrun, hended, _, _, rfl, ?_, ⟨_, rfl⟩, hW, hsame.mono (by decide) (by decide)⟩
  · jvm_step X4.here [X4.here.top, hx, (hb hby d31_24), X4.method', Bd.returns, Value.isRef, FieldType.isReference]
    first | (intro acts; rw [hr _ acts rfl rfl rfl]) | rw [hr _ _ rfl rfl rfl]
    exact Steps.refl _
  · show Q31_1 Z a l1 y1 y2 s_EMPTY h0 n0 _ T4.heap _
    rw [e4]
    exact ⟨rfl, N4, K, F_list_a, F_size_a, F_cursor_a, F_isListIterator_a⟩
theorem own_q1 {i j : Int32} (h : ¬ own_q i j = 0) : own_q i j = 1 := by
  unfold own_q at *
  split
  · rfl
  · rename_i q; rw [if_neg q] at h; exact absurd rfl h
theorem d34_0 : decode jdk_33_method_34_code 0 = .ok (.aload_n 1, 1) := by decide +kernel
theorem d34_1 : decode jdk_33_method_34_code 1 = .ok (.instanceof 1, 3) := by decide +kernel
theorem d34_4 : decode jdk_33_method_34_code 4 = .ok (.ifCond .eq 23, 3) := by decide +kernel
theorem d34_7 : decode jdk_33_method_34_code 7 = .ok (.aload_n 0, 1) := by decide +kernel
theorem d34_8 : decode jdk_33_method_34_code 8 = .ok (.getfield 205, 3) := by decide +kernel
theorem d34_11 : decode jdk_33_method_34_code 11 = .ok (.aload_n 1, 1) := by decide +kernel
theorem d34_12 : decode jdk_33_method_34_code 12 = .ok (.checkcast 1, 3) := by decide +kernel
theorem d34_15 : decode jdk_33_method_34_code 15 = .ok (.invokevirtual 211, 3) := by decide +kernel
theorem d34_18 : decode jdk_33_method_34_code 18 = .ok (.if_icmp .ne 7, 3) := by decide +kernel
theorem d34_21 : decode jdk_33_method_34_code 21 = .ok (.iconst 1, 1) := by decide +kernel
theorem d34_22 : decode jdk_33_method_34_code 22 = .ok (.goto 4, 3) := by decide +kernel
theorem d34_26 : decode jdk_33_method_34_code 26 = .ok (.ireturn, 1) := by decide +kernel
theorem d34_25 : decode jdk_33_method_34_code 25 = .ok (.iconst 0, 1) := by decide +kernel
theorem ef_34 (m : MethodId) (x0 : Addr) (x1 : Addr) : entryFrame m #[(.ref x0), (.ref x1)] 2 = mkF m 0 #[.val (.ref x0), .val (.ref x1)] [] := by first | (simp [entryFrame, mkF, argsToLocals, Value.category]; done) | rfl
def Q34 (Z : State) (x1 : Addr) (y1 : Addr) (i : Int32) (j : Int32) (h0 : Heap) (n0 : Nat) (v : Option Value) (h : Heap) (L : List Loc) : Prop := v = some (.int (own_q i j)) ∧ Fr n0 L ∧ h = h0
set_option maxRecDepth 65536 in
set_option maxHeartbeats 40000000 in
theorem rm34 (l : Launch) (Z : State) (a0 : Array Value) (hw : ∀ d ∈ tables_1, d.before a0 Z = true) (ws : List Jvm.Cond) (x1 : Addr) (y1 : Addr) (i : Int32) (j : Int32) (h0 : Heap) (n0 : Nat) (O0 : Old Z n0 h0) (E_x1 : Exa Z h0 x1 "java/lang/Integer") (F_v_x1 : Fld Z h0 x1 "java/lang/Integer" "value" "I" (.int i)) (E_y1 : Exa Z h0 y1 "java/lang/Integer") (F_v_y1 : Fld Z h0 y1 "java/lang/Integer" "value" "I" (.int j)) :
    MetFree l (⟨"java/lang/Integer", "equals", "(Ljava/lang/Object;)Z"⟩ : MethodName) (head1 (Jvm.Cond.code (⟨"java/lang/Integer", "equals", "(Ljava/lang/Object;)Z"⟩ : MethodName) jdk_33_method_34_code 2 (some .boolean) :: ws) ({ frames := 1, cells := 0, slots := 0, locals := 13 } : Room)) (fun aA uU => aA = #[(.ref x1), (.ref y1)] ∧ Z.Warmed39 uU.vm ∧ uU.heap = h0) (fun _ _ _ _ _ => True) (fun _ uU oO uU' => ∃ vV lL, oO = .returned vV ∧ Q34 Z x1 y1 i j  h0 n0 vV uU'.heap lL ∧ FrameEnd uU oO uU' lL ({ frames := 1, cells := 0, slots := 0, locals := 13 } : Room).cells ({ frames := 1, cells := 0, slots := 0, locals := 13 } : Room).slots) := by
  refine MetFree.of_bodySF (plainFor_of_name pn_java_lang_Integer) hisR ?_
  intro p e s m args below meth c s₁ Bd hml0 hP hK
  obtain ⟨rfl, hZ, hh⟩ := hP
  have hx := Bd.exec
  have hby := Bd.bytes
  have hml : c.maxLocals = 2 := hml0
  have hown : s.vm.findClass "java/lang/Integer" = some m.cls := findClass_of_methodNamed Bd.named
  have hnm := (name_of_methodNamed Bd.named Bd.method).1
  have X0 : Stand p l e ({ frames := 1, cells := 0, slots := 0, locals := 13 } : Room) s m #[(.ref x1), (.ref y1)] below meth c s₁ [] 0 0 := Stand.of_body Bd
  have e0 : s₁.heap = h0 := by rw [← hh, Bd.state]; rfl
  have N0 := Fr.nil n0
  have O := O0
  have pre0 : ∀ t, Steps p.tables e below (s₁.setTop (mkF m 0 #[.val (.ref x1), .val (.ref y1)] [])) t → Steps p.tables e below (s₁.setTop (entryFrame m #[(.ref x1), (.ref y1)] 2)) t := fun t k => castTop (ef_34 m x1 y1) k
  obtain ⟨T1, X1, e1, st1⟩ := instY X0 hx hZ hown (hw _ (List.mem_of_getElem? (i := 243) rfl)) e0 (Ins.self E_y1) (g := (mkF m 1 #[.val (.ref x1), .val (.ref y1)] [(.ref y1)])) rfl rfl (hb hby d34_1)
  obtain ⟨T2, X2, e2, st2⟩ := getF X1 hx hZ hown (host := "") (Or.inl (hw _ (List.mem_of_getElem? (i := 122) rfl))) Via.refl e1 F_v_x1 (g := (mkF m 8 #[.val (.ref x1), .val (.ref y1)] [(.ref x1)])) rfl rfl (hb hby d34_8)
  obtain ⟨T3, X3, e3, st3⟩ := castY X2 hx hZ hown (hw _ (List.mem_of_getElem? (i := 243) rfl)) e2 (Ins.self E_y1) (g := (mkF m 12 #[.val (.ref x1), .val (.ref y1)] [(.ref y1), (.int i)])) rfl rfl (hb hby d34_12)
  obtain ⟨cq4, kq4, q4a, q4b, q4c⟩ := isOf hZ e3 E_y1
  obtain ⟨_, _, ⟨T4, L4, k4, n4⟩, -, X4, ⟨Lc4, hQ4, l4, y4, z4⟩, st4⟩ := X3.virtualBack hx (y := (⟨"java/lang/Integer", "intValue", "()I"⟩ : MethodName)) (z := (⟨"java/lang/Integer", "intValue", "()I"⟩ : MethodName)) hown (mvT hZ (hw _ (List.mem_of_getElem? (i := 244) rfl))) (mvT hZ (hw _ (List.mem_of_getElem? (i := 118) rfl))) (notFace_of_selects (args := #[]) (mvT hZ (hw _ (List.mem_of_getElem? (i := 120) rfl)))) (mvT hZ (hw _ (List.mem_of_getElem? (i := 120) rfl))) (mvT hZ (hw _ (List.mem_of_getElem? (i := 119) rfl))) (by decide) (backOf (W := 1) (rm19 l Z a0 hw [] y1 j h0 n0 O F_v_y1) hZ (hw _ (List.mem_of_getElem? (i := 121) rfl)) (hw _ (List.mem_of_getElem? (i := 32) rfl)) (by decide) (by decide)) q4a q4c (g := (mkF m 15 #[.val (.ref x1), .val (.ref y1)] [(.ref y1), (.int i)])) rfl (by rw [hml]; rfl) (Steps.refl _) (argsL := []) (rest := [(.int i)]) (lenOf pd__40_41I rfl) rfl (by show 2 * 0 + _ ≤ _; exact Nat.le_of_eq rfl) (hb hby d34_15) (fun _ _ => ⟨rfl, e3, (by decide : 0 + 0 ≤ _), (by decide : 0 + 0 ≤ _)⟩)
  dsimp only [Pt.U, Pt.locs, Pt.cells, Pt.slots] at X4 l4 y4 z4 st4 hQ4
  subst l4 y4 z4
  obtain ⟨rfl, N4q, eh4⟩ := hQ4
  have N4 := Fr.app N0 N4q
  have w5 : ∀ t, Steps p.tables e below (T4.setTop (mkF m 18 #[.val (.ref x1), .val (.ref y1)] [(.int j), (.int i)])) t → Steps p.tables e below (s₁.setTop (entryFrame m #[(.ref x1), (.ref y1)] 2)) t := fun t k => by
    refine pre0 t ?_
    refine XS.aloadN X0.here hx rfl (hb hby d34_0) rfl rfl ?_
    show Steps p.tables e below (s₁.setTop (mkF m 1 #[.val (.ref x1), .val (.ref y1)] [(.ref y1)])) _
    refine st1 _ ?_
    show Steps p.tables e below (T1.setTop (mkF m 4 #[.val (.ref x1), .val (.ref y1)] [(.int (1 : Int32))])) _
    refine XS.ifNo X1.here hx rfl (hb hby d34_4) rfl ((if0 _ _).trans (feq ((by decide) : ¬ ((1 : Int32) = (0 : Int32)))).1) ?_
    show Steps p.tables e below (T1.setTop (mkF m 7 #[.val (.ref x1), .val (.ref y1)] [])) _
    refine XS.aloadN X1.here hx rfl (hb hby d34_7) rfl rfl ?_
    show Steps p.tables e below (T1.setTop (mkF m 8 #[.val (.ref x1), .val (.ref y1)] [(.ref x1)])) _
    refine st2 _ ?_
    show Steps p.tables e below (T2.setTop (mkF m 11 #[.val (.ref x1), .val (.ref y1)] [(.int i)])) _
    refine XS.aloadN X2.here hx rfl (hb hby d34_11) rfl rfl ?_
    show Steps p.tables e below (T2.setTop (mkF m 12 #[.val (.ref x1), .val (.ref y1)] [(.ref y1), (.int i)])) _
    refine st3 _ ?_
    show Steps p.tables e below (T3.setTop (mkF m 15 #[.val (.ref x1), .val (.ref y1)] [(.ref y1), (.int i)])) _
    refine st4.trans ?_
    show Steps p.tables e below (T4.setTop (mkF m 18 #[.val (.ref x1), .val (.ref y1)] [(.int j), (.int i)])) _
    exact k
  by_cases hc18_6 : i = j
  · have w7 : ∀ t, Steps p.tables e below (T4.setTop (mkF m 26 #[.val (.ref x1), .val (.ref y1)] [(.int (1 : Int32))])) t → Steps p.tables e below (s₁.setTop (entryFrame m #[(.ref x1), (.ref y1)] 2)) t := fun t k => by
      refine w5 t ?_
      refine XS.icmpNo X4.here hx rfl (hb hby d34_18) rfl (teq hc18_6).2 ?_
      show Steps p.tables e below (T4.setTop (mkF m 21 #[.val (.ref x1), .val (.ref y1)] [])) _
      refine XS.iconst X4.here hx rfl (hb hby d34_21) ?_
      show Steps p.tables e below (T4.setTop (mkF m 22 #[.val (.ref x1), .val (.ref y1)] [(.int (1 : Int32))])) _
      refine XS.goto X4.here hx rfl (pc0 := 22) (pc' := 26) rfl (hb hby d34_22) (by decide) (by decide) ?_
      show Steps p.tables e below (T4.setTop (mkF m 26 #[.val (.ref x1), .val (.ref y1)] [(.int (1 : Int32))])) _
      exact k
    obtain ⟨fs, hr, hrun, hended, hW, hsame⟩ := X4.leave (v := some (.int (1 : Int32))) (fun h => by rw [Bd.returns] at h; cases h)
    refine ⟨_, _, w7 _ ?_, hrun, hended, _, _, rfl, ?_, ⟨_, rfl⟩, hW, hsame.mono (by decide) (by decide)⟩
    · exact retN X4 hx (t := .boolean) Bd.returns (by simp) (hb hby d34_26) hr
    · show Q34 Z x1 y1 i j  h0 n0 _ T4.heap _
      rw [eh4]
      exact ⟨(by simp [own_q, hc18_6]), N4, rfl⟩
  · have w8 : ∀ t, Steps p.tables e below (T4.setTop (mkF m 26 #[.val (.ref x1), .val (.ref y1)] [(.int (0 : Int32))])) t → Steps p.tables e below (s₁.setTop (entryFrame m #[(.ref x1), (.ref y1)] 2)) t := fun t k => by
      refine w5 t ?_
      refine XS.icmpYes X4.here hx rfl (pc0 := 18) (pc' := 25) rfl (hb hby d34_18) rfl (feq hc18_6).2 (by decide) (by decide) ?_
      show Steps p.tables e below (T4.setTop (mkF m 25 #[.val (.ref x1), .val (.ref y1)] [])) _
      refine XS.iconst X4.here hx rfl (hb hby d34_25) ?_
      show Steps p.tables e below (T4.setTop (mkF m 26 #[.val (.ref x1), .val (.ref y1)] [(.int (0 : Int32))])) _
      exact k
    obtain ⟨fs, hr, hrun, hended, hW, hsame⟩ := X4.leave (v := some (.int (0 : Int32))) (fun h => by rw [Bd.returns] at h; cases h)
    refine ⟨_, _, w8 _ ?_, hrun, hended, _, _, rfl, ?_, ⟨_, rfl⟩, hW, hsame.mono (by decide) (by decide)⟩
    · exact retN X4 hx (t := .boolean) Bd.returns (by simp) (hb hby d34_26) hr
    · show Q34 Z x1 y1 i j  h0 n0 _ T4.heap _
      rw [eh4]
      exact ⟨(by simp [own_q, hc18_6]), N4, rfl⟩
theorem d33_0 : decode jdk_31_method_2_code 0 = .ok (.aload_n 0, 1) := by decide +kernel
theorem d33_1 : decode jdk_31_method_2_code 1 = .ok (.aload_n 1, 1) := by decide +kernel
theorem d33_2 : decode jdk_31_method_2_code 2 = .ok (.if_acmp .eq 15, 3) := by decide +kernel
theorem d33_17 : decode jdk_31_method_2_code 17 = .ok (.iconst 1, 1) := by decide +kernel
theorem d33_18 : decode jdk_31_method_2_code 18 = .ok (.goto 4, 3) := by decide +kernel
theorem d33_22 : decode jdk_31_method_2_code 22 = .ok (.ireturn, 1) := by decide +kernel
theorem d33_5 : decode jdk_31_method_2_code 5 = .ok (.aload_n 0, 1) := by decide +kernel
theorem d33_6 : decode jdk_31_method_2_code 6 = .ok (.ifnull 15, 3) := by decide +kernel
theorem d33_9 : decode jdk_31_method_2_code 9 = .ok (.aload_n 0, 1) := by decide +kernel
theorem d33_10 : decode jdk_31_method_2_code 10 = .ok (.aload_n 1, 1) := by decide +kernel
theorem d33_11 : decode jdk_31_method_2_code 11 = .ok (.invokevirtual 14, 3) := by decide +kernel
theorem pd__40Ljava_47lang_47Object_59_41Z : parseMethodDescriptor "(Ljava/lang/Object;)Z" = some ⟨[(.object "java/lang/Object")], some .boolean⟩ := by decide +kernel
theorem d33_14 : decode jdk_31_method_2_code 14 = .ok (.ifCond .eq 7, 3) := by decide +kernel
theorem d33_21 : decode jdk_31_method_2_code 21 = .ok (.iconst 0, 1) := by decide +kernel
theorem ef_33 (m : MethodId) (x0 : Addr) (x1 : Addr) : entryFrame m #[(.ref x0), (.ref x1)] 2 = mkF m 0 #[.val (.ref x0), .val (.ref x1)] [] := by first | (simp [entryFrame, mkF, argsToLocals, Value.category]; done) | rfl
def Q33 (Z : State) (x1 : Addr) (y1 : Addr) (i : Int32) (j : Int32) (h0 : Heap) (n0 : Nat) (v : Option Value) (h : Heap) (L : List Loc) : Prop := v = some (.int (own_q i j)) ∧ Fr n0 L ∧ h = h0
set_option maxRecDepth 65536 in
set_option maxHeartbeats 40000000 in
theorem rm33 (l : Launch) (Z : State) (a0 : Array Value) (hw : ∀ d ∈ tables_1, d.before a0 Z = true) (ws : List Jvm.Cond) (x1 : Addr) (y1 : Addr) (i : Int32) (j : Int32) (h0 : Heap) (n0 : Nat) (O0 : Old Z n0 h0) (E_x1 : Exa Z h0 x1 "java/lang/Integer") (F_v_x1 : Fld Z h0 x1 "java/lang/Integer" "value" "I" (.int i)) (E_y1 : Exa Z h0 y1 "java/lang/Integer") (F_v_y1 : Fld Z h0 y1 "java/lang/Integer" "value" "I" (.int j)) :
    MetFree l (⟨"java/util/Objects", "equals", "(Ljava/lang/Object;Ljava/lang/Object;)Z"⟩ : MethodName) (head1 (Jvm.Cond.code (⟨"java/util/Objects", "equals", "(Ljava/lang/Object;Ljava/lang/Object;)Z"⟩ : MethodName) jdk_31_method_2_code 2 (some .boolean) :: ws) ({ frames := 2, cells := 0, slots := 0, locals := 26 } : Room)) (fun aA uU => aA = #[(.ref x1), (.ref y1)] ∧ Z.Warmed39 uU.vm ∧ uU.heap = h0) (fun _ _ _ _ _ => True) (fun _ uU oO uU' => ∃ vV lL, oO = .returned vV ∧ Q33 Z x1 y1 i j  h0 n0 vV uU'.heap lL ∧ FrameEnd uU oO uU' lL ({ frames := 2, cells := 0, slots := 0, locals := 26 } : Room).cells ({ frames := 2, cells := 0, slots := 0, locals := 26 } : Room).slots) := by
  refine MetFree.of_bodySF (plainFor_of_name pn_java_util_Objects) hisR ?_
  intro p e s m args below meth c s₁ Bd hml0 hP hK
  obtain ⟨rfl, hZ, hh⟩ := hP
  have hx := Bd.exec
  have hby := Bd.bytes
  have hml : c.maxLocals = 2 := hml0
  have hown : s.vm.findClass "java/util/Objects" = some m.cls := findClass_of_methodNamed Bd.named
  have hnm := (name_of_methodNamed Bd.named Bd.method).1
  have X0 : Stand p l e ({ frames := 2, cells := 0, slots := 0, locals := 26 } : Room) s m #[(.ref x1), (.ref y1)] below meth c s₁ [] 0 0 := Stand.of_body Bd
  have e0 : s₁.heap = h0 := by rw [← hh, Bd.state]; rfl
  have N0 := Fr.nil n0
  have O := O0
  have pre0 : ∀ t, Steps p.tables e below (s₁.setTop (mkF m 0 #[.val (.ref x1), .val (.ref y1)] [])) t → Steps p.tables e below (s₁.setTop (entryFrame m #[(.ref x1), (.ref y1)] 2)) t := fun t k => castTop (ef_33 m x1 y1) k
  have w1 : ∀ t, Steps p.tables e below (s₁.setTop (mkF m 2 #[.val (.ref x1), .val (.ref y1)] [(.ref y1), (.ref x1)])) t → Steps p.tables e below (s₁.setTop (entryFrame m #[(.ref x1), (.ref y1)] 2)) t := fun t k => by
    refine pre0 t ?_
    refine XS.aloadN X0.here hx rfl (hb hby d33_0) rfl rfl ?_
    show Steps p.tables e below (s₁.setTop (mkF m 1 #[.val (.ref x1), .val (.ref y1)] [(.ref x1)])) _
    refine XS.aloadN X0.here hx rfl (hb hby d33_1) rfl rfl ?_
    show Steps p.tables e below (s₁.setTop (mkF m 2 #[.val (.ref x1), .val (.ref y1)] [(.ref y1), (.ref x1)])) _
    exact k
  by_cases ha2_2 : x1 = y1
  · have w3 : ∀ t, Steps p.tables e below (s₁.setTop (mkF m 22 #[.val (.ref x1), .val (.ref y1)] [(.int (1 : Int32))])) t → Steps p.tables e below (s₁.setTop (entryFrame m #[(.ref x1), (.ref y1)] 2)) t := fun t k => by
      refine w1 t ?_
      refine Jvm.RoadKit.acmp (g := (mkF m 2 #[.val (.ref x1), .val (.ref y1)] [(.ref y1), (.ref x1)])) X0 hx rfl rfl rfl (pc0 := 2) (pc' := 17) (same := true) rfl (hb hby d33_2) rfl (decide_eq_true (congrArg Value.ref ha2_2)) (by decide) (by decide) ?_
      show Steps p.tables e below (s₁.setTop (mkF m 17 #[.val (.ref x1), .val (.ref y1)] [])) _
      refine XS.iconst X0.here hx rfl (hb hby d33_17) ?_
      show Steps p.tables e below (s₁.setTop (mkF m 18 #[.val (.ref x1), .val (.ref y1)] [(.int (1 : Int32))])) _
      refine XS.goto X0.here hx rfl (pc0 := 18) (pc' := 22) rfl (hb hby d33_18) (by decide) (by decide) ?_
      show Steps p.tables e below (s₁.setTop (mkF m 22 #[.val (.ref x1), .val (.ref y1)] [(.int (1 : Int32))])) _
      exact k
    obtain ⟨fs, hr, hrun, hended, hW, hsame⟩ := X0.leave (v := some (.int (1 : Int32))) (fun h => by rw [Bd.returns] at h; cases h)
    refine ⟨_, _, w3 _ ?_, hrun, hended, _, _, rfl, ?_, ⟨_, rfl⟩, hW, hsame.mono (by decide) (by decide)⟩
    · exact retN X0 hx (t := .boolean) Bd.returns (by simp) (hb hby d33_22) hr
    · show Q33 Z x1 y1 i j  h0 n0 _ s₁.heap _
      rw [e0]
      exact ⟨(by rw [show own_q i j = 1 from if_pos (own_fe F_v_x1 F_v_y1 ha2_2)]), N0, rfl⟩
  · obtain ⟨cq4, kq4, q4a, q4b, q4c⟩ := isOf hZ e0 E_x1
    obtain ⟨_, _, ⟨T4, L4, k4, n4⟩, -, X4, ⟨Lc4, hQ4, l4, y4, z4⟩, st4⟩ := X0.virtualBack hx (y := (⟨"java/lang/Object", "equals", "(Ljava/lang/Object;)Z"⟩ : MethodName)) (z := (⟨"java/lang/Integer", "equals", "(Ljava/lang/Object;)Z"⟩ : MethodName)) hown (mvT hZ (hw _ (List.mem_of_getElem? (i := 237) rfl))) (mvT hZ (hw _ (List.mem_of_getElem? (i := 238) rfl))) (own_nf (args := #[]) (mvT hZ (hw _ (List.mem_of_getElem? (i := 170) rfl))) rfl) (mvT hZ (hw _ (List.mem_of_getElem? (i := 240) rfl))) (mvT hZ (hw _ (List.mem_of_getElem? (i := 241) rfl))) (by decide) (backOf (W := 0) (rm34 l Z a0 hw [] x1 y1 i j h0 n0 O E_x1 F_v_x1 E_y1 F_v_y1) hZ (hw _ (List.mem_of_getElem? (i := 242) rfl)) (hw _ (List.mem_of_getElem? (i := 32) rfl)) (by decide) (by decide)) q4a q4c (g := (mkF m 11 #[.val (.ref x1), .val (.ref y1)] [(.ref y1), (.ref x1)])) rfl (by rw [hml]; rfl) (Steps.refl _) (argsL := [(.ref y1)]) (rest := []) (lenOf pd__40Ljava_47lang_47Object_59_41Z rfl) rfl (by show 2 * 0 + _ ≤ _; exact Nat.le_of_eq rfl) (hb hby d33_11) (fun _ _ => ⟨rfl, e0, (by decide : 0 + 0 ≤ _), (by decide : 0 + 0 ≤ _)⟩)
    dsimp only [Pt.U, Pt.locs, Pt.cells, Pt.slots] at X4 l4 y4 z4 st4 hQ4
    subst l4 y4 z4
    obtain ⟨rfl, N4q, eh4⟩ := hQ4
    have N4 := Fr.app N0 N4q
    have w5 : ∀ t, Steps p.tables e below (T4.setTop (mkF m 14 #[.val (.ref x1), .val (.ref y1)] [(.int (own_q i j))])) t → Steps p.tables e below (s₁.setTop (entryFrame m #[(.ref x1), (.ref y1)] 2)) t := fun t k => by
      refine w1 t ?_
      refine Jvm.RoadKit.acmp (g := (mkF m 2 #[.val (.ref x1), .val (.ref y1)] [(.ref y1), (.ref x1)])) X0 hx rfl rfl rfl (pc0 := 2) (pc' := 5) (same := false) rfl (hb hby d33_2) rfl (decide_eq_false fun q => ha2_2 (Value.ref.inj q)) (by decide) (by decide) ?_
      show Steps p.tables e below (s₁.setTop (mkF m 5 #[.val (.ref x1), .val (.ref y1)] [])) _
      refine XS.aloadN X0.here hx rfl (hb hby d33_5) rfl rfl ?_
      show Steps p.tables e below (s₁.setTop (mkF m 6 #[.val (.ref x1), .val (.ref y1)] [(.ref x1)])) _
      refine XS.ifnullNo X0.here hx rfl (hb hby d33_6) rfl ?_
      show Steps p.tables e below (s₁.setTop (mkF m 9 #[.val (.ref x1), .val (.ref y1)] [])) _
      refine XS.aloadN X0.here hx rfl (hb hby d33_9) rfl rfl ?_
      show Steps p.tables e below (s₁.setTop (mkF m 10 #[.val (.ref x1), .val (.ref y1)] [(.ref x1)])) _
      refine XS.aloadN X0.here hx rfl (hb hby d33_10) rfl rfl ?_
      show Steps p.tables e below (s₁.setTop (mkF m 11 #[.val (.ref x1), .val (.ref y1)] [(.ref y1), (.ref x1)])) _
      refine st4.trans ?_
      show Steps p.tables e below (T4.setTop (mkF m 14 #[.val (.ref x1), .val (.ref y1)] [(.int (own_q i j))])) _
      exact k
    by_cases hc14_6 : (own_q i j) = (0 : Int32)
    · have w7 : ∀ t, Steps p.tables e below (T4.setTop (mkF m 22 #[.val (.ref x1), .val (.ref y1)] [(.int (0 : Int32))])) t → Steps p.tables e below (s₁.setTop (entryFrame m #[(.ref x1), (.ref y1)] 2)) t := fun t k => by
        refine w5 t ?_
        refine XS.ifYes X4.here hx rfl (pc0 := 14) (pc' := 21) rfl (hb hby d33_14) rfl ((if0 _ _).trans (teq hc14_6).1) (by decide) (by decide) ?_
        show Steps p.tables e below (T4.setTop (mkF m 21 #[.val (.ref x1), .val (.ref y1)] [])) _
        refine XS.iconst X4.here hx rfl (hb hby d33_21) ?_
        show Steps p.tables e below (T4.setTop (mkF m 22 #[.val (.ref x1), .val (.ref y1)] [(.int (0 : Int32))])) _
        exact k
      obtain ⟨fs, hr, hrun, hended, hW, hsame⟩ := X4.leave (v := some (.int (0 : Int32))) (fun h => by rw [Bd.returns] at h; cases h)
      refine ⟨_, _, w7 _ ?_, hrun, hended, _, _, rfl, ?_, ⟨_, rfl⟩, hW, hsame.mono (by decide) (by decide)⟩
      · exact retN X4 hx (t := .boolean) Bd.returns (by simp) (hb hby d33_22) hr
      · show Q33 Z x1 y1 i j  h0 n0 _ T4.heap _
        rw [eh4]
        exact ⟨(by rw [hc14_6]), N4, rfl⟩
    · have w8 : ∀ t, Steps p.tables e below (T4.setTop (mkF m 22 #[.val (.ref x1), .val (.ref y1)] [(.int (1 : Int32))])) t → Steps p.tables e below (s₁.setTop (entryFrame m #[(.ref x1), (.ref y1)] 2)) t := fun t k => by
        refine w5 t ?_
        refine XS.ifNo X4.here hx rfl (hb hby d33_14) rfl ((if0 _ _).trans (feq hc14_6).1) ?_
        show Steps p.tables e below (T4.setTop (mkF m 17 #[.val (.ref x1), .val (.ref y1)] [])) _
        refine XS.iconst X4.here hx rfl (hb hby d33_17) ?_
        show Steps p.tables e below (T4.setTop (mkF m 18 #[.val (.ref x1), .val (.ref y1)] [(.int (1 : Int32))])) _
        refine XS.goto X4.here hx rfl (pc0 := 18) (pc' := 22) rfl (hb hby d33_18) (by decide) (by decide) ?_
        show Steps p.tables e below (T4.setTop (mkF m 22 #[.val (.ref x1), .val (.ref y1)] [(.int (1 : Int32))])) _
        exact k
      obtain ⟨fs, hr, hrun, hended, hW, hsame⟩ := X4.leave (v := some (.int (1 : Int32))) (fun h => by rw [Bd.returns] at h; cases h)
      refine ⟨_, _, w8 _ ?_, hrun, hended, _, _, rfl, ?_, ⟨_, rfl⟩, hW, hsame.mono (by decide) (by decide)⟩
      · exact retN X4 hx (t := .boolean) Bd.returns (by simp) (hb hby d33_22) hr
      · show Q33 Z x1 y1 i j  h0 n0 _ T4.heap _
        rw [eh4]
        exact ⟨(by rw [own_q1 hc14_6]), N4, rfl⟩
theorem d26_0 : decode jdk_38_method_33_code 0 = .ok (.aload_n 0, 1) := by decide +kernel
theorem d26_1 : decode jdk_38_method_33_code 1 = .ok (.getfield 9, 3) := by decide +kernel
theorem d26_4 : decode jdk_38_method_33_code 4 = .ok (.astore 4, 2) := by decide +kernel
theorem d26_6 : decode jdk_38_method_33_code 6 = .ok (.iload_n 3, 1) := by decide +kernel
theorem d26_7 : decode jdk_38_method_33_code 7 = .ok (.aload 4, 2) := by decide +kernel
theorem d26_9 : decode jdk_38_method_33_code 9 = .ok (.arraylength, 1) := by decide +kernel
theorem d26_10 : decode jdk_38_method_33_code 10 = .ok (.if_icmp .le 11, 3) := by decide +kernel
theorem d26_21 : decode jdk_38_method_33_code 21 = .ok (.aload_n 1, 1) := by decide +kernel
theorem d26_22 : decode jdk_38_method_33_code 22 = .ok (.invokeinterface 164 1, 5) := by decide +kernel
theorem pd__40_41Ljava_47util_47Iterator_59 : parseMethodDescriptor "()Ljava/util/Iterator;" = some ⟨[], some (.object "java/util/Iterator")⟩ := by decide +kernel
theorem d26_27 : decode jdk_38_method_33_code 27 = .ok (.astore 5, 2) := by decide +kernel
theorem d26_29 : decode jdk_38_method_33_code 29 = .ok (.iload_n 2, 1) := by decide +kernel
theorem d26_30 : decode jdk_38_method_33_code 30 = .ok (.iload_n 3, 1) := by decide +kernel
theorem d26_31 : decode jdk_38_method_33_code 31 = .ok (.if_icmp .ge 38, 3) := by decide +kernel
theorem d26_34 : decode jdk_38_method_33_code 34 = .ok (.aload 5, 2) := by decide +kernel
theorem d26_36 : decode jdk_38_method_33_code 36 = .ok (.invokeinterface 168 1, 5) := by decide +kernel
theorem pd__40_41Z : parseMethodDescriptor "()Z" = some ⟨[], some .boolean⟩ := by decide +kernel
theorem d26_41 : decode jdk_38_method_33_code 41 = .ok (.ifCond .eq 20, 3) := by decide +kernel
theorem d26_44 : decode jdk_38_method_33_code 44 = .ok (.aload 4, 2) := by decide +kernel
theorem d26_46 : decode jdk_38_method_33_code 46 = .ok (.iload_n 2, 1) := by decide +kernel
theorem d26_47 : decode jdk_38_method_33_code 47 = .ok (.aaload, 1) := by decide +kernel
theorem d26_48 : decode jdk_38_method_33_code 48 = .ok (.aload 5, 2) := by decide +kernel
theorem d26_50 : decode jdk_38_method_33_code 50 = .ok (.invokeinterface 174 1, 5) := by decide +kernel
theorem pd__40_41Ljava_47lang_47Object_59 : parseMethodDescriptor "()Ljava/lang/Object;" = some ⟨[], some (.object "java/lang/Object")⟩ := by decide +kernel
theorem d26_55 : decode jdk_38_method_33_code 55 = .ok (.invokestatic 177, 3) := by decide +kernel
theorem pd__40Ljava_47lang_47Object_59Ljava_47lang_47Object_59_41Z : parseMethodDescriptor "(Ljava/lang/Object;Ljava/lang/Object;)Z" = some ⟨[(.object "java/lang/Object"), (.object "java/lang/Object")], some .boolean⟩ := by decide +kernel
theorem d26_58 : decode jdk_38_method_33_code 58 = .ok (.ifCond .ne 5, 3) := by decide +kernel
theorem d26_61 : decode jdk_38_method_33_code 61 = .ok (.iconst 0, 1) := by decide +kernel
theorem d26_62 : decode jdk_38_method_33_code 62 = .ok (.ireturn, 1) := by decide +kernel
theorem d26_63 : decode jdk_38_method_33_code 63 = .ok (.iinc 2 1, 3) := by decide +kernel
theorem d26_66 : decode jdk_38_method_33_code 66 = .ok (.goto (-37), 3) := by decide +kernel
theorem d26_69 : decode jdk_38_method_33_code 69 = .ok (.aload 5, 2) := by decide +kernel
theorem d26_71 : decode jdk_38_method_33_code 71 = .ok (.invokeinterface 168 1, 5) := by decide +kernel
theorem d26_76 : decode jdk_38_method_33_code 76 = .ok (.ifCond .ne 7, 3) := by decide +kernel
theorem d26_79 : decode jdk_38_method_33_code 79 = .ok (.iconst 1, 1) := by decide +kernel
theorem d26_80 : decode jdk_38_method_33_code 80 = .ok (.goto 4, 3) := by decide +kernel
theorem d26_84 : decode jdk_38_method_33_code 84 = .ok (.ireturn, 1) := by decide +kernel
theorem ef_26 (m : MethodId) (x0 : Addr) (x1 : Addr) : entryFrame m #[(.ref x0), (.ref x1), (.int (0 : Int32)), (.int (2 : Int32))] 6 = mkF m 0 #[.val (.ref x0), .val (.ref x1), .val (.int (0 : Int32)), .val (.int (2 : Int32)), .unset, .unset] [] := by first | (simp [entryFrame, mkF, argsToLocals, Value.category]; done) | rfl
def Q26 (Z : State) (a : Addr) (l1 : Addr) (d : Addr) (kb : ClassId) (x1 : Addr) (x2 : Addr) (y1 : Addr) (y2 : Addr) (i : Int32) (j : Int32) (s_EMPTY : Addr) (h0 : Heap) (n0 : Nat) (v : Option Value) (h : Heap) (L : List Loc) : Prop := v = some (.int (own_q i j)) ∧ Fr n0 L ∧ Keep h0 h []
set_option maxRecDepth 65536 in
set_option maxHeartbeats 40000000 in
theorem rm26 (l : Launch) (Z : State) (a0 : Array Value) (hw : ∀ d ∈ tables_1, d.before a0 Z = true) (ws : List Jvm.Cond) (a : Addr) (l1 : Addr) (d : Addr) (kb : ClassId) (x1 : Addr) (x2 : Addr) (y1 : Addr) (y2 : Addr) (i : Int32) (j : Int32) (s_EMPTY : Addr) (h0 : Heap) (n0 : Nat) (O0 : Old Z n0 h0) (S_s_EMPTY : Sta Z Z.heap "java/util/ImmutableCollections" "EMPTY" "Ljava/lang/Object;" (.ref s_EMPTY)) (E_a : Exa Z h0 a "java/util/ArrayList") (F_e_a : Fld Z h0 a "java/util/ArrayList" "elementData" "[Ljava/lang/Object;" (.ref d)) (V_d : Arv Z h0 d kb (.object "java/lang/Object") (10 : Int32) [(.ref x1), (.ref x2), .null, .null, .null, .null, .null, .null, .null, .null] .null) (E_l1 : Exa Z h0 l1 "java/util/ImmutableCollections$List12") (F_e0_l1 : Fld Z h0 l1 "java/util/ImmutableCollections$List12" "e0" "Ljava/lang/Object;" (.ref y1)) (F_e1_l1 : Fld Z h0 l1 "java/util/ImmutableCollections$List12" "e1" "Ljava/lang/Object;" (.ref y2)) (E_x1 : Exa Z h0 x1 "java/lang/Integer") (F_v_x1 : Fld Z h0 x1 "java/lang/Integer" "value" "I" (.int i)) (E_x2 : Exa Z h0 x2 "java/lang/Integer") (F_v_x2 : Fld Z h0 x2 "java/lang/Integer" "value" "I" (.int i)) (E_y1 : Exa Z h0 y1 "java/lang/Integer") (F_v_y1 : Fld Z h0 y1 "java/lang/Integer" "value" "I" (.int j)) (E_y2 : Exa Z h0 y2 "java/lang/Integer") (F_v_y2 : Fld Z h0 y2 "java/lang/Integer" "value" "I" (.int j)) (E_EMPTY : Exa Z h0 s_EMPTY "java/lang/Object") :
    MetFree l (⟨"java/util/ArrayList", "equalsRange", "(Ljava/util/List;II)Z"⟩ : MethodName) (head1 (Jvm.Cond.code (⟨"java/util/ArrayList", "equalsRange", "(Ljava/util/List;II)Z"⟩ : MethodName) jdk_38_method_33_code 6 (some .boolean) :: ws) ({ frames := 3, cells := 1, slots := 4, locals := 39 } : Room)) (fun aA uU => aA = #[(.ref a), (.ref l1), (.int (0 : Int32)), (.int (2 : Int32))] ∧ Z.Warmed39 uU.vm ∧ uU.heap = h0) (fun _ _ _ _ _ => True) (fun _ uU oO uU' => ∃ vV lL, oO = .returned vV ∧ Q26 Z a l1 d kb x1 x2 y1 y2 i j s_EMPTY h0 n0 vV uU'.heap lL ∧ FrameEnd uU oO uU' lL ({ frames := 3, cells := 1, slots := 4, locals := 39 } : Room).cells ({ frames := 3, cells := 1, slots := 4, locals := 39 } : Room).slots) := by
  refine MetFree.of_bodySF (plainFor_of_name pn_java_util_ArrayList) hisR ?_
  intro p e s m args below meth c s₁ Bd hml0 hP hK
  obtain ⟨rfl, hZ, hh⟩ := hP
  have hx := Bd.exec
  have hby := Bd.bytes
  have hml : c.maxLocals = 6 := hml0
  have hown : s.vm.findClass "java/util/ArrayList" = some m.cls := findClass_of_methodNamed Bd.named
  have hnm := (name_of_methodNamed Bd.named Bd.method).1
  have X0 : Stand p l e ({ frames := 3, cells := 1, slots := 4, locals := 39 } : Room) s m #[(.ref a), (.ref l1), (.int (0 : Int32)), (.int (2 : Int32))] below meth c s₁ [] 0 0 := Stand.of_body Bd
  have e0 : s₁.heap = h0 := by rw [← hh, Bd.state]; rfl
  have N0 := Fr.nil n0
  have O := O0
  have K := Keep.refl h0 []
  have pre0 : ∀ t, Steps p.tables e below (s₁.setTop (mkF m 0 #[.val (.ref a), .val (.ref l1), .val (.int (0 : Int32)), .val (.int (2 : Int32)), .unset, .unset] [])) t → Steps p.tables e below (s₁.setTop (entryFrame m #[(.ref a), (.ref l1), (.int (0 : Int32)), (.int (2 : Int32))] 6)) t := fun t k => castTop (ef_26 m a l1) k
  obtain ⟨T1, X1, e1, st1⟩ := getF X0 hx hZ hown (host := "") (Or.inl (hw _ (List.mem_of_getElem? (i := 28) rfl))) Via.refl e0 F_e_a (g := (mkF m 1 #[.val (.ref a), .val (.ref l1), .val (.int (0 : Int32)), .val (.int (2 : Int32)), .unset, .unset] [(.ref a)])) rfl rfl (hb hby d26_1)
  obtain ⟨cl2, Ar2, -, Z2, N2, -, -⟩ := id V_d
  obtain ⟨cq3, kq3, q3a, q3b, q3c⟩ := isOf hZ e1 E_l1
  have lt3_a := E_a.lt
  have lt3_l1 := E_l1.lt
  have lt3_d := V_d.lt
  have lt3_x1 := E_x1.lt
  have lt3_x2 := E_x2.lt
  have lt3_y1 := E_y1.lt
  have lt3_y2 := E_y2.lt
  have lt3_s_EMPTY := E_EMPTY.lt
  obtain ⟨_, _, ⟨T3, L3, k3, n3⟩, -, X3, ⟨Lc3, hQ3, l3, y3, z3⟩, st3⟩ := X1.interfaceBack hx (xi := (⟨"java/util/List", "iterator", "()Ljava/util/Iterator;"⟩ : MethodName)) (y := (⟨"java/util/ImmutableCollections$AbstractImmutableList", "iterator", "()Ljava/util/Iterator;"⟩ : MethodName)) hown (mvT hZ (hw _ (List.mem_of_getElem? (i := 179) rfl))) (mvT hZ (hw _ (List.mem_of_getElem? (i := 180) rfl))) (mvT hZ (hw _ (List.mem_of_getElem? (i := 181) rfl))) (mvT hZ (hw _ (List.mem_of_getElem? (i := 182) rfl))) (mvT hZ (hw _ (List.mem_of_getElem? (i := 183) rfl))) (mvT hZ (hw _ (List.mem_of_getElem? (i := 184) rfl))) (mvT hZ (hw _ (List.mem_of_getElem? (i := 185) rfl))) (mvT hZ (hw _ (List.mem_of_getElem? (i := 166) rfl))) (by decide) (backOf (W := 0) (rm27 l Z a0 hw [] l1 y2 s_EMPTY h0 n0 O S_s_EMPTY E_l1 F_e1_l1 E_y2 E_EMPTY) hZ (hw _ (List.mem_of_getElem? (i := 186) rfl)) (hw _ (List.mem_of_getElem? (i := 140) rfl)) (by decide) (by decide)) q3a q3b q3c (g := (mkF m 22 #[.val (.ref a), .val (.ref l1), .val (.int (0 : Int32)), .val (.int (2 : Int32)), .val (.ref d), .unset] [(.ref l1)])) rfl (by rw [hml]; rfl) (Steps.refl _) (argsL := []) (rest := []) (lenOf pd__40_41Ljava_47util_47Iterator_59 rfl) rfl (by show 2 * 0 + _ ≤ _; exact Nat.le_of_eq rfl) (hb hby d26_22) (fun _ _ => ⟨rfl, e1, (by decide : 0 + 1 ≤ _), (by decide : 0 + 4 ≤ _)⟩)
  dsimp only [Pt.U, Pt.locs, Pt.cells, Pt.slots] at X3 l3 y3 z3 st3 hQ3
  subst l3 y3 z3
  obtain ⟨z_3, rfl, N3q, K3, E_z_c3, F_list_z_c3, F_size_z_c3, F_cursor_z_c3, F_isListIterator_z_c3, gz_3, gn_3⟩ := hQ3
  have N3 := Fr.app N0 N3q
  have E_a := E_a.keep K3
  have F_e_a := F_e_a.keep K3 nin0
  have V_d := V_d.keep K3 nin0
  have E_l1 := E_l1.keep K3
  have F_e0_l1 := F_e0_l1.keep K3 nin0
  have F_e1_l1 := F_e1_l1.keep K3 nin0
  have E_x1 := E_x1.keep K3
  have F_v_x1 := F_v_x1.keep K3 nin0
  have E_x2 := E_x2.keep K3
  have F_v_x2 := F_v_x2.keep K3 nin0
  have E_y1 := E_y1.keep K3
  have F_v_y1 := F_v_y1.keep K3 nin0
  have E_y2 := E_y2.keep K3
  have F_v_y2 := F_v_y2.keep K3 nin0
  have E_EMPTY := E_EMPTY.keep K3
  have ne_a_z_3 : a ≠ z_3 := Nat.ne_of_lt (Nat.lt_of_lt_of_le lt3_a gz_3)
  have ne_l1_z_3 : l1 ≠ z_3 := Nat.ne_of_lt (Nat.lt_of_lt_of_le lt3_l1 gz_3)
  have ne_d_z_3 : d ≠ z_3 := Nat.ne_of_lt (Nat.lt_of_lt_of_le lt3_d gz_3)
  have ne_x1_z_3 : x1 ≠ z_3 := Nat.ne_of_lt (Nat.lt_of_lt_of_le lt3_x1 gz_3)
  have ne_x2_z_3 : x2 ≠ z_3 := Nat.ne_of_lt (Nat.lt_of_lt_of_le lt3_x2 gz_3)
  have ne_y1_z_3 : y1 ≠ z_3 := Nat.ne_of_lt (Nat.lt_of_lt_of_le lt3_y1 gz_3)
  have ne_y2_z_3 : y2 ≠ z_3 := Nat.ne_of_lt (Nat.lt_of_lt_of_le lt3_y2 gz_3)
  have ne_s_EMPTY_z_3 : s_EMPTY ≠ z_3 := Nat.ne_of_lt (Nat.lt_of_lt_of_le lt3_s_EMPTY gz_3)
  have g_z_3 := gn_3
  have z_z_3 : h0.size ≤ z_3 := Nat.le_trans K.1 gz_3
  have O := O.keep K3 all0
  have K := K.trans K3 all0
  obtain ⟨cq4, kq4, q4a, q4b, q4c⟩ := isOf hZ rfl E_z_c3
  obtain ⟨_, _, ⟨T4, L4, k4, n4⟩, -, X4, ⟨Lc4, hQ4, l4, y4, z4⟩, st4⟩ := X3.interfaceBack hx (xi := (⟨"java/util/Iterator", "hasNext", "()Z"⟩ : MethodName)) (y := (⟨"java/util/ImmutableCollections$ListItr", "hasNext", "()Z"⟩ : MethodName)) hown (mvT hZ (hw _ (List.mem_of_getElem? (i := 211) rfl))) (mvT hZ (hw _ (List.mem_of_getElem? (i := 212) rfl))) (mvT hZ (hw _ (List.mem_of_getElem? (i := 213) rfl))) (mvT hZ (hw _ (List.mem_of_getElem? (i := 214) rfl))) (mvT hZ (hw _ (List.mem_of_getElem? (i := 215) rfl))) (mvT hZ (hw _ (List.mem_of_getElem? (i := 216) rfl))) (mvT hZ (hw _ (List.mem_of_getElem? (i := 217) rfl))) (mvT hZ (hw _ (List.mem_of_getElem? (i := 218) rfl))) (by decide) (backOf (W := 0) (rm30_0 l Z a0 hw [] z_3 T3.heap n0 O F_cursor_z_c3 F_size_z_c3) hZ (hw _ (List.mem_of_getElem? (i := 219) rfl)) (hw _ (List.mem_of_getElem? (i := 189) rfl)) (by decide) (by decide)) q4a q4b q4c (g := (mkF m 36 #[.val (.ref a), .val (.ref l1), .val (.int (0 : Int32)), .val (.int (2 : Int32)), .val (.ref d), .val (.ref z_3)] [(.ref z_3)])) rfl (by rw [hml]; rfl) (Steps.refl _) (argsL := []) (rest := []) (lenOf pd__40_41Z rfl) rfl (by show 2 * 0 + _ ≤ _; exact Nat.le_of_eq rfl) (hb hby d26_36) (fun _ _ => ⟨rfl, rfl, (by decide : 1 + 0 ≤ _), (by decide : 4 + 0 ≤ _)⟩)
  dsimp only [Pt.U, Pt.locs, Pt.cells, Pt.slots] at X4 l4 y4 z4 st4 hQ4
  subst l4 y4 z4
  obtain ⟨rfl, N4q, eh4⟩ := hQ4
  have N4 := Fr.app N3 N4q
  obtain ⟨cl5, Ar5, q5, Z5, N5, H5, G5⟩ := id V_d
  have hin5 : ¬ ((0 : Int32) < 0 ∨ cl5.slots.size ≤ ((0 : Int32)).toNatClampNeg) := inb_of Z5 ⟨by decide, by decide⟩
  have hat5 : cl5.slots[((0 : Int32)).toNatClampNeg]? = some (.ref x1) := H5.at hin5 rfl
  obtain ⟨cq6, kq6, q6a, q6b, q6c⟩ := isOf hZ eh4 E_z_c3
  obtain ⟨_, _, ⟨T6, L6, k6, n6⟩, -, X6, ⟨Lc6, hQ6, l6, y6, z6⟩, st6⟩ := X4.interfaceBack hx (xi := (⟨"java/util/Iterator", "next", "()Ljava/lang/Object;"⟩ : MethodName)) (y := (⟨"java/util/ImmutableCollections$ListItr", "next", "()Ljava/lang/Object;"⟩ : MethodName)) hown (mvT hZ (hw _ (List.mem_of_getElem? (i := 220) rfl))) (mvT hZ (hw _ (List.mem_of_getElem? (i := 221) rfl))) (mvT hZ (hw _ (List.mem_of_getElem? (i := 222) rfl))) (mvT hZ (hw _ (List.mem_of_getElem? (i := 223) rfl))) (mvT hZ (hw _ (List.mem_of_getElem? (i := 224) rfl))) (mvT hZ (hw _ (List.mem_of_getElem? (i := 225) rfl))) (mvT hZ (hw _ (List.mem_of_getElem? (i := 226) rfl))) (mvT hZ (hw _ (List.mem_of_getElem? (i := 218) rfl))) (by decide) (backOfWith (W := 1) (rm31_0 l Z a0 hw [] z_3 l1 y1 y2 T3.heap n0 O E_z_c3 F_list_z_c3 F_size_z_c3 F_cursor_z_c3 F_isListIterator_z_c3 E_l1 F_e0_l1 F_e1_l1 g_z_3) hZ (hw _ (List.mem_of_getElem? (i := 227) rfl)) (hw _ (List.mem_of_getElem? (i := 189) rfl)) (by decide) (by decide)) q6a q6b q6c (g := (mkF m 50 #[.val (.ref a), .val (.ref l1), .val (.int (0 : Int32)), .val (.int (2 : Int32)), .val (.ref d), .val (.ref z_3)] [(.ref z_3), (.ref x1)])) rfl (by rw [hml]; rfl) (Steps.refl _) (argsL := []) (rest := [(.ref x1)]) (lenOf pd__40_41Ljava_47lang_47Object_59 rfl) rfl (by show 2 * 0 + _ ≤ _; exact Nat.le_of_eq rfl) (hb hby d26_50) (fun _ _ => ⟨rfl, eh4, (by decide : 1 + 0 ≤ _), (by decide : 4 + 0 ≤ _)⟩)
  dsimp only [Pt.U, Pt.locs, Pt.cells, Pt.slots] at X6 l6 y6 z6 st6 hQ6
  subst l6 y6 z6
  obtain ⟨rfl, N6q, K6, F_list_a_c6, F_size_a_c6, F_cursor_a_c6, F_isListIterator_a_c6⟩ := hQ6
  have N6 := Fr.app N4 N6q
  have E_a := E_a.keep K6
  have F_e_a := F_e_a.keep K6 (ninS ne_a_z_3 nin0)
  have V_d := V_d.keep K6 (ninS ne_d_z_3 nin0)
  have E_l1 := E_l1.keep K6
  have F_e0_l1 := F_e0_l1.keep K6 (ninS ne_l1_z_3 nin0)
  have F_e1_l1 := F_e1_l1.keep K6 (ninS ne_l1_z_3 nin0)
  have E_x1 := E_x1.keep K6
  have F_v_x1 := F_v_x1.keep K6 (ninS ne_x1_z_3 nin0)
  have E_x2 := E_x2.keep K6
  have F_v_x2 := F_v_x2.keep K6 (ninS ne_x2_z_3 nin0)
  have E_y1 := E_y1.keep K6
  have F_v_y1 := F_v_y1.keep K6 (ninS ne_y1_z_3 nin0)
  have E_y2 := E_y2.keep K6
  have F_v_y2 := F_v_y2.keep K6 (ninS ne_y2_z_3 nin0)
  have E_EMPTY := E_EMPTY.keep K6
  have E_z_c3 := E_z_c3.keep K6
  have O := O.keep K6 (allS g_z_3 all0)
  have K := K.trans K6 (allS (Or.inr z_z_3) all0)
  obtain ⟨_, _, ⟨T7, L7, k7, n7⟩, -, X7, ⟨Lc7, hQ7, l7, y7, z7⟩, st7⟩ := Jvm.LawKit.callS X6 hx (y := (⟨"java/util/Objects", "equals", "(Ljava/lang/Object;Ljava/lang/Object;)Z"⟩ : MethodName)) hown (mvT hZ (hw _ (List.mem_of_getElem? (i := 234) rfl))) (mvT hZ (hw _ (List.mem_of_getElem? (i := 235) rfl))) (mvT hZ (hw _ (List.mem_of_getElem? (i := 104) rfl))) (mvT hZ (hw _ (List.mem_of_getElem? (i := 236) rfl))) (by decide) (backOf (W := 0) (rm33 l Z a0 hw [] x1 y1 i j T6.heap n0 O E_x1 F_v_x1 E_y1 F_v_y1) hZ (hw _ (List.mem_of_getElem? (i := 236) rfl)) (hw _ (List.mem_of_getElem? (i := 104) rfl)) (by decide) (by decide)) (g := (mkF m 55 #[.val (.ref a), .val (.ref l1), .val (.int (0 : Int32)), .val (.int (2 : Int32)), .val (.ref d), .val (.ref z_3)] [(.ref y1), (.ref x1)])) rfl (by rw [hml]; rfl) (argsL := [(.ref x1), (.ref y1)]) (rest := []) (lenOf pd__40Ljava_47lang_47Object_59Ljava_47lang_47Object_59_41Z rfl) rfl (by show 2 * 0 + _ ≤ _; exact Nat.le_of_eq rfl) (hb hby d26_55) (fun _ _ => ⟨rfl, rfl, (by decide : 1 + 0 ≤ _), (by decide : 4 + 0 ≤ _)⟩)
  dsimp only [Pt.U, Pt.locs, Pt.cells, Pt.slots] at X7 l7 y7 z7 st7 hQ7
  subst l7 y7 z7
  obtain ⟨rfl, N7q, eh7⟩ := hQ7
  have N7 := Fr.app N6 N7q
  have w8 : ∀ t, Steps p.tables e below (T7.setTop (mkF m 58 #[.val (.ref a), .val (.ref l1), .val (.int (0 : Int32)), .val (.int (2 : Int32)), .val (.ref d), .val (.ref z_3)] [(.int (own_q i j))])) t → Steps p.tables e below (s₁.setTop (entryFrame m #[(.ref a), (.ref l1), (.int (0 : Int32)), (.int (2 : Int32))] 6)) t := fun t k => by
    refine pre0 t ?_
    refine XS.aloadN X0.here hx rfl (hb hby d26_0) rfl rfl ?_
    show Steps p.tables e below (s₁.setTop (mkF m 1 #[.val (.ref a), .val (.ref l1), .val (.int (0 : Int32)), .val (.int (2 : Int32)), .unset, .unset] [(.ref a)])) _
    refine st1 _ ?_
    show Steps p.tables e below (T1.setTop (mkF m 4 #[.val (.ref a), .val (.ref l1), .val (.int (0 : Int32)), .val (.int (2 : Int32)), .unset, .unset] [(.ref d)])) _
    refine XS.astore X1.here hx rfl (hb hby d26_4) rfl rfl (l' := #[.val (.ref a), .val (.ref l1), .val (.int (0 : Int32)), .val (.int (2 : Int32)), .val (.ref d), .unset]) rfl ?_
    show Steps p.tables e below (T1.setTop (mkF m 6 #[.val (.ref a), .val (.ref l1), .val (.int (0 : Int32)), .val (.int (2 : Int32)), .val (.ref d), .unset] [])) _
    refine XS.iloadN X1.here hx rfl (hb hby d26_6) rfl ?_
    show Steps p.tables e below (T1.setTop (mkF m 7 #[.val (.ref a), .val (.ref l1), .val (.int (0 : Int32)), .val (.int (2 : Int32)), .val (.ref d), .unset] [(.int (2 : Int32))])) _
    refine XS.aload X1.here hx rfl (hb hby d26_7) rfl rfl ?_
    show Steps p.tables e below (T1.setTop (mkF m 9 #[.val (.ref a), .val (.ref l1), .val (.int (0 : Int32)), .val (.int (2 : Int32)), .val (.ref d), .unset] [(.ref d), (.int (2 : Int32))])) _
    refine X1.arraylength hx (by rw [e1]; exact Ar2.1) (State.isArrayOf_alike hZ.alike Ar2.2.1) (g := (mkF m 9 #[.val (.ref a), .val (.ref l1), .val (.int (0 : Int32)), .val (.int (2 : Int32)), .val (.ref d), .unset] [(.ref d), (.int (2 : Int32))])) rfl rfl (hb hby d26_9) _ ?_
    rw [len_of Z2 N2]
    show Steps p.tables e below (T1.setTop (mkF m 10 #[.val (.ref a), .val (.ref l1), .val (.int (0 : Int32)), .val (.int (2 : Int32)), .val (.ref d), .unset] [(.int (10 : Int32)), (.int (2 : Int32))])) _
    refine XS.icmpYes X1.here hx rfl (pc0 := 10) (pc' := 21) rfl (hb hby d26_10) rfl (flt ((by decide) : ¬ ((10 : Int32) < (2 : Int32)))).2.2.2 (by decide) (by decide) ?_
    show Steps p.tables e below (T1.setTop (mkF m 21 #[.val (.ref a), .val (.ref l1), .val (.int (0 : Int32)), .val (.int (2 : Int32)), .val (.ref d), .unset] [])) _
    refine XS.aloadN X1.here hx rfl (hb hby d26_21) rfl rfl ?_
    show Steps p.tables e below (T1.setTop (mkF m 22 #[.val (.ref a), .val (.ref l1), .val (.int (0 : Int32)), .val (.int (2 : Int32)), .val (.ref d), .unset] [(.ref l1)])) _
    refine st3.trans ?_
    show Steps p.tables e below (T3.setTop (mkF m 27 #[.val (.ref a), .val (.ref l1), .val (.int (0 : Int32)), .val (.int (2 : Int32)), .val (.ref d), .unset] [(.ref z_3)])) _
    refine XS.astore X3.here hx rfl (hb hby d26_27) rfl rfl (l' := #[.val (.ref a), .val (.ref l1), .val (.int (0 : Int32)), .val (.int (2 : Int32)), .val (.ref d), .val (.ref z_3)]) rfl ?_
    show Steps p.tables e below (T3.setTop (mkF m 29 #[.val (.ref a), .val (.ref l1), .val (.int (0 : Int32)), .val (.int (2 : Int32)), .val (.ref d), .val (.ref z_3)] [])) _
    refine XS.iloadN X3.here hx rfl (hb hby d26_29) rfl ?_
    show Steps p.tables e below (T3.setTop (mkF m 30 #[.val (.ref a), .val (.ref l1), .val (.int (0 : Int32)), .val (.int (2 : Int32)), .val (.ref d), .val (.ref z_3)] [(.int (0 : Int32))])) _
    refine XS.iloadN X3.here hx rfl (hb hby d26_30) rfl ?_
    show Steps p.tables e below (T3.setTop (mkF m 31 #[.val (.ref a), .val (.ref l1), .val (.int (0 : Int32)), .val (.int (2 : Int32)), .val (.ref d), .val (.ref z_3)] [(.int (2 : Int32)), (.int (0 : Int32))])) _
    refine XS.icmpNo X3.here hx rfl (hb hby d26_31) rfl (tlt ((by decide) : (0 : Int32) < (2 : Int32))).2.1 ?_
    show Steps p.tables e below (T3.setTop (mkF m 34 #[.val (.ref a), .val (.ref l1), .val (.int (0 : Int32)), .val (.int (2 : Int32)), .val (.ref d), .val (.ref z_3)] [])) _
    refine XS.aload X3.here hx rfl (hb hby d26_34) rfl rfl ?_
    show Steps p.tables e below (T3.setTop (mkF m 36 #[.val (.ref a), .val (.ref l1), .val (.int (0 : Int32)), .val (.int (2 : Int32)), .val (.ref d), .val (.ref z_3)] [(.ref z_3)])) _
    refine st4.trans ?_
    show Steps p.tables e below (T4.setTop (mkF m 41 #[.val (.ref a), .val (.ref l1), .val (.int (0 : Int32)), .val (.int (2 : Int32)), .val (.ref d), .val (.ref z_3)] [(.int (1 : Int32))])) _
    refine XS.ifNo X4.here hx rfl (hb hby d26_41) rfl ((if0 _ _).trans (feq ((by decide) : ¬ ((1 : Int32) = (0 : Int32)))).1) ?_
    show Steps p.tables e below (T4.setTop (mkF m 44 #[.val (.ref a), .val (.ref l1), .val (.int (0 : Int32)), .val (.int (2 : Int32)), .val (.ref d), .val (.ref z_3)] [])) _
    refine XS.aload X4.here hx rfl (hb hby d26_44) rfl rfl ?_
    show Steps p.tables e below (T4.setTop (mkF m 46 #[.val (.ref a), .val (.ref l1), .val (.int (0 : Int32)), .val (.int (2 : Int32)), .val (.ref d), .val (.ref z_3)] [(.ref d)])) _
    refine XS.iloadN X4.here hx rfl (hb hby d26_46) rfl ?_
    show Steps p.tables e below (T4.setTop (mkF m 47 #[.val (.ref a), .val (.ref l1), .val (.int (0 : Int32)), .val (.int (2 : Int32)), .val (.ref d), .val (.ref z_3)] [(.int (0 : Int32)), (.ref d)])) _
    refine X4.aaload hx (j := (0 : Int32)) (v := (.ref x1)) (by rw [eh4]; exact Ar5.1) (State.isArrayOf_alike hZ.alike Ar5.2.1) rfl Ar5.2.2 hin5 hat5 (g := (mkF m 47 #[.val (.ref a), .val (.ref l1), .val (.int (0 : Int32)), .val (.int (2 : Int32)), .val (.ref d), .val (.ref z_3)] [(.int (0 : Int32)), (.ref d)])) rfl rfl (hb hby d26_47) _ ?_
    show Steps p.tables e below (T4.setTop (mkF m 48 #[.val (.ref a), .val (.ref l1), .val (.int (0 : Int32)), .val (.int (2 : Int32)), .val (.ref d), .val (.ref z_3)] [(.ref x1)])) _
    refine XS.aload X4.here hx rfl (hb hby d26_48) rfl rfl ?_
    show Steps p.tables e below (T4.setTop (mkF m 50 #[.val (.ref a), .val (.ref l1), .val (.int (0 : Int32)), .val (.int (2 : Int32)), .val (.ref d), .val (.ref z_3)] [(.ref z_3), (.ref x1)])) _
    refine st6.trans ?_
    show Steps p.tables e below (T6.setTop (mkF m 55 #[.val (.ref a), .val (.ref l1), .val (.int (0 : Int32)), .val (.int (2 : Int32)), .val (.ref d), .val (.ref z_3)] [(.ref y1), (.ref x1)])) _
    refine st7 _ ?_
    show Steps p.tables e below (T7.setTop (mkF m 58 #[.val (.ref a), .val (.ref l1), .val (.int (0 : Int32)), .val (.int (2 : Int32)), .val (.ref d), .val (.ref z_3)] [(.int (own_q i j))])) _
    exact k
  by_cases hc58_9 : (own_q i j) = (0 : Int32)
  · have w10 : ∀ t, Steps p.tables e below (T7.setTop (mkF m 62 #[.val (.ref a), .val (.ref l1), .val (.int (0 : Int32)), .val (.int (2 : Int32)), .val (.ref d), .val (.ref z_3)] [(.int (0 : Int32))])) t → Steps p.tables e below (s₁.setTop (entryFrame m #[(.ref a), (.ref l1), (.int (0 : Int32)), (.int (2 : Int32))] 6)) t := fun t k => by
      refine w8 t ?_
      refine XS.ifNo X7.here hx rfl (hb hby d26_58) rfl ((if0 _ _).trans (teq hc58_9).2) ?_
      show Steps p.tables e below (T7.setTop (mkF m 61 #[.val (.ref a), .val (.ref l1), .val (.int (0 : Int32)), .val (.int (2 : Int32)), .val (.ref d), .val (.ref z_3)] [])) _
      refine XS.iconst X7.here hx rfl (hb hby d26_61) ?_
      show Steps p.tables e below (T7.setTop (mkF m 62 #[.val (.ref a), .val (.ref l1), .val (.int (0 : Int32)), .val (.int (2 : Int32)), .val (.ref d), .val (.ref z_3)] [(.int (0 : Int32))])) _
      exact k
    obtain ⟨fs, hr, hrun, hended, hW, hsame⟩ := X7.leave (v := some (.int (0 : Int32))) (fun h => by rw [Bd.returns] at h; cases h)
    refine ⟨_, _, w10 _ ?_, hrun, hended, _, _, rfl, ?_, ⟨_, rfl⟩, hW, hsame.mono (by decide) (by decide)⟩
    · exact retN X7 hx (t := .boolean) Bd.returns (by simp) (hb hby d26_62) hr
    · show Q26 Z a l1 d kb x1 x2 y1 y2 i j s_EMPTY h0 n0 _ T7.heap _
      rw [eh7]
      exact ⟨(by rw [hc58_9]), N7, K⟩
  · obtain ⟨cq11, kq11, q11a, q11b, q11c⟩ := isOf hZ eh7 E_z_c3
    obtain ⟨_, _, ⟨T11, L11, k11, n11⟩, -, X11, ⟨Lc11, hQ11, l11, y11, z11⟩, st11⟩ := X7.interfaceBack hx (xi := (⟨"java/util/Iterator", "hasNext", "()Z"⟩ : MethodName)) (y := (⟨"java/util/ImmutableCollections$ListItr", "hasNext", "()Z"⟩ : MethodName)) hown (mvT hZ (hw _ (List.mem_of_getElem? (i := 211) rfl))) (mvT hZ (hw _ (List.mem_of_getElem? (i := 212) rfl))) (mvT hZ (hw _ (List.mem_of_getElem? (i := 213) rfl))) (mvT hZ (hw _ (List.mem_of_getElem? (i := 214) rfl))) (mvT hZ (hw _ (List.mem_of_getElem? (i := 215) rfl))) (mvT hZ (hw _ (List.mem_of_getElem? (i := 216) rfl))) (mvT hZ (hw _ (List.mem_of_getElem? (i := 217) rfl))) (mvT hZ (hw _ (List.mem_of_getElem? (i := 218) rfl))) (by decide) (backOf (W := 0) (rm30_1 l Z a0 hw [] z_3 T6.heap n0 O F_cursor_a_c6 F_size_a_c6) hZ (hw _ (List.mem_of_getElem? (i := 219) rfl)) (hw _ (List.mem_of_getElem? (i := 189) rfl)) (by decide) (by decide)) q11a q11b q11c (g := (mkF m 36 #[.val (.ref a), .val (.ref l1), .val (.int (1 : Int32)), .val (.int (2 : Int32)), .val (.ref d), .val (.ref z_3)] [(.ref z_3)])) rfl (by rw [hml]; rfl) (Steps.refl _) (argsL := []) (rest := []) (lenOf pd__40_41Z rfl) rfl (by show 2 * 0 + _ ≤ _; exact Nat.le_of_eq rfl) (hb hby d26_36) (fun _ _ => ⟨rfl, eh7, (by decide : 1 + 0 ≤ _), (by decide : 4 + 0 ≤ _)⟩)
    dsimp only [Pt.U, Pt.locs, Pt.cells, Pt.slots] at X11 l11 y11 z11 st11 hQ11
    subst l11 y11 z11
    obtain ⟨rfl, N11q, eh11⟩ := hQ11
    have N11 := Fr.app N7 N11q
    obtain ⟨cl12, Ar12, q12, Z12, N12, H12, G12⟩ := id V_d
    have hin12 : ¬ ((1 : Int32) < 0 ∨ cl12.slots.size ≤ ((1 : Int32)).toNatClampNeg) := inb_of Z12 ⟨by decide, by decide⟩
    have hat12 : cl12.slots[((1 : Int32)).toNatClampNeg]? = some (.ref x2) := H12.at hin12 rfl
    obtain ⟨cq13, kq13, q13a, q13b, q13c⟩ := isOf hZ eh11 E_z_c3
    obtain ⟨_, _, ⟨T13, L13, k13, n13⟩, -, X13, ⟨Lc13, hQ13, l13, y13, z13⟩, st13⟩ := X11.interfaceBack hx (xi := (⟨"java/util/Iterator", "next", "()Ljava/lang/Object;"⟩ : MethodName)) (y := (⟨"java/util/ImmutableCollections$ListItr", "next", "()Ljava/lang/Object;"⟩ : MethodName)) hown (mvT hZ (hw _ (List.mem_of_getElem? (i := 220) rfl))) (mvT hZ (hw _ (List.mem_of_getElem? (i := 221) rfl))) (mvT hZ (hw _ (List.mem_of_getElem? (i := 222) rfl))) (mvT hZ (hw _ (List.mem_of_getElem? (i := 223) rfl))) (mvT hZ (hw _ (List.mem_of_getElem? (i := 224) rfl))) (mvT hZ (hw _ (List.mem_of_getElem? (i := 225) rfl))) (mvT hZ (hw _ (List.mem_of_getElem? (i := 226) rfl))) (mvT hZ (hw _ (List.mem_of_getElem? (i := 218) rfl))) (by decide) (backOfWith (W := 1) (rm31_1 l Z a0 hw [] z_3 l1 y1 y2 s_EMPTY T6.heap n0 O S_s_EMPTY E_z_c3 F_list_a_c6 F_size_a_c6 F_cursor_a_c6 F_isListIterator_a_c6 E_l1 F_e0_l1 F_e1_l1 E_y2 E_EMPTY g_z_3) hZ (hw _ (List.mem_of_getElem? (i := 227) rfl)) (hw _ (List.mem_of_getElem? (i := 189) rfl)) (by decide) (by decide)) q13a q13b q13c (g := (mkF m 50 #[.val (.ref a), .val (.ref l1), .val (.int (1 : Int32)), .val (.int (2 : Int32)), .val (.ref d), .val (.ref z_3)] [(.ref z_3), (.ref x2)])) rfl (by rw [hml]; rfl) (Steps.refl _) (argsL := []) (rest := [(.ref x2)]) (lenOf pd__40_41Ljava_47lang_47Object_59 rfl) rfl (by show 2 * 0 + _ ≤ _; exact Nat.le_of_eq rfl) (hb hby d26_50) (fun _ _ => ⟨rfl, eh11, (by decide : 1 + 0 ≤ _), (by decide : 4 + 0 ≤ _)⟩)
    dsimp only [Pt.U, Pt.locs, Pt.cells, Pt.slots] at X13 l13 y13 z13 st13 hQ13
    subst l13 y13 z13
    obtain ⟨rfl, N13q, K13, F_list_a_c13, F_size_a_c13, F_cursor_a_c13, F_isListIterator_a_c13⟩ := hQ13
    have N13 := Fr.app N11 N13q
    have E_a := E_a.keep K13
    have F_e_a := F_e_a.keep K13 (ninS ne_a_z_3 nin0)
    have V_d := V_d.keep K13 (ninS ne_d_z_3 nin0)
    have E_l1 := E_l1.keep K13
    have F_e0_l1 := F_e0_l1.keep K13 (ninS ne_l1_z_3 nin0)
    have F_e1_l1 := F_e1_l1.keep K13 (ninS ne_l1_z_3 nin0)
    have E_x1 := E_x1.keep K13
    have F_v_x1 := F_v_x1.keep K13 (ninS ne_x1_z_3 nin0)
    have E_x2 := E_x2.keep K13
    have F_v_x2 := F_v_x2.keep K13 (ninS ne_x2_z_3 nin0)
    have E_y1 := E_y1.keep K13
    have F_v_y1 := F_v_y1.keep K13 (ninS ne_y1_z_3 nin0)
    have E_y2 := E_y2.keep K13
    have F_v_y2 := F_v_y2.keep K13 (ninS ne_y2_z_3 nin0)
    have E_EMPTY := E_EMPTY.keep K13
    have E_z_c3 := E_z_c3.keep K13
    have O := O.keep K13 (allS g_z_3 all0)
    have K := K.trans K13 (allS (Or.inr z_z_3) all0)
    obtain ⟨_, _, ⟨T14, L14, k14, n14⟩, -, X14, ⟨Lc14, hQ14, l14, y14, z14⟩, st14⟩ := Jvm.LawKit.callS X13 hx (y := (⟨"java/util/Objects", "equals", "(Ljava/lang/Object;Ljava/lang/Object;)Z"⟩ : MethodName)) hown (mvT hZ (hw _ (List.mem_of_getElem? (i := 234) rfl))) (mvT hZ (hw _ (List.mem_of_getElem? (i := 235) rfl))) (mvT hZ (hw _ (List.mem_of_getElem? (i := 104) rfl))) (mvT hZ (hw _ (List.mem_of_getElem? (i := 236) rfl))) (by decide) (backOf (W := 0) (rm33 l Z a0 hw [] x2 y2 i j T13.heap n0 O E_x2 F_v_x2 E_y2 F_v_y2) hZ (hw _ (List.mem_of_getElem? (i := 236) rfl)) (hw _ (List.mem_of_getElem? (i := 104) rfl)) (by decide) (by decide)) (g := (mkF m 55 #[.val (.ref a), .val (.ref l1), .val (.int (1 : Int32)), .val (.int (2 : Int32)), .val (.ref d), .val (.ref z_3)] [(.ref y2), (.ref x2)])) rfl (by rw [hml]; rfl) (argsL := [(.ref x2), (.ref y2)]) (rest := []) (lenOf pd__40Ljava_47lang_47Object_59Ljava_47lang_47Object_59_41Z rfl) rfl (by show 2 * 0 + _ ≤ _; exact Nat.le_of_eq rfl) (hb hby d26_55) (fun _ _ => ⟨rfl, rfl, (by decide : 1 + 0 ≤ _), (by decide : 4 + 0 ≤ _)⟩)
    dsimp only [Pt.U, Pt.locs, Pt.cells, Pt.slots] at X14 l14 y14 z14 st14 hQ14
    subst l14 y14 z14
    obtain ⟨rfl, N14q, eh14⟩ := hQ14
    have N14 := Fr.app N13 N14q
    obtain ⟨cq15, kq15, q15a, q15b, q15c⟩ := isOf hZ eh14 E_z_c3
    obtain ⟨_, _, ⟨T15, L15, k15, n15⟩, -, X15, ⟨Lc15, hQ15, l15, y15, z15⟩, st15⟩ := X14.interfaceBack hx (xi := (⟨"java/util/Iterator", "hasNext", "()Z"⟩ : MethodName)) (y := (⟨"java/util/ImmutableCollections$ListItr", "hasNext", "()Z"⟩ : MethodName)) hown (mvT hZ (hw _ (List.mem_of_getElem? (i := 211) rfl))) (mvT hZ (hw _ (List.mem_of_getElem? (i := 212) rfl))) (mvT hZ (hw _ (List.mem_of_getElem? (i := 213) rfl))) (mvT hZ (hw _ (List.mem_of_getElem? (i := 214) rfl))) (mvT hZ (hw _ (List.mem_of_getElem? (i := 215) rfl))) (mvT hZ (hw _ (List.mem_of_getElem? (i := 216) rfl))) (mvT hZ (hw _ (List.mem_of_getElem? (i := 217) rfl))) (mvT hZ (hw _ (List.mem_of_getElem? (i := 218) rfl))) (by decide) (backOf (W := 0) (rm30_2 l Z a0 hw [] z_3 T13.heap n0 O F_cursor_a_c13 F_size_a_c13) hZ (hw _ (List.mem_of_getElem? (i := 219) rfl)) (hw _ (List.mem_of_getElem? (i := 189) rfl)) (by decide) (by decide)) q15a q15b q15c (g := (mkF m 71 #[.val (.ref a), .val (.ref l1), .val (.int (2 : Int32)), .val (.int (2 : Int32)), .val (.ref d), .val (.ref z_3)] [(.ref z_3)])) rfl (by rw [hml]; rfl) (Steps.refl _) (argsL := []) (rest := []) (lenOf pd__40_41Z rfl) rfl (by show 2 * 0 + _ ≤ _; exact Nat.le_of_eq rfl) (hb hby d26_71) (fun _ _ => ⟨rfl, eh14, (by decide : 1 + 0 ≤ _), (by decide : 4 + 0 ≤ _)⟩)
    dsimp only [Pt.U, Pt.locs, Pt.cells, Pt.slots] at X15 l15 y15 z15 st15 hQ15
    subst l15 y15 z15
    obtain ⟨rfl, N15q, eh15⟩ := hQ15
    have N15 := Fr.app N14 N15q
    have w16 : ∀ t, Steps p.tables e below (T15.setTop (mkF m 84 #[.val (.ref a), .val (.ref l1), .val (.int (2 : Int32)), .val (.int (2 : Int32)), .val (.ref d), .val (.ref z_3)] [(.int (1 : Int32))])) t → Steps p.tables e below (s₁.setTop (entryFrame m #[(.ref a), (.ref l1), (.int (0 : Int32)), (.int (2 : Int32))] 6)) t := fun t k => by
      refine w8 t ?_
      refine XS.ifYes X7.here hx rfl (pc0 := 58) (pc' := 63) rfl (hb hby d26_58) rfl ((if0 _ _).trans (feq hc58_9).2) (by decide) (by decide) ?_
      show Steps p.tables e below (T7.setTop (mkF m 63 #[.val (.ref a), .val (.ref l1), .val (.int (0 : Int32)), .val (.int (2 : Int32)), .val (.ref d), .val (.ref z_3)] [])) _
      refine XS.iinc X7.here hx rfl (hb hby d26_63) rfl (l' := #[.val (.ref a), .val (.ref l1), .val (.int (1 : Int32)), .val (.int (2 : Int32)), .val (.ref d), .val (.ref z_3)]) rfl ?_
      show Steps p.tables e below (T7.setTop (mkF m 66 #[.val (.ref a), .val (.ref l1), .val (.int (1 : Int32)), .val (.int (2 : Int32)), .val (.ref d), .val (.ref z_3)] [])) _
      refine XS.goto X7.here hx rfl (pc0 := 66) (pc' := 29) rfl (hb hby d26_66) (by decide) (by decide) ?_
      show Steps p.tables e below (T7.setTop (mkF m 29 #[.val (.ref a), .val (.ref l1), .val (.int (1 : Int32)), .val (.int (2 : Int32)), .val (.ref d), .val (.ref z_3)] [])) _
      refine XS.iloadN X7.here hx rfl (hb hby d26_29) rfl ?_
      show Steps p.tables e below (T7.setTop (mkF m 30 #[.val (.ref a), .val (.ref l1), .val (.int (1 : Int32)), .val (.int (2 : Int32)), .val (.ref d), .val (.ref z_3)] [(.int (1 : Int32))])) _
      refine XS.iloadN X7.here hx rfl (hb hby d26_30) rfl ?_
      show Steps p.tables e below (T7.setTop (mkF m 31 #[.val (.ref a), .val (.ref l1), .val (.int (1 : Int32)), .val (.int (2 : Int32)), .val (.ref d), .val (.ref z_3)] [(.int (2 : Int32)), (.int (1 : Int32))])) _
      refine XS.icmpNo X7.here hx rfl (hb hby d26_31) rfl (tlt ((by decide) : (1 : Int32) < (2 : Int32))).2.1 ?_
      show Steps p.tables e below (T7.setTop (mkF m 34 #[.val (.ref a), .val (.ref l1), .val (.int (1 : Int32)), .val (.int (2 : Int32)), .val (.ref d), .val (.ref z_3)] [])) _
      refine XS.aload X7.here hx rfl (hb hby d26_34) rfl rfl ?_
      show Steps p.tables e below (T7.setTop (mkF m 36 #[.val (.ref a), .val (.ref l1), .val (.int (1 : Int32)), .val (.int (2 : Int32)), .val (.ref d), .val (.ref z_3)] [(.ref z_3)])) _
      refine st11.trans ?_
      show Steps p.tables e below (T11.setTop (mkF m 41 #[.val (.ref a), .val (.ref l1), .val (.int (1 : Int32)), .val (.int (2 : Int32)), .val (.ref d), .val (.ref z_3)] [(.int (1 : Int32))])) _
      refine XS.ifNo X11.here hx rfl (hb hby d26_41) rfl ((if0 _ _).trans (feq ((by decide) : ¬ ((1 : Int32) = (0 : Int32)))).1) ?_
      show Steps p.tables e below (T11.setTop (mkF m 44 #[.val (.ref a), .val (.ref l1), .val (.int (1 : Int32)), .val (.int (2 : Int32)), .val (.ref d), .val (.ref z_3)] [])) _
      refine XS.aload X11.here hx rfl (hb hby d26_44) rfl rfl ?_
      show Steps p.tables e below (T11.setTop (mkF m 46 #[.val (.ref a), .val (.ref l1), .val (.int (1 : Int32)), .val (.int (2 : Int32)), .val (.ref d), .val (.ref z_3)] [(.ref d)])) _
      refine XS.iloadN X11.here hx rfl (hb hby d26_46) rfl ?_
      show Steps p.tables e below (T11.setTop (mkF m 47 #[.val (.ref a), .val (.ref l1), .val (.int (1 : Int32)), .val (.int (2 : Int32)), .val (.ref d), .val (.ref z_3)] [(.int (1 : Int32)), (.ref d)])) _
      refine X11.aaload hx (j := (1 : Int32)) (v := (.ref x2)) (by rw [eh11]; exact Ar12.1) (State.isArrayOf_alike hZ.alike Ar12.2.1) rfl Ar12.2.2 hin12 hat12 (g := (mkF m 47 #[.val (.ref a), .val (.ref l1), .val (.int (1 : Int32)), .val (.int (2 : Int32)), .val (.ref d), .val (.ref z_3)] [(.int (1 : Int32)), (.ref d)])) rfl rfl (hb hby d26_47) _ ?_
      show Steps p.tables e below (T11.setTop (mkF m 48 #[.val (.ref a), .val (.ref l1), .val (.int (1 : Int32)), .val (.int (2 : Int32)), .val (.ref d), .val (.ref z_3)] [(.ref x2)])) _
      refine XS.aload X11.here hx rfl (hb hby d26_48) rfl rfl ?_
      show Steps p.tables e below (T11.setTop (mkF m 50 #[.val (.ref a), .val (.ref l1), .val (.int (1 : Int32)), .val (.int (2 : Int32)), .val (.ref d), .val (.ref z_3)] [(.ref z_3), (.ref x2)])) _
      refine st13.trans ?_
      show Steps p.tables e below (T13.setTop (mkF m 55 #[.val (.ref a), .val (.ref l1), .val (.int (1 : Int32)), .val (.int (2 : Int32)), .val (.ref d), .val (.ref z_3)] [(.ref y2), (.ref x2)])) _
      refine st14 _ ?_
      show Steps p.tables e below (T14.setTop (mkF m 58 #[.val (.ref a), .val (.ref l1), .val (.int (1 : Int32)), .val (.int (2 : Int32)), .val (.ref d), .val (.ref z_3)] [(.int (own_q i j))])) _
      refine XS.ifYes X14.here hx rfl (pc0 := 58) (pc' := 63) rfl (hb hby d26_58) rfl ((if0 _ _).trans (feq (hc58_9 : ¬ ((own_q i j) = (0 : Int32)))).2) (by decide) (by decide) ?_
      show Steps p.tables e below (T14.setTop (mkF m 63 #[.val (.ref a), .val (.ref l1), .val (.int (1 : Int32)), .val (.int (2 : Int32)), .val (.ref d), .val (.ref z_3)] [])) _
      refine XS.iinc X14.here hx rfl (hb hby d26_63) rfl (l' := #[.val (.ref a), .val (.ref l1), .val (.int (2 : Int32)), .val (.int (2 : Int32)), .val (.ref d), .val (.ref z_3)]) rfl ?_
      show Steps p.tables e below (T14.setTop (mkF m 66 #[.val (.ref a), .val (.ref l1), .val (.int (2 : Int32)), .val (.int (2 : Int32)), .val (.ref d), .val (.ref z_3)] [])) _
      refine XS.goto X14.here hx rfl (pc0 := 66) (pc' := 29) rfl (hb hby d26_66) (by decide) (by decide) ?_
      show Steps p.tables e below (T14.setTop (mkF m 29 #[.val (.ref a), .val (.ref l1), .val (.int (2 : Int32)), .val (.int (2 : Int32)), .val (.ref d), .val (.ref z_3)] [])) _
      refine XS.iloadN X14.here hx rfl (hb hby d26_29) rfl ?_
      show Steps p.tables e below (T14.setTop (mkF m 30 #[.val (.ref a), .val (.ref l1), .val (.int (2 : Int32)), .val (.int (2 : Int32)), .val (.ref d), .val (.ref z_3)] [(.int (2 : Int32))])) _
      refine XS.iloadN X14.here hx rfl (hb hby d26_30) rfl ?_
      show Steps p.tables e below (T14.setTop (mkF m 31 #[.val (.ref a), .val (.ref l1), .val (.int (2 : Int32)), .val (.int (2 : Int32)), .val (.ref d), .val (.ref z_3)] [(.int (2 : Int32)), (.int (2 : Int32))])) _
      refine XS.icmpYes X14.here hx rfl (pc0 := 31) (pc' := 69) rfl (hb hby d26_31) rfl (flt ((by decide) : ¬ ((2 : Int32) < (2 : Int32)))).2.1 (by decide) (by decide) ?_
      show Steps p.tables e below (T14.setTop (mkF m 69 #[.val (.ref a), .val (.ref l1), .val (.int (2 : Int32)), .val (.int (2 : Int32)), .val (.ref d), .val (.ref z_3)] [])) _
      refine XS.aload X14.here hx rfl (hb hby d26_69) rfl rfl ?_
      show Steps p.tables e below (T14.setTop (mkF m 71 #[.val (.ref a), .val (.ref l1), .val (.int (2 : Int32)), .val (.int (2 : Int32)), .val (.ref d), .val (.ref z_3)] [(.ref z_3)])) _
      refine st15.trans ?_
      show Steps p.tables e below (T15.setTop (mkF m 76 #[.val (.ref a), .val (.ref l1), .val (.int (2 : Int32)), .val (.int (2 : Int32)), .val (.ref d), .val (.ref z_3)] [(.int (0 : Int32))])) _
      refine XS.ifNo X15.here hx rfl (hb hby d26_76) rfl ((if0 _ _).trans (teq (rfl : (0 : Int32) = (0 : Int32))).2) ?_
      show Steps p.tables e below (T15.setTop (mkF m 79 #[.val (.ref a), .val (.ref l1), .val (.int (2 : Int32)), .val (.int (2 : Int32)), .val (.ref d), .val (.ref z_3)] [])) _
      refine XS.iconst X15.here hx rfl (hb hby d26_79) ?_
      show Steps p.tables e below (T15.setTop (mkF m 80 #[.val (.ref a), .val (.ref l1), .val (.int (2 : Int32)), .val (.int (2 : Int32)), .val (.ref d), .val (.ref z_3)] [(.int (1 : Int32))])) _
      refine XS.goto X15.here hx rfl (pc0 := 80) (pc' := 84) rfl (hb hby d26_80) (by decide) (by decide) ?_
      show Steps p.tables e below (T15.setTop (mkF m 84 #[.val (.ref a), .val (.ref l1), .val (.int (2 : Int32)), .val (.int (2 : Int32)), .val (.ref d), .val (.ref z_3)] [(.int (1 : Int32))])) _
      exact k
    obtain ⟨fs, hr, hrun, hended, hW, hsame⟩ := X15.leave (v := some (.int (1 : Int32))) (fun h => by rw [Bd.returns] at h; cases h)
    refine ⟨_, _, w16 _ ?_, hrun, hended, _, _, rfl, ?_, ⟨_, rfl⟩, hW, hsame.mono (by decide) (by decide)⟩
    · exact retN X15 hx (t := .boolean) Bd.returns (by simp) (hb hby d26_84) hr
    · show Q26 Z a l1 d kb x1 x2 y1 y2 i j s_EMPTY h0 n0 _ T15.heap _
      rw [eh15]
      exact ⟨(by rw [own_q1 hc58_9]), N15, K⟩
theorem d35_0 : decode jdk_38_method_35_code 0 = .ok (.aload_n 0, 1) := by decide +kernel
theorem d35_1 : decode jdk_38_method_35_code 1 = .ok (.getfield 63, 3) := by decide +kernel
theorem d35_4 : decode jdk_38_method_35_code 4 = .ok (.iload_n 1, 1) := by decide +kernel
theorem d35_5 : decode jdk_38_method_35_code 5 = .ok (.if_icmp .eq 11, 3) := by decide +kernel
theorem d35_16 : decode jdk_38_method_35_code 16 = .ok (.return_, 1) := by decide +kernel
theorem ef_35 (m : MethodId) (x0 : Addr) (x1 : Int32) : entryFrame m #[(.ref x0), (.int x1)] 2 = mkF m 0 #[.val (.ref x0), .val (.int x1)] [] := by first | (simp [entryFrame, mkF, argsToLocals, Value.category]; done) | rfl
def Q35 (Z : State) (a : Addr) (m1 : Int32) (h0 : Heap) (n0 : Nat) (v : Option Value) (h : Heap) (L : List Loc) : Prop := v = none ∧ Fr n0 L ∧ h = h0
set_option maxRecDepth 65536 in
set_option maxHeartbeats 40000000 in
theorem rm35 (l : Launch) (Z : State) (a0 : Array Value) (hw : ∀ d ∈ tables_1, d.before a0 Z = true) (ws : List Jvm.Cond) (a : Addr) (m1 : Int32) (h0 : Heap) (n0 : Nat) (O0 : Old Z n0 h0) (F_m_a : Fld Z h0 a "java/util/AbstractList" "modCount" "I" (.int m1)) :
    MetFree l (⟨"java/util/ArrayList", "checkForComodification", "(I)V"⟩ : MethodName) (head1 (Jvm.Cond.code (⟨"java/util/ArrayList", "checkForComodification", "(I)V"⟩ : MethodName) jdk_38_method_35_code 2 none :: ws) ({ frames := 0, cells := 0, slots := 0, locals := 0 } : Room)) (fun aA uU => aA = #[(.ref a), (.int m1)] ∧ Z.Warmed39 uU.vm ∧ uU.heap = h0) (fun _ _ _ _ _ => True) (fun _ uU oO uU' => ∃ vV lL, oO = .returned vV ∧ Q35 Z a m1  h0 n0 vV uU'.heap lL ∧ FrameEnd uU oO uU' lL ({ frames := 0, cells := 0, slots := 0, locals := 0 } : Room).cells ({ frames := 0, cells := 0, slots := 0, locals := 0 } : Room).slots) := by
  refine MetFree.of_bodySF (plainFor_of_name pn_java_util_ArrayList) hisR ?_
  intro p e s m args below meth c s₁ Bd hml0 hP hK
  obtain ⟨rfl, hZ, hh⟩ := hP
  have hx := Bd.exec
  have hby := Bd.bytes
  have hml : c.maxLocals = 2 := hml0
  have hown : s.vm.findClass "java/util/ArrayList" = some m.cls := findClass_of_methodNamed Bd.named
  have hnm := (name_of_methodNamed Bd.named Bd.method).1
  have X0 : Stand p l e ({ frames := 0, cells := 0, slots := 0, locals := 0 } : Room) s m #[(.ref a), (.int m1)] below meth c s₁ [] 0 0 := Stand.of_body Bd
  have e0 : s₁.heap = h0 := by rw [← hh, Bd.state]; rfl
  have N0 := Fr.nil n0
  have O := O0
  have pre0 : ∀ t, Steps p.tables e below (s₁.setTop (mkF m 0 #[.val (.ref a), .val (.int m1)] [])) t → Steps p.tables e below (s₁.setTop (entryFrame m #[(.ref a), (.int m1)] 2)) t := fun t k => castTop (ef_35 m a m1) k
  obtain ⟨T1, X1, e1, st1⟩ := getF X0 hx hZ hown (host := "") (Or.inl (hw _ (List.mem_of_getElem? (i := 42) rfl))) (Via.of (hw _ (List.mem_of_getElem? (i := 43) rfl))) e0 F_m_a (g := (mkF m 1 #[.val (.ref a), .val (.int m1)] [(.ref a)])) rfl rfl (hb hby d35_1)
  have w2 : ∀ t, Steps p.tables e below (T1.setTop (mkF m 16 #[.val (.ref a), .val (.int m1)] [])) t → Steps p.tables e below (s₁.setTop (entryFrame m #[(.ref a), (.int m1)] 2)) t := fun t k => by
    refine pre0 t ?_
    refine XS.aloadN X0.here hx rfl (hb hby d35_0) rfl rfl ?_
    show Steps p.tables e below (s₁.setTop (mkF m 1 #[.val (.ref a), .val (.int m1)] [(.ref a)])) _
    refine st1 _ ?_
    show Steps p.tables e below (T1.setTop (mkF m 4 #[.val (.ref a), .val (.int m1)] [(.int m1)])) _
    refine XS.iloadN X1.here hx rfl (hb hby d35_4) rfl ?_
    show Steps p.tables e below (T1.setTop (mkF m 5 #[.val (.ref a), .val (.int m1)] [(.int m1), (.int m1)])) _
    refine XS.icmpYes X1.here hx rfl (pc0 := 5) (pc' := 16) rfl (hb hby d35_5) rfl (teq (rfl : m1 = m1)).1 (by decide) (by decide) ?_
    show Steps p.tables e below (T1.setTop (mkF m 16 #[.val (.ref a), .val (.int m1)] [])) _
    exact k
  obtain ⟨fs, hr, hrun, hended, hW, hsame⟩ := X1.leave (v := none) (fun _ => rfl)
  refine ⟨_, _, w2 _ ?_, hrun, hended, _, _, rfl, ?_, ⟨_, rfl⟩, hW, hsame.mono (by decide) (by decide)⟩
  · exact X1.returnOut hx Bd.returns (hb hby d35_16) hr
  · show Q35 Z a m1  h0 n0 _ T1.heap _
    rw [e1]
    exact ⟨rfl, N0, rfl⟩
theorem own_gcls {p : Program} {l : Launch} {e : Env} {R : Room} {s : State} {m : MethodId} {args : Array Value} {below : List Frame} {meth : Method} {c : Code} {T : State} {locs : List Loc} {cells slots : Nat} {Z : State} {h : Heap} {a : Addr} (X : Stand p l e R s m args below meth c T locs cells slots) (hx : p.tables.exec = Jvm.exec) (hZ : Z.Warmed39 s.vm) {own C : String} {index : Nat} (hown : s.vm.findClass own = some m.cls)
    (w1 : (Jvm.Cond.methodLink own index ⟨"java/lang/Object", "getClass", "()Ljava/lang/Class;"⟩).before args s = true) (w2 : (Jvm.Cond.declares ⟨"java/lang/Object", "getClass", "()Ljava/lang/Class;"⟩).before args s = true) (w3 : NotFace s ⟨"java/lang/Object", "getClass", "()Ljava/lang/Class;"⟩) (w4 : (Jvm.Cond.selects C ⟨"java/lang/Object", "getClass", "()Ljava/lang/Class;"⟩ ⟨"java/lang/Object", "getClass", "()Ljava/lang/Class;"⟩).before args s = true)
    (w5 : (Jvm.Cond.instanceMethod ⟨"java/lang/Object", "getClass", "()Ljava/lang/Class;"⟩).before args s = true) (w6 : (Jvm.Cond.native ⟨"java/lang/Object", "getClass", "()Ljava/lang/Class;"⟩).before args s = true) (eT : T.heap = h) (E : Exa Z h a C) {mr : Addr} (M : Mir Z C mr)
    {g : JFrame} (hg : g.method = m) (hsize : g.locals.size = c.maxLocals) {rest : List Value} (hs : g.stack = .ref a :: rest) (hd : decode c.code g.pc = .ok (.invokevirtual index, 3)) (hf : 1 ≤ R.frames) {W : Nat} (hW : 2 * g.monitorRoom + (rest.map fun v => v.category).sum ≤ W) (hl : W + (nativeFrameWords "java/lang/Object" "getClass" 1 + 11) ≤ R.locals) :
    ∃ T', Stand p l e R s m args below meth c T' locs cells slots ∧ T'.heap = h ∧ ∀ target, Steps p.tables e below (T'.setTop { g with pc := g.pc + 3, stack := .ref mr :: rest }) target → Steps p.tables e below (T.setTop g) target := by
  obtain ⟨cB, kB, i1, i2, i3⟩ := isOf hZ eT E
  obtain ⟨cc, kc, m1, m2, m3, -⟩ := M
  rw [hZ.alike.findClass] at i1
  cases i1.symm.trans m1
  obtain ⟨k', q, ek⟩ := hZ.alike.2.2 _ _ m2
  obtain ⟨vm', X', st⟩ := X.getClassOf hx hown w1 w2 w3 w4 w5 w6 (by rw [hZ.alike.findClass]; exact m1) i3 q (by rw [ek]; exact m3) hg hsize hs hd hf (by omega)
  exact ⟨_, X', eT, st⟩
theorem own_ldcM {p : Program} {l : Launch} {e : Env} {R : Room} {s : State} {m : MethodId} {args : Array Value} {below : List Frame} {meth : Method} {c : Code} {T : State} {locs : List Loc} {cells slots : Nat} {Z : State} {a0 : Array Value} {h : Heap} (X : Stand p l e R s m args below meth c T locs cells slots) (hx : p.tables.exec = Jvm.exec) (hZ : Z.Warmed39 s.vm) {own C : String} {index : Nat} (hown : s.vm.findClass own = some m.cls)
    (w : (Jvm.Cond.classLink own index C).before a0 Z = true) (eT : T.heap = h) {mr : Addr} (M : Mir Z C mr) {g : JFrame} (hg : g.method = m) (hd : decode c.code g.pc = .ok (.ldc index, 2)) :
    ∃ T', Stand p l e R s m args below meth c T' locs cells slots ∧ T'.heap = h ∧ ∀ target, Steps p.tables e below (T'.setTop { g with pc := g.pc + 2, stack := .ref mr :: g.stack }) target → Steps p.tables e below (T.setTop g) target := by
  obtain ⟨cc, kc, m1, m2, m3, -⟩ := M
  obtain ⟨k', q, ek⟩ := hZ.alike.2.2 _ _ m2
  obtain ⟨vm', X', st⟩ := X.ldcMirror hx hown (mvT hZ w) (a := mr) (by
    have h1 : s.vm.findClass C = some cc := by rw [hZ.alike.findClass]; exact m1
    have h3 : k'.mirror = some mr := by rw [ek]; exact m3
    simp [Term.eval, h1, q, h3]) hg hd
  exact ⟨_, X', eT, st⟩
theorem d25_0 : decode jdk_38_method_32_code 0 = .ok (.aload_n 1, 1) := by decide +kernel
theorem d25_1 : decode jdk_38_method_32_code 1 = .ok (.aload_n 0, 1) := by decide +kernel
theorem d25_2 : decode jdk_38_method_32_code 2 = .ok (.if_acmp .ne 5, 3) := by decide +kernel
theorem d25_7 : decode jdk_38_method_32_code 7 = .ok (.aload_n 1, 1) := by decide +kernel
theorem d25_8 : decode jdk_38_method_32_code 8 = .ok (.instanceof 148, 3) := by decide +kernel
theorem d25_11 : decode jdk_38_method_32_code 11 = .ok (.ifCond .ne 5, 3) := by decide +kernel
theorem d25_16 : decode jdk_38_method_32_code 16 = .ok (.aload_n 0, 1) := by decide +kernel
theorem d25_17 : decode jdk_38_method_32_code 17 = .ok (.getfield 63, 3) := by decide +kernel
theorem d25_20 : decode jdk_38_method_32_code 20 = .ok (.istore_n 2, 1) := by decide +kernel
theorem d25_21 : decode jdk_38_method_32_code 21 = .ok (.aload_n 1, 1) := by decide +kernel
theorem d25_22 : decode jdk_38_method_32_code 22 = .ok (.invokevirtual 111, 3) := by decide +kernel
theorem d25_25 : decode jdk_38_method_32_code 25 = .ok (.ldc 10, 2) := by decide +kernel
theorem d25_27 : decode jdk_38_method_32_code 27 = .ok (.if_acmp .ne 14, 3) := by decide +kernel
theorem d25_41 : decode jdk_38_method_32_code 41 = .ok (.aload_n 0, 1) := by decide +kernel
theorem d25_42 : decode jdk_38_method_32_code 42 = .ok (.aload_n 1, 1) := by decide +kernel
theorem d25_43 : decode jdk_38_method_32_code 43 = .ok (.checkcast 148, 3) := by decide +kernel
theorem d25_46 : decode jdk_38_method_32_code 46 = .ok (.iconst 0, 1) := by decide +kernel
theorem d25_47 : decode jdk_38_method_32_code 47 = .ok (.aload_n 0, 1) := by decide +kernel
theorem d25_48 : decode jdk_38_method_32_code 48 = .ok (.getfield 48, 3) := by decide +kernel
theorem d25_51 : decode jdk_38_method_32_code 51 = .ok (.invokevirtual 154, 3) := by decide +kernel
theorem pd__40Ljava_47util_47List_59II_41Z : parseMethodDescriptor "(Ljava/util/List;II)Z" = some ⟨[(.object "java/util/List"), .int, .int], some .boolean⟩ := by decide +kernel
theorem d25_54 : decode jdk_38_method_32_code 54 = .ok (.istore_n 3, 1) := by decide +kernel
theorem d25_55 : decode jdk_38_method_32_code 55 = .ok (.aload_n 0, 1) := by decide +kernel
theorem d25_56 : decode jdk_38_method_32_code 56 = .ok (.iload_n 2, 1) := by decide +kernel
theorem d25_57 : decode jdk_38_method_32_code 57 = .ok (.invokevirtual 158, 3) := by decide +kernel
theorem d25_60 : decode jdk_38_method_32_code 60 = .ok (.iload_n 3, 1) := by decide +kernel
theorem d25_61 : decode jdk_38_method_32_code 61 = .ok (.ireturn, 1) := by decide +kernel
theorem ef_25 (m : MethodId) (x0 : Addr) (x1 : Addr) : entryFrame m #[(.ref x0), (.ref x1)] 4 = mkF m 0 #[.val (.ref x0), .val (.ref x1), .unset, .unset] [] := by first | (simp [entryFrame, mkF, argsToLocals, Value.category]; done) | rfl
def Q25 (Z : State) (a : Addr) (l1 : Addr) (d : Addr) (kb : ClassId) (x1 : Addr) (x2 : Addr) (y1 : Addr) (y2 : Addr) (i : Int32) (j : Int32) (m12 : Addr) (mal : Addr) (s_EMPTY : Addr) (h0 : Heap) (n0 : Nat) (v : Option Value) (h : Heap) (L : List Loc) : Prop := v = some (.int (own_q i j)) ∧ Fr n0 L ∧ Keep h0 h []
set_option maxRecDepth 65536 in
set_option maxHeartbeats 40000000 in
theorem rm25 (l : Launch) (Z : State) (a0 : Array Value) (hw : ∀ d ∈ tables_1, d.before a0 Z = true) (ws : List Jvm.Cond) (a : Addr) (l1 : Addr) (d : Addr) (kb : ClassId) (x1 : Addr) (x2 : Addr) (y1 : Addr) (y2 : Addr) (i : Int32) (j : Int32) (m12 : Addr) (mal : Addr) (s_EMPTY : Addr) (h0 : Heap) (n0 : Nat) (O0 : Old Z n0 h0) (S_s_EMPTY : Sta Z Z.heap "java/util/ImmutableCollections" "EMPTY" "Ljava/lang/Object;" (.ref s_EMPTY)) (E_a : Exa Z h0 a "java/util/ArrayList") (F_m_a : Fld Z h0 a "java/util/AbstractList" "modCount" "I" (.int (2 : Int32))) (F_e_a : Fld Z h0 a "java/util/ArrayList" "elementData" "[Ljava/lang/Object;" (.ref d)) (F_s_a : Fld Z h0 a "java/util/ArrayList" "size" "I" (.int (2 : Int32))) (V_d : Arv Z h0 d kb (.object "java/lang/Object") (10 : Int32) [(.ref x1), (.ref x2), .null, .null, .null, .null, .null, .null, .null, .null] .null) (E_l1 : Exa Z h0 l1 "java/util/ImmutableCollections$List12") (F_e0_l1 : Fld Z h0 l1 "java/util/ImmutableCollections$List12" "e0" "Ljava/lang/Object;" (.ref y1)) (F_e1_l1 : Fld Z h0 l1 "java/util/ImmutableCollections$List12" "e1" "Ljava/lang/Object;" (.ref y2)) (E_x1 : Exa Z h0 x1 "java/lang/Integer") (F_v_x1 : Fld Z h0 x1 "java/lang/Integer" "value" "I" (.int i)) (E_x2 : Exa Z h0 x2 "java/lang/Integer") (F_v_x2 : Fld Z h0 x2 "java/lang/Integer" "value" "I" (.int i)) (E_y1 : Exa Z h0 y1 "java/lang/Integer") (F_v_y1 : Fld Z h0 y1 "java/lang/Integer" "value" "I" (.int j)) (E_y2 : Exa Z h0 y2 "java/lang/Integer") (F_v_y2 : Fld Z h0 y2 "java/lang/Integer" "value" "I" (.int j)) (E_EMPTY : Exa Z h0 s_EMPTY "java/lang/Object") (M12 : Mir Z "java/util/ImmutableCollections$List12" m12) (MAL : Mir Z "java/util/ArrayList" mal) :
    MetFree l (⟨"java/util/ArrayList", "equals", "(Ljava/lang/Object;)Z"⟩ : MethodName) (head1 (Jvm.Cond.code (⟨"java/util/ArrayList", "equals", "(Ljava/lang/Object;)Z"⟩ : MethodName) jdk_38_method_32_code 4 (some .boolean) :: ws) ({ frames := 4, cells := 1, slots := 4, locals := 56 } : Room)) (fun aA uU => aA = #[(.ref a), (.ref l1)] ∧ Z.Warmed39 uU.vm ∧ uU.heap = h0) (fun _ _ _ _ _ => True) (fun _ uU oO uU' => ∃ vV lL, oO = .returned vV ∧ Q25 Z a l1 d kb x1 x2 y1 y2 i j m12 mal s_EMPTY h0 n0 vV uU'.heap lL ∧ FrameEnd uU oO uU' lL ({ frames := 4, cells := 1, slots := 4, locals := 56 } : Room).cells ({ frames := 4, cells := 1, slots := 4, locals := 56 } : Room).slots) := by
  refine MetFree.of_bodySF (plainFor_of_name pn_java_util_ArrayList) hisR ?_
  intro p e s m args below meth c s₁ Bd hml0 hP hK
  obtain ⟨rfl, hZ, hh⟩ := hP
  have hx := Bd.exec
  have hby := Bd.bytes
  have hml : c.maxLocals = 4 := hml0
  have hown : s.vm.findClass "java/util/ArrayList" = some m.cls := findClass_of_methodNamed Bd.named
  have hnm := (name_of_methodNamed Bd.named Bd.method).1
  have X0 : Stand p l e ({ frames := 4, cells := 1, slots := 4, locals := 56 } : Room) s m #[(.ref a), (.ref l1)] below meth c s₁ [] 0 0 := Stand.of_body Bd
  have e0 : s₁.heap = h0 := by rw [← hh, Bd.state]; rfl
  have N0 := Fr.nil n0
  have O := O0
  have K := Keep.refl h0 []
  have pre0 : ∀ t, Steps p.tables e below (s₁.setTop (mkF m 0 #[.val (.ref a), .val (.ref l1), .unset, .unset] [])) t → Steps p.tables e below (s₁.setTop (entryFrame m #[(.ref a), (.ref l1)] 4)) t := fun t k => castTop (ef_25 m a l1) k
  obtain ⟨T1, X1, e1, st1⟩ := instY X0 hx hZ hown (hw _ (List.mem_of_getElem? (i := 165) rfl)) e0 (Ins.of_exa E_l1 (hw _ (List.mem_of_getElem? (i := 166) rfl))) (g := (mkF m 8 #[.val (.ref a), .val (.ref l1), .unset, .unset] [(.ref l1)])) rfl rfl (hb hby d25_8)
  obtain ⟨T2, X2, e2, st2⟩ := getF X1 hx hZ hown (host := "") (Or.inl (hw _ (List.mem_of_getElem? (i := 42) rfl))) (Via.of (hw _ (List.mem_of_getElem? (i := 43) rfl))) e1 F_m_a (g := (mkF m 17 #[.val (.ref a), .val (.ref l1), .unset, .unset] [(.ref a)])) rfl rfl (hb hby d25_17)
  obtain ⟨T3, X3, e3, st3⟩ := own_gcls X2 hx hZ hown (mvT hZ (hw _ (List.mem_of_getElem? (i := 167) rfl))) (mvT hZ (hw _ (List.mem_of_getElem? (i := 168) rfl))) (notFace_of_selects (args := #[]) (mvT hZ (hw _ (List.mem_of_getElem? (i := 170) rfl)))) (mvT hZ (hw _ (List.mem_of_getElem? (i := 170) rfl))) (mvT hZ (hw _ (List.mem_of_getElem? (i := 169) rfl))) (mvT hZ (hw _ (List.mem_of_getElem? (i := 171) rfl))) e2 E_l1 M12 (g := (mkF m 22 #[.val (.ref a), .val (.ref l1), .val (.int (2 : Int32)), .unset] [(.ref l1)])) rfl (by rw [hml]; rfl) rfl (hb hby d25_22) (by decide) (W := 0) (by show 2 * 0 + _ ≤ _; exact Nat.le_of_eq rfl) (by decide)
  obtain ⟨T4, X4, e4, st4⟩ := own_ldcM X3 hx hZ hown (hw _ (List.mem_of_getElem? (i := 172) rfl)) e3 MAL (g := (mkF m 25 #[.val (.ref a), .val (.ref l1), .val (.int (2 : Int32)), .unset] [(.ref m12)])) rfl (hb hby d25_25)
  obtain ⟨T5, X5, e5, st5⟩ := castY X4 hx hZ hown (hw _ (List.mem_of_getElem? (i := 165) rfl)) e4 (Ins.of_exa E_l1 (hw _ (List.mem_of_getElem? (i := 166) rfl))) (g := (mkF m 43 #[.val (.ref a), .val (.ref l1), .val (.int (2 : Int32)), .unset] [(.ref l1), (.ref a)])) rfl rfl (hb hby d25_43)
  obtain ⟨T6, X6, e6, st6⟩ := getF X5 hx hZ hown (host := "") (Or.inl (hw _ (List.mem_of_getElem? (i := 44) rfl))) Via.refl e5 F_s_a (g := (mkF m 48 #[.val (.ref a), .val (.ref l1), .val (.int (2 : Int32)), .unset] [(.ref a), (.int (0 : Int32)), (.ref l1), (.ref a)])) rfl rfl (hb hby d25_48)
  obtain ⟨cq7, kq7, q7a, q7b, q7c⟩ := isOf hZ e6 E_a
  obtain ⟨_, _, ⟨T7, L7, k7, n7⟩, -, X7, ⟨Lc7, hQ7, l7, y7, z7⟩, st7⟩ := X6.virtualBack hx (y := (⟨"java/util/ArrayList", "equalsRange", "(Ljava/util/List;II)Z"⟩ : MethodName)) (z := (⟨"java/util/ArrayList", "equalsRange", "(Ljava/util/List;II)Z"⟩ : MethodName)) hown (mvT hZ (hw _ (List.mem_of_getElem? (i := 174) rfl))) (mvT hZ (hw _ (List.mem_of_getElem? (i := 175) rfl))) (notFace_of_selects (args := #[]) (mvT hZ (hw _ (List.mem_of_getElem? (i := 177) rfl)))) (mvT hZ (hw _ (List.mem_of_getElem? (i := 177) rfl))) (mvT hZ (hw _ (List.mem_of_getElem? (i := 176) rfl))) (by decide) (backOf (W := 0) (rm26 l Z a0 hw [] a l1 d kb x1 x2 y1 y2 i j s_EMPTY h0 n0 O S_s_EMPTY E_a F_e_a V_d E_l1 F_e0_l1 F_e1_l1 E_x1 F_v_x1 E_x2 F_v_x2 E_y1 F_v_y1 E_y2 F_v_y2 E_EMPTY) hZ (hw _ (List.mem_of_getElem? (i := 178) rfl)) (hw _ (List.mem_of_getElem? (i := 6) rfl)) (by decide) (by decide)) q7a q7c (g := (mkF m 51 #[.val (.ref a), .val (.ref l1), .val (.int (2 : Int32)), .unset] [(.int (2 : Int32)), (.int (0 : Int32)), (.ref l1), (.ref a)])) rfl (by rw [hml]; rfl) (Steps.refl _) (argsL := [(.ref l1), (.int (0 : Int32)), (.int (2 : Int32))]) (rest := []) (lenOf pd__40Ljava_47util_47List_59II_41Z rfl) rfl (by show 2 * 0 + _ ≤ _; exact Nat.le_of_eq rfl) (hb hby d25_51) (fun _ _ => ⟨rfl, e6, (by decide : 0 + 1 ≤ _), (by decide : 0 + 4 ≤ _)⟩)
  dsimp only [Pt.U, Pt.locs, Pt.cells, Pt.slots] at X7 l7 y7 z7 st7 hQ7
  subst l7 y7 z7
  obtain ⟨rfl, N7q, K7⟩ := hQ7
  have N7 := Fr.app N0 N7q
  have E_a := E_a.keep K7
  have F_m_a := F_m_a.keep K7 nin0
  have F_e_a := F_e_a.keep K7 nin0
  have F_s_a := F_s_a.keep K7 nin0
  have V_d := V_d.keep K7 nin0
  have E_l1 := E_l1.keep K7
  have F_e0_l1 := F_e0_l1.keep K7 nin0
  have F_e1_l1 := F_e1_l1.keep K7 nin0
  have E_x1 := E_x1.keep K7
  have F_v_x1 := F_v_x1.keep K7 nin0
  have E_x2 := E_x2.keep K7
  have F_v_x2 := F_v_x2.keep K7 nin0
  have E_y1 := E_y1.keep K7
  have F_v_y1 := F_v_y1.keep K7 nin0
  have E_y2 := E_y2.keep K7
  have F_v_y2 := F_v_y2.keep K7 nin0
  have E_EMPTY := E_EMPTY.keep K7
  have O := O.keep K7 all0
  have K := K.trans K7 all0
  obtain ⟨cq8, q8, q8'⟩ := E_a.cell
  obtain ⟨_, _, ⟨T8, L8, k8, n8⟩, -, X8, ⟨Lc8, hQ8, l8, y8, z8⟩, st8⟩ := X7.privateBack hx (y := (⟨"java/util/ArrayList", "checkForComodification", "(I)V"⟩ : MethodName)) hown (mvT hZ (hw _ (List.mem_of_getElem? (i := 245) rfl))) (mvT hZ (hw _ (List.mem_of_getElem? (i := 246) rfl))) (mvT hZ (hw _ (List.mem_of_getElem? (i := 248) rfl))) (Cond.privateMethod_at (mvP hZ (hw _ (List.mem_of_getElem? (i := 247) rfl)) (args := #[]))) (mvT hZ (hw _ (List.mem_of_getElem? (i := 249) rfl))) (by decide) (backOf (W := 0) (rm35 l Z a0 hw [] a (2 : Int32) T7.heap n0 O F_m_a) hZ (hw _ (List.mem_of_getElem? (i := 249) rfl)) (hw _ (List.mem_of_getElem? (i := 6) rfl)) (by decide) (by decide)) (g := (mkF m 57 #[.val (.ref a), .val (.ref l1), .val (.int (2 : Int32)), .val (.int (own_q i j))] [(.int (2 : Int32)), (.ref a)])) rfl (by rw [hml]; rfl) (Steps.refl _) (a := a) q8 q8' (argsL := [(.int (2 : Int32))]) (rest := []) (lenOf pd__40I_41V rfl) rfl (by show 2 * 0 + _ ≤ _; exact Nat.le_of_eq rfl) (hb hby d25_57) (fun _ _ => ⟨rfl, rfl, (by decide : 1 + 0 ≤ _), (by decide : 4 + 0 ≤ _)⟩)
  dsimp only [Pt.U, Pt.locs, Pt.cells, Pt.slots] at X8 l8 y8 z8 st8 hQ8
  subst l8 y8 z8
  obtain ⟨rfl, N8q, eh8⟩ := hQ8
  have N8 := Fr.app N7 N8q
  have w9 : ∀ t, Steps p.tables e below (T8.setTop (mkF m 61 #[.val (.ref a), .val (.ref l1), .val (.int (2 : Int32)), .val (.int (own_q i j))] [(.int (own_q i j))])) t → Steps p.tables e below (s₁.setTop (entryFrame m #[(.ref a), (.ref l1)] 4)) t := fun t k => by
    refine pre0 t ?_
    refine XS.aloadN X0.here hx rfl (hb hby d25_0) rfl rfl ?_
    show Steps p.tables e below (s₁.setTop (mkF m 1 #[.val (.ref a), .val (.ref l1), .unset, .unset] [(.ref l1)])) _
    refine XS.aloadN X0.here hx rfl (hb hby d25_1) rfl rfl ?_
    show Steps p.tables e below (s₁.setTop (mkF m 2 #[.val (.ref a), .val (.ref l1), .unset, .unset] [(.ref a), (.ref l1)])) _
    refine Jvm.RoadKit.acmp (g := (mkF m 2 #[.val (.ref a), .val (.ref l1), .unset, .unset] [(.ref a), (.ref l1)])) X0 hx rfl rfl rfl (pc0 := 2) (pc' := 7) (same := false) rfl (hb hby d25_2) rfl (decide_eq_false fun q => (Exa.ne E_l1 E_a (by decide)) (Value.ref.inj q)) (by decide) (by decide) ?_
    show Steps p.tables e below (s₁.setTop (mkF m 7 #[.val (.ref a), .val (.ref l1), .unset, .unset] [])) _
    refine XS.aloadN X0.here hx rfl (hb hby d25_7) rfl rfl ?_
    show Steps p.tables e below (s₁.setTop (mkF m 8 #[.val (.ref a), .val (.ref l1), .unset, .unset] [(.ref l1)])) _
    refine st1 _ ?_
    show Steps p.tables e below (T1.setTop (mkF m 11 #[.val (.ref a), .val (.ref l1), .unset, .unset] [(.int (1 : Int32))])) _
    refine XS.ifYes X1.here hx rfl (pc0 := 11) (pc' := 16) rfl (hb hby d25_11) rfl ((if0 _ _).trans (feq ((by decide) : ¬ ((1 : Int32) = (0 : Int32)))).2) (by decide) (by decide) ?_
    show Steps p.tables e below (T1.setTop (mkF m 16 #[.val (.ref a), .val (.ref l1), .unset, .unset] [])) _
    refine XS.aloadN X1.here hx rfl (hb hby d25_16) rfl rfl ?_
    show Steps p.tables e below (T1.setTop (mkF m 17 #[.val (.ref a), .val (.ref l1), .unset, .unset] [(.ref a)])) _
    refine st2 _ ?_
    show Steps p.tables e below (T2.setTop (mkF m 20 #[.val (.ref a), .val (.ref l1), .unset, .unset] [(.int (2 : Int32))])) _
    refine XS.istoreN X2.here hx rfl (hb hby d25_20) rfl (l' := #[.val (.ref a), .val (.ref l1), .val (.int (2 : Int32)), .unset]) rfl ?_
    show Steps p.tables e below (T2.setTop (mkF m 21 #[.val (.ref a), .val (.ref l1), .val (.int (2 : Int32)), .unset] [])) _
    refine XS.aloadN X2.here hx rfl (hb hby d25_21) rfl rfl ?_
    show Steps p.tables e below (T2.setTop (mkF m 22 #[.val (.ref a), .val (.ref l1), .val (.int (2 : Int32)), .unset] [(.ref l1)])) _
    refine st3 _ ?_
    show Steps p.tables e below (T3.setTop (mkF m 25 #[.val (.ref a), .val (.ref l1), .val (.int (2 : Int32)), .unset] [(.ref m12)])) _
    refine st4 _ ?_
    show Steps p.tables e below (T4.setTop (mkF m 27 #[.val (.ref a), .val (.ref l1), .val (.int (2 : Int32)), .unset] [(.ref mal), (.ref m12)])) _
    refine Jvm.RoadKit.acmp (g := (mkF m 27 #[.val (.ref a), .val (.ref l1), .val (.int (2 : Int32)), .unset] [(.ref mal), (.ref m12)])) X4 hx rfl rfl rfl (pc0 := 27) (pc' := 41) (same := false) rfl (hb hby d25_27) rfl (decide_eq_false fun q => (Mir.ne M12 MAL (by decide)) (Value.ref.inj q)) (by decide) (by decide) ?_
    show Steps p.tables e below (T4.setTop (mkF m 41 #[.val (.ref a), .val (.ref l1), .val (.int (2 : Int32)), .unset] [])) _
    refine XS.aloadN X4.here hx rfl (hb hby d25_41) rfl rfl ?_
    show Steps p.tables e below (T4.setTop (mkF m 42 #[.val (.ref a), .val (.ref l1), .val (.int (2 : Int32)), .unset] [(.ref a)])) _
    refine XS.aloadN X4.here hx rfl (hb hby d25_42) rfl rfl ?_
    show Steps p.tables e below (T4.setTop (mkF m 43 #[.val (.ref a), .val (.ref l1), .val (.int (2 : Int32)), .unset] [(.ref l1), (.ref a)])) _
    refine st5 _ ?_
    show Steps p.tables e below (T5.setTop (mkF m 46 #[.val (.ref a), .val (.ref l1), .val (.int (2 : Int32)), .unset] [(.ref l1), (.ref a)])) _
    refine XS.iconst X5.here hx rfl (hb hby d25_46) ?_
    show Steps p.tables e below (T5.setTop (mkF m 47 #[.val (.ref a), .val (.ref l1), .val (.int (2 : Int32)), .unset] [(.int (0 : Int32)), (.ref l1), (.ref a)])) _
    refine XS.aloadN X5.here hx rfl (hb hby d25_47) rfl rfl ?_
    show Steps p.tables e below (T5.setTop (mkF m 48 #[.val (.ref a), .val (.ref l1), .val (.int (2 : Int32)), .unset] [(.ref a), (.int (0 : Int32)), (.ref l1), (.ref a)])) _
    refine st6 _ ?_
    show Steps p.tables e below (T6.setTop (mkF m 51 #[.val (.ref a), .val (.ref l1), .val (.int (2 : Int32)), .unset] [(.int (2 : Int32)), (.int (0 : Int32)), (.ref l1), (.ref a)])) _
    refine st7.trans ?_
    show Steps p.tables e below (T7.setTop (mkF m 54 #[.val (.ref a), .val (.ref l1), .val (.int (2 : Int32)), .unset] [(.int (own_q i j))])) _
    refine XS.istoreN X7.here hx rfl (hb hby d25_54) rfl (l' := #[.val (.ref a), .val (.ref l1), .val (.int (2 : Int32)), .val (.int (own_q i j))]) rfl ?_
    show Steps p.tables e below (T7.setTop (mkF m 55 #[.val (.ref a), .val (.ref l1), .val (.int (2 : Int32)), .val (.int (own_q i j))] [])) _
    refine XS.aloadN X7.here hx rfl (hb hby d25_55) rfl rfl ?_
    show Steps p.tables e below (T7.setTop (mkF m 56 #[.val (.ref a), .val (.ref l1), .val (.int (2 : Int32)), .val (.int (own_q i j))] [(.ref a)])) _
    refine XS.iloadN X7.here hx rfl (hb hby d25_56) rfl ?_
    show Steps p.tables e below (T7.setTop (mkF m 57 #[.val (.ref a), .val (.ref l1), .val (.int (2 : Int32)), .val (.int (own_q i j))] [(.int (2 : Int32)), (.ref a)])) _
    refine st8.trans ?_
    show Steps p.tables e below (T8.setTop (mkF m 60 #[.val (.ref a), .val (.ref l1), .val (.int (2 : Int32)), .val (.int (own_q i j))] [])) _
    refine XS.iloadN X8.here hx rfl (hb hby d25_60) rfl ?_
    show Steps p.tables e below (T8.setTop (mkF m 61 #[.val (.ref a), .val (.ref l1), .val (.int (2 : Int32)), .val (.int (own_q i j))] [(.int (own_q i j))])) _
    exact k
  obtain ⟨fs, hr, hrun, hended, hW, hsame⟩ := X8.leave (v := some (.int ((own_q i j) &&& 1))) (fun h => by rw [Bd.returns] at h; cases h)
  refine ⟨_, _, w9 _ ?_, hrun, hended, _, _, rfl, ?_, ⟨_, rfl⟩, hW, hsame.mono (by decide) (by decide)⟩
  · exact retN X8 hx (t := .boolean) Bd.returns (by simp) (hb hby d25_61) hr
  · show Q25 Z a l1 d kb x1 x2 y1 y2 i j m12 mal s_EMPTY h0 n0 _ T8.heap _
    rw [eh8]
    exact ⟨(by rw [own_and]), N8, K⟩

theorem d36_0 : decode prog_70_method_1_code 0 = .ok (.aload_n 0, 1) := by decide +kernel
theorem d36_1 : decode prog_70_method_1_code 1 = .ok (.invokespecial 1, 3) := by decide +kernel
theorem d36_4 : decode prog_70_method_1_code 4 = .ok (.aload_n 0, 1) := by decide +kernel
theorem d36_5 : decode prog_70_method_1_code 5 = .ok (.iload_n 1, 1) := by decide +kernel
theorem d36_6 : decode prog_70_method_1_code 6 = .ok (.putfield 7, 3) := by decide +kernel
theorem d36_9 : decode prog_70_method_1_code 9 = .ok (.aload_n 0, 1) := by decide +kernel
theorem d36_10 : decode prog_70_method_1_code 10 = .ok (.aload_n 2, 1) := by decide +kernel
theorem d36_11 : decode prog_70_method_1_code 11 = .ok (.putfield 13, 3) := by decide +kernel
theorem d36_14 : decode prog_70_method_1_code 14 = .ok (.aload_n 0, 1) := by decide +kernel
theorem d36_15 : decode prog_70_method_1_code 15 = .ok (.iload_n 3, 1) := by decide +kernel
theorem d36_16 : decode prog_70_method_1_code 16 = .ok (.putfield 17, 3) := by decide +kernel
theorem d36_19 : decode prog_70_method_1_code 19 = .ok (.aload_n 0, 1) := by decide +kernel
theorem d36_20 : decode prog_70_method_1_code 20 = .ok (.iload 4, 2) := by decide +kernel
theorem d36_22 : decode prog_70_method_1_code 22 = .ok (.putfield 20, 3) := by decide +kernel
theorem d36_25 : decode prog_70_method_1_code 25 = .ok (.return_, 1) := by decide +kernel
theorem pn_com_example_hantei_hantei_packs_plandice_PlanDiceCheck_Resolution : plainName "com/example/hantei/hantei/packs/plandice/PlanDiceCheck$Resolution" = true := by first | (simp [plainName, overriddenIn]; done) | decide +kernel
theorem ef_36 (m : MethodId) (x0 : Addr) (x1 : Int32) (x2 : Addr) (x3 : Int32) (x4 : Int32) : entryFrame m #[(.ref x0), (.int x1), (.ref x2), (.int x3), (.int x4)] 5 = mkF m 0 #[.val (.ref x0), .val (.int x1), .val (.ref x2), .val (.int x3), .val (.int x4)] [] := by first | (simp [entryFrame, mkF, argsToLocals, Value.category]; done) | rfl
def Q36 (Z : State) (a : Addr) (i1 : Int32) (s1 : Addr) (i2 : Int32) (i3 : Int32) (h0 : Heap) (n0 : Nat) (v : Option Value) (h : Heap) (L : List Loc) : Prop := v = none ∧ Fr n0 L ∧ Keep h0 h [a] ∧ Fld Z h a "com/example/hantei/hantei/packs/plandice/PlanDiceCheck$Resolution" "special" "Lcom/example/hantei/hantei/engine/Special;" (.ref s1)
set_option maxRecDepth 65536 in
set_option maxHeartbeats 40000000 in
theorem rm36 (l : Launch) (Z : State) (a0 : Array Value) (hw : ∀ d ∈ tables_1, d.before a0 Z = true) (ws : List Jvm.Cond) (a : Addr) (i1 : Int32) (s1 : Addr) (i2 : Int32) (i3 : Int32) (h0 : Heap) (n0 : Nat) (O0 : Old Z n0 h0) (E_a : Exa Z h0 a "com/example/hantei/hantei/packs/plandice/PlanDiceCheck$Resolution") (F_diceValue_a : Fld Z h0 a "com/example/hantei/hantei/packs/plandice/PlanDiceCheck$Resolution" "diceValue" "I" (.int (0 : Int32))) (F_special_a : Fld Z h0 a "com/example/hantei/hantei/packs/plandice/PlanDiceCheck$Resolution" "special" "Lcom/example/hantei/hantei/engine/Special;" .null) (F_successValue_a : Fld Z h0 a "com/example/hantei/hantei/packs/plandice/PlanDiceCheck$Resolution" "successValue" "I" (.int (0 : Int32))) (F_succeeded_a : Fld Z h0 a "com/example/hantei/hantei/packs/plandice/PlanDiceCheck$Resolution" "succeeded" "Z" (.int (0 : Int32))) (g_a : n0 ≤ a) :
    MetFree l (⟨"com/example/hantei/hantei/packs/plandice/PlanDiceCheck$Resolution", "<init>", "(ILcom/example/hantei/hantei/engine/Special;IZ)V"⟩ : MethodName) (head1 (Jvm.Cond.code (⟨"com/example/hantei/hantei/packs/plandice/PlanDiceCheck$Resolution", "<init>", "(ILcom/example/hantei/hantei/engine/Special;IZ)V"⟩ : MethodName) prog_70_method_1_code 5 none :: ws) ({ frames := 2, cells := 0, slots := 0, locals := 24 } : Room)) (fun aA uU => aA = #[(.ref a), (.int i1), (.ref s1), (.int i2), (.int i3)] ∧ Z.Warmed39 uU.vm ∧ uU.heap = h0) (fun _ _ _ _ _ => True) (fun _ uU oO uU' => ∃ vV lL, oO = .returned vV ∧ Q36 Z a i1 s1 i2 i3  h0 n0 vV uU'.heap lL ∧ FrameEnd uU oO uU' lL ({ frames := 2, cells := 0, slots := 0, locals := 24 } : Room).cells ({ frames := 2, cells := 0, slots := 0, locals := 24 } : Room).slots) := by
  refine MetFree.of_bodySF (plainFor_of_name pn_com_example_hantei_hantei_packs_plandice_PlanDiceCheck_Resolution) hisR ?_
  intro p e s m args below meth c s₁ Bd hml0 hP hK
  obtain ⟨rfl, hZ, hh⟩ := hP
  have hx := Bd.exec
  have hby := Bd.bytes
  have hml : c.maxLocals = 5 := hml0
  have hown : s.vm.findClass "com/example/hantei/hantei/packs/plandice/PlanDiceCheck$Resolution" = some m.cls := findClass_of_methodNamed Bd.named
  have hnm := (name_of_methodNamed Bd.named Bd.method).1
  have X0 : Stand p l e ({ frames := 2, cells := 0, slots := 0, locals := 24 } : Room) s m #[(.ref a), (.int i1), (.ref s1), (.int i2), (.int i3)] below meth c s₁ [] 0 0 := Stand.of_body Bd
  have e0 : s₁.heap = h0 := by rw [← hh, Bd.state]; rfl
  have N0 := Fr.nil n0
  have O := O0
  have K := Keep.refl h0 [a]
  have pre0 : ∀ t, Steps p.tables e below (s₁.setTop (mkF m 0 #[.val (.ref a), .val (.int i1), .val (.ref s1), .val (.int i2), .val (.int i3)] [])) t → Steps p.tables e below (s₁.setTop (entryFrame m #[(.ref a), (.int i1), (.ref s1), (.int i2), (.int i3)] 5)) t := fun t k => castTop (ef_36 m a i1 s1 i2 i3) k
  obtain ⟨_, _, ⟨T1, L1, k1, n1⟩, -, X1, ⟨Lc1, hQ1, l1, y1, z1⟩, st1⟩ := X0.specialBack hx (y := (⟨"java/lang/Record", "<init>", "()V"⟩ : MethodName)) rfl hown (mvT hZ (hw _ (List.mem_of_getElem? (i := 256) rfl))) (mvT hZ (hw _ (List.mem_of_getElem? (i := 74) rfl))) (mvT hZ (hw _ (List.mem_of_getElem? (i := 77) rfl))) (by decide) (backOf (W := 0) (rm13 l Z a0 hw [] a h0 n0 O ) hZ (hw _ (List.mem_of_getElem? (i := 77) rfl)) (hw _ (List.mem_of_getElem? (i := 76) rfl)) (by decide) (by decide)) (g := (mkF m 1 #[.val (.ref a), .val (.int i1), .val (.ref s1), .val (.int i2), .val (.int i3)] [(.ref a)])) rfl (by rw [hml]; rfl) (Steps.refl _) (a := a) (argsL := []) (rest := []) (lenOf pd__40_41V rfl) rfl (by show 2 * 0 + _ ≤ _; exact Nat.le_of_eq rfl) (hb hby d36_1) (fun _ _ => ⟨rfl, e0, (by decide : 0 + 0 ≤ _), (by decide : 0 + 0 ≤ _)⟩)
  dsimp only [Pt.U, Pt.locs, Pt.cells, Pt.slots] at X1 l1 y1 z1 st1 hQ1
  subst l1 y1 z1
  obtain ⟨rfl, N1q, eh1⟩ := hQ1
  have N1 := Fr.app N0 N1q
  obtain ⟨T2, h2, X2, e2, W2, st2⟩ := putF X1 hx hZ hown (host := "") (Or.inl (hw _ (List.mem_of_getElem? (i := 257) rfl))) Via.refl eh1 F_diceValue_a E_a (Or.inr ⟨(hw _ (List.mem_of_getElem? (i := 258) rfl)), rfl, hnm⟩) (hw _ (List.mem_of_getElem? (i := 251) rfl)) (ty := .int) (by decide) rfl rfl (g := (mkF m 6 #[.val (.ref a), .val (.int i1), .val (.ref s1), .val (.int i2), .val (.int i3)] [(.int i1), (.ref a)])) rfl rfl (hb hby d36_6)
  have F_diceValue_a := F_diceValue_a.same W2
  have E_a := E_a.wr W2
  have F_special_a := F_special_a.other W2 (Or.inr (slot_ne (Or.inr (hw _ (List.mem_of_getElem? (i := 260) rfl))) (Or.inr (hw _ (List.mem_of_getElem? (i := 258) rfl))) (by decide) (t := (.object "com/example/hantei/hantei/engine/Special")) (t' := .int) (by decide) (by decide)))
  have F_successValue_a := F_successValue_a.other W2 (Or.inr (slot_ne (Or.inr (hw _ (List.mem_of_getElem? (i := 262) rfl))) (Or.inr (hw _ (List.mem_of_getElem? (i := 258) rfl))) (by decide) (t := .int) (t' := .int) (by decide) (by decide)))
  have F_succeeded_a := F_succeeded_a.other W2 (Or.inr (slot_ne (Or.inr (hw _ (List.mem_of_getElem? (i := 264) rfl))) (Or.inr (hw _ (List.mem_of_getElem? (i := 258) rfl))) (by decide) (t := .boolean) (t' := .int) (by decide) (by decide)))
  have O := O.wr W2 g_a
  have K := K.wr W2 (Or.inl (List.mem_of_getElem? (i := 0) rfl))
  have N2 := Fr.snoc X2 N1 g_a
  obtain ⟨T3, h3, X3, e3, W3, st3⟩ := putF X2 hx hZ hown (host := "") (Or.inl (hw _ (List.mem_of_getElem? (i := 259) rfl))) Via.refl e2 F_special_a E_a (Or.inr ⟨(hw _ (List.mem_of_getElem? (i := 260) rfl)), rfl, hnm⟩) (hw _ (List.mem_of_getElem? (i := 251) rfl)) (ty := (.object "com/example/hantei/hantei/engine/Special")) (by decide) rfl rfl (g := (mkF m 11 #[.val (.ref a), .val (.int i1), .val (.ref s1), .val (.int i2), .val (.int i3)] [(.ref s1), (.ref a)])) rfl rfl (hb hby d36_11)
  have F_special_a := F_special_a.same W3
  have E_a := E_a.wr W3
  have F_diceValue_a := F_diceValue_a.other W3 (Or.inr (slot_ne (Or.inr (hw _ (List.mem_of_getElem? (i := 258) rfl))) (Or.inr (hw _ (List.mem_of_getElem? (i := 260) rfl))) (by decide) (t := .int) (t' := (.object "com/example/hantei/hantei/engine/Special")) (by decide) (by decide)))
  have F_successValue_a := F_successValue_a.other W3 (Or.inr (slot_ne (Or.inr (hw _ (List.mem_of_getElem? (i := 262) rfl))) (Or.inr (hw _ (List.mem_of_getElem? (i := 260) rfl))) (by decide) (t := .int) (t' := (.object "com/example/hantei/hantei/engine/Special")) (by decide) (by decide)))
  have F_succeeded_a := F_succeeded_a.other W3 (Or.inr (slot_ne (Or.inr (hw _ (List.mem_of_getElem? (i := 264) rfl))) (Or.inr (hw _ (List.mem_of_getElem? (i := 260) rfl))) (by decide) (t := .boolean) (t' := (.object "com/example/hantei/hantei/engine/Special")) (by decide) (by decide)))
  have O := O.wr W3 g_a
  have K := K.wr W3 (Or.inl (List.mem_of_getElem? (i := 0) rfl))
  have N3 := Fr.snoc X3 N2 g_a
  obtain ⟨T4, h4, X4, e4, W4, st4⟩ := putF X3 hx hZ hown (host := "") (Or.inl (hw _ (List.mem_of_getElem? (i := 261) rfl))) Via.refl e3 F_successValue_a E_a (Or.inr ⟨(hw _ (List.mem_of_getElem? (i := 262) rfl)), rfl, hnm⟩) (hw _ (List.mem_of_getElem? (i := 251) rfl)) (ty := .int) (by decide) rfl rfl (g := (mkF m 16 #[.val (.ref a), .val (.int i1), .val (.ref s1), .val (.int i2), .val (.int i3)] [(.int i2), (.ref a)])) rfl rfl (hb hby d36_16)
  have F_successValue_a := F_successValue_a.same W4
  have E_a := E_a.wr W4
  have F_diceValue_a := F_diceValue_a.other W4 (Or.inr (slot_ne (Or.inr (hw _ (List.mem_of_getElem? (i := 258) rfl))) (Or.inr (hw _ (List.mem_of_getElem? (i := 262) rfl))) (by decide) (t := .int) (t' := .int) (by decide) (by decide)))
  have F_special_a := F_special_a.other W4 (Or.inr (slot_ne (Or.inr (hw _ (List.mem_of_getElem? (i := 260) rfl))) (Or.inr (hw _ (List.mem_of_getElem? (i := 262) rfl))) (by decide) (t := (.object "com/example/hantei/hantei/engine/Special")) (t' := .int) (by decide) (by decide)))
  have F_succeeded_a := F_succeeded_a.other W4 (Or.inr (slot_ne (Or.inr (hw _ (List.mem_of_getElem? (i := 264) rfl))) (Or.inr (hw _ (List.mem_of_getElem? (i := 262) rfl))) (by decide) (t := .boolean) (t' := .int) (by decide) (by decide)))
  have O := O.wr W4 g_a
  have K := K.wr W4 (Or.inl (List.mem_of_getElem? (i := 0) rfl))
  have N4 := Fr.snoc X4 N3 g_a
  obtain ⟨T5, h5, X5, e5, W5, st5⟩ := putFN X4 hx hZ hown (hw _ (List.mem_of_getElem? (i := 263) rfl)) Via.refl e4 F_succeeded_a E_a (Or.inr ⟨(hw _ (List.mem_of_getElem? (i := 264) rfl)), rfl, hnm⟩) (hw _ (List.mem_of_getElem? (i := 251) rfl)) (ty := .boolean) (v' := (.int (i3 &&& 1))) (by decide) rfl (fits_nar_bool _) (g := (mkF m 22 #[.val (.ref a), .val (.int i1), .val (.ref s1), .val (.int i2), .val (.int i3)] [(.int i3), (.ref a)])) rfl rfl (hb hby d36_22)
  have F_succeeded_a := F_succeeded_a.same W5
  have E_a := E_a.wr W5
  have F_diceValue_a := F_diceValue_a.other W5 (Or.inr (slot_ne (Or.inr (hw _ (List.mem_of_getElem? (i := 258) rfl))) (Or.inr (hw _ (List.mem_of_getElem? (i := 264) rfl))) (by decide) (t := .int) (t' := .boolean) (by decide) (by decide)))
  have F_special_a := F_special_a.other W5 (Or.inr (slot_ne (Or.inr (hw _ (List.mem_of_getElem? (i := 260) rfl))) (Or.inr (hw _ (List.mem_of_getElem? (i := 264) rfl))) (by decide) (t := (.object "com/example/hantei/hantei/engine/Special")) (t' := .boolean) (by decide) (by decide)))
  have F_successValue_a := F_successValue_a.other W5 (Or.inr (slot_ne (Or.inr (hw _ (List.mem_of_getElem? (i := 262) rfl))) (Or.inr (hw _ (List.mem_of_getElem? (i := 264) rfl))) (by decide) (t := .int) (t' := .boolean) (by decide) (by decide)))
  have O := O.wr W5 g_a
  have K := K.wr W5 (Or.inl (List.mem_of_getElem? (i := 0) rfl))
  have N5 := Fr.snoc X5 N4 g_a
  have w6 : ∀ t, Steps p.tables e below (T5.setTop (mkF m 25 #[.val (.ref a), .val (.int i1), .val (.ref s1), .val (.int i2), .val (.int i3)] [])) t → Steps p.tables e below (s₁.setTop (entryFrame m #[(.ref a), (.int i1), (.ref s1), (.int i2), (.int i3)] 5)) t := fun t k => by
    refine pre0 t ?_
    refine XS.aloadN X0.here hx rfl (hb hby d36_0) rfl rfl ?_
    show Steps p.tables e below (s₁.setTop (mkF m 1 #[.val (.ref a), .val (.int i1), .val (.ref s1), .val (.int i2), .val (.int i3)] [(.ref a)])) _
    refine st1.trans ?_
    show Steps p.tables e below (T1.setTop (mkF m 4 #[.val (.ref a), .val (.int i1), .val (.ref s1), .val (.int i2), .val (.int i3)] [])) _
    refine XS.aloadN X1.here hx rfl (hb hby d36_4) rfl rfl ?_
    show Steps p.tables e below (T1.setTop (mkF m 5 #[.val (.ref a), .val (.int i1), .val (.ref s1), .val (.int i2), .val (.int i3)] [(.ref a)])) _
    refine XS.iloadN X1.here hx rfl (hb hby d36_5) rfl ?_
    show Steps p.tables e below (T1.setTop (mkF m 6 #[.val (.ref a), .val (.int i1), .val (.ref s1), .val (.int i2), .val (.int i3)] [(.int i1), (.ref a)])) _
    refine st2 _ ?_
    show Steps p.tables e below (T2.setTop (mkF m 9 #[.val (.ref a), .val (.int i1), .val (.ref s1), .val (.int i2), .val (.int i3)] [])) _
    refine XS.aloadN X2.here hx rfl (hb hby d36_9) rfl rfl ?_
    show Steps p.tables e below (T2.setTop (mkF m 10 #[.val (.ref a), .val (.int i1), .val (.ref s1), .val (.int i2), .val (.int i3)] [(.ref a)])) _
    refine XS.aloadN X2.here hx rfl (hb hby d36_10) rfl rfl ?_
    show Steps p.tables e below (T2.setTop (mkF m 11 #[.val (.ref a), .val (.int i1), .val (.ref s1), .val (.int i2), .val (.int i3)] [(.ref s1), (.ref a)])) _
    refine st3 _ ?_
    show Steps p.tables e below (T3.setTop (mkF m 14 #[.val (.ref a), .val (.int i1), .val (.ref s1), .val (.int i2), .val (.int i3)] [])) _
    refine XS.aloadN X3.here hx rfl (hb hby d36_14) rfl rfl ?_
    show Steps p.tables e below (T3.setTop (mkF m 15 #[.val (.ref a), .val (.int i1), .val (.ref s1), .val (.int i2), .val (.int i3)] [(.ref a)])) _
    refine XS.iloadN X3.here hx rfl (hb hby d36_15) rfl ?_
    show Steps p.tables e below (T3.setTop (mkF m 16 #[.val (.ref a), .val (.int i1), .val (.ref s1), .val (.int i2), .val (.int i3)] [(.int i2), (.ref a)])) _
    refine st4 _ ?_
    show Steps p.tables e below (T4.setTop (mkF m 19 #[.val (.ref a), .val (.int i1), .val (.ref s1), .val (.int i2), .val (.int i3)] [])) _
    refine XS.aloadN X4.here hx rfl (hb hby d36_19) rfl rfl ?_
    show Steps p.tables e below (T4.setTop (mkF m 20 #[.val (.ref a), .val (.int i1), .val (.ref s1), .val (.int i2), .val (.int i3)] [(.ref a)])) _
    refine XS.iload X4.here hx rfl (hb hby d36_20) rfl ?_
    show Steps p.tables e below (T4.setTop (mkF m 22 #[.val (.ref a), .val (.int i1), .val (.ref s1), .val (.int i2), .val (.int i3)] [(.int i3), (.ref a)])) _
    refine st5 _ ?_
    show Steps p.tables e below (T5.setTop (mkF m 25 #[.val (.ref a), .val (.int i1), .val (.ref s1), .val (.int i2), .val (.int i3)] [])) _
    exact k
  obtain ⟨fs, hr, hrun, hended, hW, hsame⟩ := X5.leave (v := none) (fun _ => rfl)
  refine ⟨_, _, w6 _ ?_, hrun, hended, _, _, rfl, ?_, ⟨_, rfl⟩, hW, hsame.mono (by decide) (by decide)⟩
  · exact X5.returnOut hx Bd.returns (hb hby d36_25) hr
  · show Q36 Z a i1 s1 i2 i3  h0 n0 _ T5.heap _
    rw [e5]
    exact ⟨rfl, N5, K, F_special_a⟩
theorem d37_0 : decode prog_70_method_6_code 0 = .ok (.aload_n 0, 1) := by decide +kernel
theorem d37_1 : decode prog_70_method_6_code 1 = .ok (.getfield 13, 3) := by decide +kernel
theorem d37_4 : decode prog_70_method_6_code 4 = .ok (.areturn, 1) := by decide +kernel
theorem ef_37 (m : MethodId) (x0 : Addr) : entryFrame m #[(.ref x0)] 1 = mkF m 0 #[.val (.ref x0)] [] := by first | (simp [entryFrame, mkF, argsToLocals, Value.category]; done) | rfl
def Q37 (Z : State) (a : Addr) (s1 : Addr) (h0 : Heap) (n0 : Nat) (v : Option Value) (h : Heap) (L : List Loc) : Prop := v = some (.ref s1) ∧ Fr n0 L ∧ h = h0
set_option maxRecDepth 65536 in
set_option maxHeartbeats 40000000 in
theorem rm37 (l : Launch) (Z : State) (a0 : Array Value) (hw : ∀ d ∈ tables_1, d.before a0 Z = true) (ws : List Jvm.Cond) (a : Addr) (s1 : Addr) (h0 : Heap) (n0 : Nat) (O0 : Old Z n0 h0) (F_special_a : Fld Z h0 a "com/example/hantei/hantei/packs/plandice/PlanDiceCheck$Resolution" "special" "Lcom/example/hantei/hantei/engine/Special;" (.ref s1)) :
    MetFree l (⟨"com/example/hantei/hantei/packs/plandice/PlanDiceCheck$Resolution", "special", "()Lcom/example/hantei/hantei/engine/Special;"⟩ : MethodName) (head1 (Jvm.Cond.code (⟨"com/example/hantei/hantei/packs/plandice/PlanDiceCheck$Resolution", "special", "()Lcom/example/hantei/hantei/engine/Special;"⟩ : MethodName) prog_70_method_6_code 1 (some (.object "com/example/hantei/hantei/engine/Special")) :: ws) ({ frames := 0, cells := 0, slots := 0, locals := 0 } : Room)) (fun aA uU => aA = #[(.ref a)] ∧ Z.Warmed39 uU.vm ∧ uU.heap = h0) (fun _ _ _ _ _ => True) (fun _ uU oO uU' => ∃ vV lL, oO = .returned vV ∧ Q37 Z a s1  h0 n0 vV uU'.heap lL ∧ FrameEnd uU oO uU' lL ({ frames := 0, cells := 0, slots := 0, locals := 0 } : Room).cells ({ frames := 0, cells := 0, slots := 0, locals := 0 } : Room).slots) := by
  refine MetFree.of_bodySF (plainFor_of_name pn_com_example_hantei_hantei_packs_plandice_PlanDiceCheck_Resolution) hisR ?_
  intro p e s m args below meth c s₁ Bd hml0 hP hK
  obtain ⟨rfl, hZ, hh⟩ := hP
  have hx := Bd.exec
  have hby := Bd.bytes
  have hml : c.maxLocals = 1 := hml0
  have hown : s.vm.findClass "com/example/hantei/hantei/packs/plandice/PlanDiceCheck$Resolution" = some m.cls := findClass_of_methodNamed Bd.named
  have hnm := (name_of_methodNamed Bd.named Bd.method).1
  have X0 : Stand p l e ({ frames := 0, cells := 0, slots := 0, locals := 0 } : Room) s m #[(.ref a)] below meth c s₁ [] 0 0 := Stand.of_body Bd
  have e0 : s₁.heap = h0 := by rw [← hh, Bd.state]; rfl
  have N0 := Fr.nil n0
  have O := O0
  have pre0 : ∀ t, Steps p.tables e below (s₁.setTop (mkF m 0 #[.val (.ref a)] [])) t → Steps p.tables e below (s₁.setTop (entryFrame m #[(.ref a)] 1)) t := fun t k => castTop (ef_37 m a) k
  obtain ⟨T1, X1, e1, st1⟩ := getF X0 hx hZ hown (host := "") (Or.inl (hw _ (List.mem_of_getElem? (i := 259) rfl))) Via.refl e0 F_special_a (g := (mkF m 1 #[.val (.ref a)] [(.ref a)])) rfl rfl (hb hby d37_1)
  have w2 : ∀ t, Steps p.tables e below (T1.setTop (mkF m 4 #[.val (.ref a)] [(.ref s1)])) t → Steps p.tables e below (s₁.setTop (entryFrame m #[(.ref a)] 1)) t := fun t k => by
    refine pre0 t ?_
    refine XS.aloadN X0.here hx rfl (hb hby d37_0) rfl rfl ?_
    show Steps p.tables e below (s₁.setTop (mkF m 1 #[.val (.ref a)] [(.ref a)])) _
    refine st1 _ ?_
    show Steps p.tables e below (T1.setTop (mkF m 4 #[.val (.ref a)] [(.ref s1)])) _
    exact k
  obtain ⟨fs, hr, hrun, hended, hW, hsame⟩ := X1.leave (v := some (.ref s1)) (fun h => by rw [Bd.returns] at h; cases h)
  refine ⟨_, _, w2 _ ?_, hrun, hended, _, _, rfl, ?_, ⟨_, rfl⟩, hW, hsame.mono (by decide) (by decide)⟩
  · jvm_step X1.here [X1.here.top, hx, (hb hby d37_4), X1.method', Bd.returns, Value.isRef, FieldType.isReference]
    first | (intro acts; rw [hr _ acts rfl rfl rfl]) | rw [hr _ _ rfl rfl rfl]
    exact Steps.refl _
  · show Q37 Z a s1  h0 n0 _ T1.heap _
    rw [e1]
    exact ⟨rfl, N0, rfl⟩
def own_sp (i : Int32) (x y z : Addr) : Addr := if i = 6 then x else if i = 1 then y else z
theorem own_qn {i j : Int32} (h : own_q i j = 0) : (i = j) = False := by
  unfold own_q at h
  split at h
  · exact absurd h (by decide)
  · rename_i q; exact eq_false q
theorem own_qy {i j : Int32} (h : ¬ own_q i j = 0) : (i = j) = True := by
  unfold own_q at h
  split at h
  · rename_i q; exact eq_true q
  · exact absurd rfl h
theorem d14_0 : decode prog_69_method_3_code 0 = .ok (.getstatic 19, 3) := by decide +kernel
theorem d14_3 : decode prog_69_method_3_code 3 = .ok (.astore_n 2, 1) := by decide +kernel
theorem d14_4 : decode prog_69_method_3_code 4 = .ok (.aload_n 1, 1) := by decide +kernel
theorem d14_5 : decode prog_69_method_3_code 5 = .ok (.iconst 0, 1) := by decide +kernel
theorem d14_6 : decode prog_69_method_3_code 6 = .ok (.invokeinterface 25 2, 5) := by decide +kernel
theorem d14_11 : decode prog_69_method_3_code 11 = .ok (.checkcast 31, 3) := by decide +kernel
theorem d14_14 : decode prog_69_method_3_code 14 = .ok (.invokevirtual 33, 3) := by decide +kernel
theorem d14_17 : decode prog_69_method_3_code 17 = .ok (.istore_n 3, 1) := by decide +kernel
theorem d14_18 : decode prog_69_method_3_code 18 = .ok (.aload_n 1, 1) := by decide +kernel
theorem d14_19 : decode prog_69_method_3_code 19 = .ok (.bipush 6, 2) := by decide +kernel
theorem d14_21 : decode prog_69_method_3_code 21 = .ok (.invokestatic 37, 3) := by decide +kernel
theorem pd__40I_41Ljava_47lang_47Integer_59 : parseMethodDescriptor "(I)Ljava/lang/Integer;" = some ⟨[.int], some (.object "java/lang/Integer")⟩ := by decide +kernel
theorem d14_24 : decode prog_69_method_3_code 24 = .ok (.bipush 6, 2) := by decide +kernel
theorem d14_26 : decode prog_69_method_3_code 26 = .ok (.invokestatic 37, 3) := by decide +kernel
theorem d14_29 : decode prog_69_method_3_code 29 = .ok (.invokestatic 41, 3) := by decide +kernel
theorem pd__40Ljava_47lang_47Object_59Ljava_47lang_47Object_59_41Ljava_47util_47List_59 : parseMethodDescriptor "(Ljava/lang/Object;Ljava/lang/Object;)Ljava/util/List;" = some ⟨[(.object "java/lang/Object"), (.object "java/lang/Object")], some (.object "java/util/List")⟩ := by decide +kernel
theorem d14_32 : decode prog_69_method_3_code 32 = .ok (.invokeinterface 45 2, 5) := by decide +kernel
theorem d14_37 : decode prog_69_method_3_code 37 = .ok (.ifCond .eq 13, 3) := by decide +kernel
theorem d14_50 : decode prog_69_method_3_code 50 = .ok (.aload_n 1, 1) := by decide +kernel
theorem d14_51 : decode prog_69_method_3_code 51 = .ok (.iconst 1, 1) := by decide +kernel
theorem d14_52 : decode prog_69_method_3_code 52 = .ok (.invokestatic 37, 3) := by decide +kernel
theorem d14_55 : decode prog_69_method_3_code 55 = .ok (.iconst 1, 1) := by decide +kernel
theorem d14_56 : decode prog_69_method_3_code 56 = .ok (.invokestatic 37, 3) := by decide +kernel
theorem d14_59 : decode prog_69_method_3_code 59 = .ok (.invokestatic 41, 3) := by decide +kernel
theorem d14_62 : decode prog_69_method_3_code 62 = .ok (.invokeinterface 45 2, 5) := by decide +kernel
theorem d14_67 : decode prog_69_method_3_code 67 = .ok (.ifCond .eq 10, 3) := by decide +kernel
theorem d14_77 : decode prog_69_method_3_code 77 = .ok (.iload_n 3, 1) := by decide +kernel
theorem d14_78 : decode prog_69_method_3_code 78 = .ok (.aload_n 0, 1) := by decide +kernel
theorem d14_79 : decode prog_69_method_3_code 79 = .ok (.getfield 7, 3) := by decide +kernel
theorem d14_82 : decode prog_69_method_3_code 82 = .ok (.iadd, 1) := by decide +kernel
theorem d14_83 : decode prog_69_method_3_code 83 = .ok (.aload_n 0, 1) := by decide +kernel
theorem d14_84 : decode prog_69_method_3_code 84 = .ok (.getfield 13, 3) := by decide +kernel
theorem d14_87 : decode prog_69_method_3_code 87 = .ok (.iadd, 1) := by decide +kernel
theorem d14_88 : decode prog_69_method_3_code 88 = .ok (.istore 4, 2) := by decide +kernel
theorem d14_90 : decode prog_69_method_3_code 90 = .ok (.new 55, 3) := by decide +kernel
theorem d14_93 : decode prog_69_method_3_code 93 = .ok (.dup, 1) := by decide +kernel
theorem d14_94 : decode prog_69_method_3_code 94 = .ok (.iload_n 3, 1) := by decide +kernel
theorem d14_95 : decode prog_69_method_3_code 95 = .ok (.aload_n 2, 1) := by decide +kernel
theorem d14_96 : decode prog_69_method_3_code 96 = .ok (.iload 4, 2) := by decide +kernel
theorem d14_98 : decode prog_69_method_3_code 98 = .ok (.iload 4, 2) := by decide +kernel
theorem d14_100 : decode prog_69_method_3_code 100 = .ok (.aload_n 0, 1) := by decide +kernel
theorem d14_101 : decode prog_69_method_3_code 101 = .ok (.getfield 16, 3) := by decide +kernel
theorem d14_104 : decode prog_69_method_3_code 104 = .ok (.if_icmp .le 7, 3) := by decide +kernel
theorem d14_107 : decode prog_69_method_3_code 107 = .ok (.iconst 1, 1) := by decide +kernel
theorem d14_108 : decode prog_69_method_3_code 108 = .ok (.goto 4, 3) := by decide +kernel
theorem d14_112 : decode prog_69_method_3_code 112 = .ok (.invokespecial 57, 3) := by decide +kernel
theorem pd__40ILcom_47example_47hantei_47hantei_47engine_47Special_59IZ_41V : parseMethodDescriptor "(ILcom/example/hantei/hantei/engine/Special;IZ)V" = some ⟨[.int, (.object "com/example/hantei/hantei/engine/Special"), .int, .boolean], none⟩ := by decide +kernel
theorem d14_115 : decode prog_69_method_3_code 115 = .ok (.areturn, 1) := by decide +kernel
theorem d14_111 : decode prog_69_method_3_code 111 = .ok (.iconst 0, 1) := by decide +kernel
theorem d14_70 : decode prog_69_method_3_code 70 = .ok (.getstatic 52, 3) := by decide +kernel
theorem d14_73 : decode prog_69_method_3_code 73 = .ok (.astore_n 2, 1) := by decide +kernel
theorem d14_74 : decode prog_69_method_3_code 74 = .ok (.bipush (-10), 2) := by decide +kernel
theorem d14_76 : decode prog_69_method_3_code 76 = .ok (.istore_n 3, 1) := by decide +kernel
theorem d14_40 : decode prog_69_method_3_code 40 = .ok (.getstatic 49, 3) := by decide +kernel
theorem d14_43 : decode prog_69_method_3_code 43 = .ok (.astore_n 2, 1) := by decide +kernel
theorem d14_44 : decode prog_69_method_3_code 44 = .ok (.bipush 10, 2) := by decide +kernel
theorem d14_46 : decode prog_69_method_3_code 46 = .ok (.istore_n 3, 1) := by decide +kernel
theorem d14_47 : decode prog_69_method_3_code 47 = .ok (.goto 30, 3) := by decide +kernel
theorem ef_14 (m : MethodId) (x0 : Addr) (x1 : Addr) : entryFrame m #[(.ref x0), (.ref x1)] 5 = mkF m 0 #[.val (.ref x0), .val (.ref x1), .unset, .unset, .unset] [] := by first | (simp [entryFrame, mkF, argsToLocals, Value.category]; done) | rfl
def Q14 (Z : State) (a : Addr) (l1 : Addr) (d : Addr) (kb : ClassId) (x1 : Addr) (x2 : Addr) (i : Int32) (m12 : Addr) (mal : Addr) (cl_s_cacheI : Cell) (s_NONE : Addr) (s_CRITICAL : Addr) (s_FUMBLE : Addr) (s_EMPTY : Addr) (s_cacheI : Addr) (h0 : Heap) (n0 : Nat) (v : Option Value) (h : Heap) (L : List Loc) : Prop := ∃ z : Addr, v = some (.ref z) ∧ Fr n0 L ∧ Keep h0 h [] ∧ Exa Z h z "com/example/hantei/hantei/packs/plandice/PlanDiceCheck$Resolution" ∧ Fld Z h z "com/example/hantei/hantei/packs/plandice/PlanDiceCheck$Resolution" "special" "Lcom/example/hantei/hantei/engine/Special;" (.ref (own_sp i s_CRITICAL s_FUMBLE s_NONE))
set_option maxRecDepth 65536 in
set_option maxHeartbeats 40000000 in
theorem rm14 (l : Launch) (Z : State) (a0 : Array Value) (hw : ∀ d ∈ tables_1, d.before a0 Z = true) (ws : List Jvm.Cond) (a : Addr) (l1 : Addr) (d : Addr) (kb : ClassId) (x1 : Addr) (x2 : Addr) (i : Int32) (m12 : Addr) (mal : Addr) (cl_s_cacheI : Cell) (s_NONE : Addr) (s_CRITICAL : Addr) (s_FUMBLE : Addr) (s_EMPTY : Addr) (s_cacheI : Addr) (h0 : Heap) (n0 : Nat) (O0 : Old Z n0 h0) (S_s_NONE : Sta Z Z.heap "com/example/hantei/hantei/engine/Special" "NONE" "Lcom/example/hantei/hantei/engine/Special;" (.ref s_NONE)) (S_s_CRITICAL : Sta Z Z.heap "com/example/hantei/hantei/engine/Special" "CRITICAL" "Lcom/example/hantei/hantei/engine/Special;" (.ref s_CRITICAL)) (S_s_FUMBLE : Sta Z Z.heap "com/example/hantei/hantei/engine/Special" "FUMBLE" "Lcom/example/hantei/hantei/engine/Special;" (.ref s_FUMBLE)) (S_s_EMPTY : Sta Z Z.heap "java/util/ImmutableCollections" "EMPTY" "Ljava/lang/Object;" (.ref s_EMPTY)) (S_s_cacheI : Sta Z Z.heap "java/lang/Integer$IntegerCache" "cache" "[Ljava/lang/Integer;" (.ref s_cacheI)) (S_high : Sta Z Z.heap "java/lang/Integer$IntegerCache" "high" "I" (.int (127 : Int32))) (E_a : Exa Z h0 a "com/example/hantei/hantei/packs/plandice/PlanDiceCheck") (F_plan_a : Fld Z h0 a "com/example/hantei/hantei/packs/plandice/PlanDiceCheck" "plan" "I" (.int (0 : Int32))) (F_judgement_a : Fld Z h0 a "com/example/hantei/hantei/packs/plandice/PlanDiceCheck" "judgement" "I" (.int (0 : Int32))) (F_target_a : Fld Z h0 a "com/example/hantei/hantei/packs/plandice/PlanDiceCheck" "target" "I" (.int (0 : Int32))) (E_l1 : Exa Z h0 l1 "java/util/ArrayList") (F_m_l1 : Fld Z h0 l1 "java/util/AbstractList" "modCount" "I" (.int (2 : Int32))) (F_e_l1 : Fld Z h0 l1 "java/util/ArrayList" "elementData" "[Ljava/lang/Object;" (.ref d)) (F_s_l1 : Fld Z h0 l1 "java/util/ArrayList" "size" "I" (.int (2 : Int32))) (V_d : Arv Z h0 d kb (.object "java/lang/Object") (10 : Int32) [(.ref x1), (.ref x2), .null, .null, .null, .null, .null, .null, .null, .null] .null) (E_x1 : Exa Z h0 x1 "java/lang/Integer") (F_v_x1 : Fld Z h0 x1 "java/lang/Integer" "value" "I" (.int i)) (E_x2 : Exa Z h0 x2 "java/lang/Integer") (F_v_x2 : Fld Z h0 x2 "java/lang/Integer" "value" "I" (.int i)) (E_EMPTY : Exa Z h0 s_EMPTY "java/lang/Object") (M12 : Mir Z "java/util/ImmutableCollections$List12" m12) (MAL : Mir Z "java/util/ArrayList" mal) (BI : Bxs Z s_cacheI cl_s_cacheI "java/lang/Integer" "I" 256 own_vI) :
    MetFree l (⟨"com/example/hantei/hantei/packs/plandice/PlanDiceCheck", "resolve", "(Ljava/util/List;)Lcom/example/hantei/hantei/packs/plandice/PlanDiceCheck$Resolution;"⟩ : MethodName) (head1 (Jvm.Cond.code (⟨"com/example/hantei/hantei/packs/plandice/PlanDiceCheck", "resolve", "(Ljava/util/List;)Lcom/example/hantei/hantei/packs/plandice/PlanDiceCheck$Resolution;"⟩ : MethodName) prog_69_method_3_code 5 (some (.object "com/example/hantei/hantei/packs/plandice/PlanDiceCheck$Resolution")) :: ws) ({ frames := 6, cells := 9, slots := 20, locals := 77 } : Room)) (fun aA uU => aA = #[(.ref a), (.ref l1)] ∧ Z.Warmed39 uU.vm ∧ uU.heap = h0) (fun _ _ _ _ _ => True) (fun _ uU oO uU' => ∃ vV lL, oO = .returned vV ∧ Q14 Z a l1 d kb x1 x2 i m12 mal cl_s_cacheI s_NONE s_CRITICAL s_FUMBLE s_EMPTY s_cacheI h0 n0 vV uU'.heap lL ∧ FrameEnd uU oO uU' lL ({ frames := 6, cells := 9, slots := 20, locals := 77 } : Room).cells ({ frames := 6, cells := 9, slots := 20, locals := 77 } : Room).slots) := by
  refine MetFree.of_bodySF (plainFor_of_name pn_com_example_hantei_hantei_packs_plandice_PlanDiceCheck) hisR ?_
  intro p e s m args below meth c s₁ Bd hml0 hP hK
  obtain ⟨rfl, hZ, hh⟩ := hP
  have hx := Bd.exec
  have hby := Bd.bytes
  have hml : c.maxLocals = 5 := hml0
  have hown : s.vm.findClass "com/example/hantei/hantei/packs/plandice/PlanDiceCheck" = some m.cls := findClass_of_methodNamed Bd.named
  have hnm := (name_of_methodNamed Bd.named Bd.method).1
  have X0 : Stand p l e ({ frames := 6, cells := 9, slots := 20, locals := 77 } : Room) s m #[(.ref a), (.ref l1)] below meth c s₁ [] 0 0 := Stand.of_body Bd
  have e0 : s₁.heap = h0 := by rw [← hh, Bd.state]; rfl
  have N0 := Fr.nil n0
  have O := O0
  have K := Keep.refl h0 []
  have pre0 : ∀ t, Steps p.tables e below (s₁.setTop (mkF m 0 #[.val (.ref a), .val (.ref l1), .unset, .unset, .unset] [])) t → Steps p.tables e below (s₁.setTop (entryFrame m #[(.ref a), (.ref l1)] 5)) t := fun t k => castTop (ef_14 m a l1) k
  obtain ⟨T1, X1, e1, st1⟩ := getS2 X0 hx hZ hown (host := "") (Or.inl (hw _ (List.mem_of_getElem? (i := 90) rfl))) Via.refl e0 (S_s_NONE.ext O.2) (g := (mkF m 0 #[.val (.ref a), .val (.ref l1), .unset, .unset, .unset] [])) rfl (hb hby d14_0)
  obtain ⟨cq2, kq2, q2a, q2b, q2c⟩ := isOf hZ e1 E_l1
  obtain ⟨_, _, ⟨T2, L2, k2, n2⟩, -, X2, ⟨Lc2, hQ2, l2, y2, z2⟩, st2⟩ := X1.interfaceBack hx (xi := (⟨"java/util/List", "get", "(I)Ljava/lang/Object;"⟩ : MethodName)) (y := (⟨"java/util/ArrayList", "get", "(I)Ljava/lang/Object;"⟩ : MethodName)) hown (mvT hZ (hw _ (List.mem_of_getElem? (i := 93) rfl))) (mvT hZ (hw _ (List.mem_of_getElem? (i := 94) rfl))) (mvT hZ (hw _ (List.mem_of_getElem? (i := 95) rfl))) (mvT hZ (hw _ (List.mem_of_getElem? (i := 96) rfl))) (mvT hZ (hw _ (List.mem_of_getElem? (i := 97) rfl))) (mvT hZ (hw _ (List.mem_of_getElem? (i := 98) rfl))) (mvT hZ (hw _ (List.mem_of_getElem? (i := 99) rfl))) (mvT hZ (hw _ (List.mem_of_getElem? (i := 100) rfl))) (by decide) (backOf (W := 0) (rm15 l Z a0 hw [] l1 d kb x1 x2 h0 n0 O E_l1 F_e_l1 F_s_l1 V_d) hZ (hw _ (List.mem_of_getElem? (i := 101) rfl)) (hw _ (List.mem_of_getElem? (i := 6) rfl)) (by decide) (by decide)) q2a q2b q2c (g := (mkF m 6 #[.val (.ref a), .val (.ref l1), .val (.ref s_NONE), .unset, .unset] [(.int (0 : Int32)), (.ref l1)])) rfl (by rw [hml]; rfl) (Steps.refl _) (argsL := [(.int (0 : Int32))]) (rest := []) (lenOf pd__40I_41Ljava_47lang_47Object_59 rfl) rfl (by show 2 * 0 + _ ≤ _; exact Nat.le_of_eq rfl) (hb hby d14_6) (fun _ _ => ⟨rfl, e1, (by decide : 0 + 0 ≤ _), (by decide : 0 + 0 ≤ _)⟩)
  dsimp only [Pt.U, Pt.locs, Pt.cells, Pt.slots] at X2 l2 y2 z2 st2 hQ2
  subst l2 y2 z2
  obtain ⟨rfl, N2q, eh2⟩ := hQ2
  have N2 := Fr.app N0 N2q
  obtain ⟨T3, X3, e3, st3⟩ := castY X2 hx hZ hown (hw _ (List.mem_of_getElem? (i := 115) rfl)) eh2 (Ins.self E_x1) (g := (mkF m 11 #[.val (.ref a), .val (.ref l1), .val (.ref s_NONE), .unset, .unset] [(.ref x1)])) rfl rfl (hb hby d14_11)
  obtain ⟨cq4, kq4, q4a, q4b, q4c⟩ := isOf hZ e3 E_x1
  obtain ⟨_, _, ⟨T4, L4, k4, n4⟩, -, X4, ⟨Lc4, hQ4, l4, y4, z4⟩, st4⟩ := X3.virtualBack hx (y := (⟨"java/lang/Integer", "intValue", "()I"⟩ : MethodName)) (z := (⟨"java/lang/Integer", "intValue", "()I"⟩ : MethodName)) hown (mvT hZ (hw _ (List.mem_of_getElem? (i := 117) rfl))) (mvT hZ (hw _ (List.mem_of_getElem? (i := 118) rfl))) (notFace_of_selects (args := #[]) (mvT hZ (hw _ (List.mem_of_getElem? (i := 120) rfl)))) (mvT hZ (hw _ (List.mem_of_getElem? (i := 120) rfl))) (mvT hZ (hw _ (List.mem_of_getElem? (i := 119) rfl))) (by decide) (backOf (W := 0) (rm19 l Z a0 hw [] x1 i h0 n0 O F_v_x1) hZ (hw _ (List.mem_of_getElem? (i := 121) rfl)) (hw _ (List.mem_of_getElem? (i := 32) rfl)) (by decide) (by decide)) q4a q4c (g := (mkF m 14 #[.val (.ref a), .val (.ref l1), .val (.ref s_NONE), .unset, .unset] [(.ref x1)])) rfl (by rw [hml]; rfl) (Steps.refl _) (argsL := []) (rest := []) (lenOf pd__40_41I rfl) rfl (by show 2 * 0 + _ ≤ _; exact Nat.le_of_eq rfl) (hb hby d14_14) (fun _ _ => ⟨rfl, e3, (by decide : 0 + 0 ≤ _), (by decide : 0 + 0 ≤ _)⟩)
  dsimp only [Pt.U, Pt.locs, Pt.cells, Pt.slots] at X4 l4 y4 z4 st4 hQ4
  subst l4 y4 z4
  obtain ⟨rfl, N4q, eh4⟩ := hQ4
  have N4 := Fr.app N2 N4q
  obtain ⟨_, _, ⟨T5, L5, k5, n5⟩, -, X5, ⟨Lc5, hQ5, l5, y5, z5⟩, st5⟩ := Jvm.LawKit.callS X4 hx (y := (⟨"java/lang/Integer", "valueOf", "(I)Ljava/lang/Integer;"⟩ : MethodName)) hown (mvT hZ (hw _ (List.mem_of_getElem? (i := 124) rfl))) (mvT hZ (hw _ (List.mem_of_getElem? (i := 31) rfl))) (mvT hZ (hw _ (List.mem_of_getElem? (i := 32) rfl))) (mvT hZ (hw _ (List.mem_of_getElem? (i := 33) rfl))) (by decide) (backOf (W := 1) (rm6 l Z a0 hw [] (6 : Int32) cl_s_cacheI s_cacheI h0 n0 O S_s_cacheI S_high BI) hZ (hw _ (List.mem_of_getElem? (i := 33) rfl)) (hw _ (List.mem_of_getElem? (i := 32) rfl)) (by decide) (by decide)) (g := (mkF m 21 #[.val (.ref a), .val (.ref l1), .val (.ref s_NONE), .val (.int i), .unset] [(.int (6 : Int32)), (.ref l1)])) rfl (by rw [hml]; rfl) (argsL := [(.int (6 : Int32))]) (rest := [(.ref l1)]) (lenOf pd__40I_41Ljava_47lang_47Integer_59 rfl) rfl (by show 2 * 0 + _ ≤ _; exact Nat.le_of_eq rfl) (hb hby d14_21) (fun _ _ => ⟨rfl, eh4, (by decide : 0 + 1 ≤ _), (by decide : 0 + 1 ≤ _)⟩)
  dsimp only [Pt.U, Pt.locs, Pt.cells, Pt.slots] at X5 l5 y5 z5 st5 hQ5
  subst l5 y5 z5
  obtain ⟨z_5, rfl, N5q, K5, E_z_c5, F_v_z_c5⟩ := hQ5
  have N5 := Fr.app N4 N5q
  have E_a := E_a.keep K5
  have F_plan_a := F_plan_a.keep K5 nin0
  have F_judgement_a := F_judgement_a.keep K5 nin0
  have F_target_a := F_target_a.keep K5 nin0
  have E_l1 := E_l1.keep K5
  have F_m_l1 := F_m_l1.keep K5 nin0
  have F_e_l1 := F_e_l1.keep K5 nin0
  have F_s_l1 := F_s_l1.keep K5 nin0
  have V_d := V_d.keep K5 nin0
  have E_x1 := E_x1.keep K5
  have F_v_x1 := F_v_x1.keep K5 nin0
  have E_x2 := E_x2.keep K5
  have F_v_x2 := F_v_x2.keep K5 nin0
  have E_EMPTY := E_EMPTY.keep K5
  have O := O.keep K5 all0
  have K := K.trans K5 all0
  obtain ⟨_, _, ⟨T6, L6, k6, n6⟩, -, X6, ⟨Lc6, hQ6, l6, y6, z6⟩, st6⟩ := Jvm.LawKit.callS X5 hx (y := (⟨"java/lang/Integer", "valueOf", "(I)Ljava/lang/Integer;"⟩ : MethodName)) hown (mvT hZ (hw _ (List.mem_of_getElem? (i := 124) rfl))) (mvT hZ (hw _ (List.mem_of_getElem? (i := 31) rfl))) (mvT hZ (hw _ (List.mem_of_getElem? (i := 32) rfl))) (mvT hZ (hw _ (List.mem_of_getElem? (i := 33) rfl))) (by decide) (backOf (W := 2) (rm6 l Z a0 hw [] (6 : Int32) cl_s_cacheI s_cacheI T5.heap n0 O S_s_cacheI S_high BI) hZ (hw _ (List.mem_of_getElem? (i := 33) rfl)) (hw _ (List.mem_of_getElem? (i := 32) rfl)) (by decide) (by decide)) (g := (mkF m 26 #[.val (.ref a), .val (.ref l1), .val (.ref s_NONE), .val (.int i), .unset] [(.int (6 : Int32)), (.ref z_5), (.ref l1)])) rfl (by rw [hml]; rfl) (argsL := [(.int (6 : Int32))]) (rest := [(.ref z_5), (.ref l1)]) (lenOf pd__40I_41Ljava_47lang_47Integer_59 rfl) rfl (by show 2 * 0 + _ ≤ _; exact Nat.le_of_eq rfl) (hb hby d14_26) (fun _ _ => ⟨rfl, rfl, (by decide : 1 + 1 ≤ _), (by decide : 1 + 1 ≤ _)⟩)
  dsimp only [Pt.U, Pt.locs, Pt.cells, Pt.slots] at X6 l6 y6 z6 st6 hQ6
  subst l6 y6 z6
  obtain ⟨z_6, rfl, N6q, K6, E_z_c6, F_v_z_c6⟩ := hQ6
  have N6 := Fr.app N5 N6q
  have E_a := E_a.keep K6
  have F_plan_a := F_plan_a.keep K6 nin0
  have F_judgement_a := F_judgement_a.keep K6 nin0
  have F_target_a := F_target_a.keep K6 nin0
  have E_l1 := E_l1.keep K6
  have F_m_l1 := F_m_l1.keep K6 nin0
  have F_e_l1 := F_e_l1.keep K6 nin0
  have F_s_l1 := F_s_l1.keep K6 nin0
  have V_d := V_d.keep K6 nin0
  have E_x1 := E_x1.keep K6
  have F_v_x1 := F_v_x1.keep K6 nin0
  have E_x2 := E_x2.keep K6
  have F_v_x2 := F_v_x2.keep K6 nin0
  have E_EMPTY := E_EMPTY.keep K6
  have E_z_c5 := E_z_c5.keep K6
  have F_v_z_c5 := F_v_z_c5.keep K6 nin0
  have O := O.keep K6 all0
  have K := K.trans K6 all0
  have lt7_a := E_a.lt
  have lt7_l1 := E_l1.lt
  have lt7_d := V_d.lt
  have lt7_x1 := E_x1.lt
  have lt7_x2 := E_x2.lt
  have lt7_s_EMPTY := E_EMPTY.lt
  have lt7_z_5 := E_z_c5.lt
  have lt7_z_6 := E_z_c6.lt
  obtain ⟨_, _, ⟨T7, L7, k7, n7⟩, -, X7, ⟨Lc7, hQ7, l7, y7, z7⟩, st7⟩ := Jvm.LawKit.callS X6 hx (y := (⟨"java/util/List", "of", "(Ljava/lang/Object;Ljava/lang/Object;)Ljava/util/List;"⟩ : MethodName)) hown (mvT hZ (hw _ (List.mem_of_getElem? (i := 125) rfl))) (mvT hZ (hw _ (List.mem_of_getElem? (i := 126) rfl))) (mvT hZ (hw _ (List.mem_of_getElem? (i := 127) rfl))) (mvT hZ (hw _ (List.mem_of_getElem? (i := 128) rfl))) (by decide) (backOf (W := 1) (rm20 l Z a0 hw [] z_5 z_6 T6.heap n0 O ) hZ (hw _ (List.mem_of_getElem? (i := 128) rfl)) (hw _ (List.mem_of_getElem? (i := 127) rfl)) (by decide) (by decide)) (g := (mkF m 29 #[.val (.ref a), .val (.ref l1), .val (.ref s_NONE), .val (.int i), .unset] [(.ref z_6), (.ref z_5), (.ref l1)])) rfl (by rw [hml]; rfl) (argsL := [(.ref z_5), (.ref z_6)]) (rest := [(.ref l1)]) (lenOf pd__40Ljava_47lang_47Object_59Ljava_47lang_47Object_59_41Ljava_47util_47List_59 rfl) rfl (by show 2 * 0 + _ ≤ _; exact Nat.le_of_eq rfl) (hb hby d14_29) (fun _ _ => ⟨rfl, rfl, (by decide : 2 + 1 ≤ _), (by decide : 2 + 2 ≤ _)⟩)
  dsimp only [Pt.U, Pt.locs, Pt.cells, Pt.slots] at X7 l7 y7 z7 st7 hQ7
  subst l7 y7 z7
  obtain ⟨z_7, rfl, N7q, K7, E_z_c7, F_e0_z_c7, F_e1_z_c7, gz_7, gn_7⟩ := hQ7
  have N7 := Fr.app N6 N7q
  have E_a := E_a.keep K7
  have F_plan_a := F_plan_a.keep K7 nin0
  have F_judgement_a := F_judgement_a.keep K7 nin0
  have F_target_a := F_target_a.keep K7 nin0
  have E_l1 := E_l1.keep K7
  have F_m_l1 := F_m_l1.keep K7 nin0
  have F_e_l1 := F_e_l1.keep K7 nin0
  have F_s_l1 := F_s_l1.keep K7 nin0
  have V_d := V_d.keep K7 nin0
  have E_x1 := E_x1.keep K7
  have F_v_x1 := F_v_x1.keep K7 nin0
  have E_x2 := E_x2.keep K7
  have F_v_x2 := F_v_x2.keep K7 nin0
  have E_EMPTY := E_EMPTY.keep K7
  have E_z_c5 := E_z_c5.keep K7
  have F_v_z_c5 := F_v_z_c5.keep K7 nin0
  have E_z_c6 := E_z_c6.keep K7
  have F_v_z_c6 := F_v_z_c6.keep K7 nin0
  have ne_a_z_7 : a ≠ z_7 := Nat.ne_of_lt (Nat.lt_of_lt_of_le lt7_a gz_7)
  have ne_l1_z_7 : l1 ≠ z_7 := Nat.ne_of_lt (Nat.lt_of_lt_of_le lt7_l1 gz_7)
  have ne_d_z_7 : d ≠ z_7 := Nat.ne_of_lt (Nat.lt_of_lt_of_le lt7_d gz_7)
  have ne_x1_z_7 : x1 ≠ z_7 := Nat.ne_of_lt (Nat.lt_of_lt_of_le lt7_x1 gz_7)
  have ne_x2_z_7 : x2 ≠ z_7 := Nat.ne_of_lt (Nat.lt_of_lt_of_le lt7_x2 gz_7)
  have ne_s_EMPTY_z_7 : s_EMPTY ≠ z_7 := Nat.ne_of_lt (Nat.lt_of_lt_of_le lt7_s_EMPTY gz_7)
  have ne_z_5_z_7 : z_5 ≠ z_7 := Nat.ne_of_lt (Nat.lt_of_lt_of_le lt7_z_5 gz_7)
  have ne_z_6_z_7 : z_6 ≠ z_7 := Nat.ne_of_lt (Nat.lt_of_lt_of_le lt7_z_6 gz_7)
  have g_z_7 := gn_7
  have z_z_7 : h0.size ≤ z_7 := Nat.le_trans K.1 gz_7
  have O := O.keep K7 all0
  have K := K.trans K7 all0
  obtain ⟨cq8, kq8, q8a, q8b, q8c⟩ := isOf hZ rfl E_l1
  obtain ⟨_, _, ⟨T8, L8, k8, n8⟩, -, X8, ⟨Lc8, hQ8, l8, y8, z8⟩, st8⟩ := X7.interfaceBack hx (xi := (⟨"java/util/List", "equals", "(Ljava/lang/Object;)Z"⟩ : MethodName)) (y := (⟨"java/util/ArrayList", "equals", "(Ljava/lang/Object;)Z"⟩ : MethodName)) hown (mvT hZ (hw _ (List.mem_of_getElem? (i := 157) rfl))) (mvT hZ (hw _ (List.mem_of_getElem? (i := 158) rfl))) (mvT hZ (hw _ (List.mem_of_getElem? (i := 159) rfl))) (mvT hZ (hw _ (List.mem_of_getElem? (i := 160) rfl))) (mvT hZ (hw _ (List.mem_of_getElem? (i := 161) rfl))) (mvT hZ (hw _ (List.mem_of_getElem? (i := 162) rfl))) (mvT hZ (hw _ (List.mem_of_getElem? (i := 163) rfl))) (mvT hZ (hw _ (List.mem_of_getElem? (i := 100) rfl))) (by decide) (backOf (W := 0) (rm25 l Z a0 hw [] l1 z_7 d kb x1 x2 z_5 z_6 i (6 : Int32) m12 mal s_EMPTY T7.heap n0 O S_s_EMPTY E_l1 F_m_l1 F_e_l1 F_s_l1 V_d E_z_c7 F_e0_z_c7 F_e1_z_c7 E_x1 F_v_x1 E_x2 F_v_x2 E_z_c5 F_v_z_c5 E_z_c6 F_v_z_c6 E_EMPTY (by assumption) (by assumption)) hZ (hw _ (List.mem_of_getElem? (i := 164) rfl)) (hw _ (List.mem_of_getElem? (i := 6) rfl)) (by decide) (by decide)) q8a q8b q8c (g := (mkF m 32 #[.val (.ref a), .val (.ref l1), .val (.ref s_NONE), .val (.int i), .unset] [(.ref z_7), (.ref l1)])) rfl (by rw [hml]; rfl) (Steps.refl _) (argsL := [(.ref z_7)]) (rest := []) (lenOf pd__40Ljava_47lang_47Object_59_41Z rfl) rfl (by show 2 * 0 + _ ≤ _; exact Nat.le_of_eq rfl) (hb hby d14_32) (fun _ _ => ⟨rfl, rfl, (by decide : 3 + 1 ≤ _), (by decide : 4 + 4 ≤ _)⟩)
  dsimp only [Pt.U, Pt.locs, Pt.cells, Pt.slots] at X8 l8 y8 z8 st8 hQ8
  subst l8 y8 z8
  obtain ⟨rfl, N8q, K8⟩ := hQ8
  have N8 := Fr.app N7 N8q
  have E_a := E_a.keep K8
  have F_plan_a := F_plan_a.keep K8 nin0
  have F_judgement_a := F_judgement_a.keep K8 nin0
  have F_target_a := F_target_a.keep K8 nin0
  have E_l1 := E_l1.keep K8
  have F_m_l1 := F_m_l1.keep K8 nin0
  have F_e_l1 := F_e_l1.keep K8 nin0
  have F_s_l1 := F_s_l1.keep K8 nin0
  have V_d := V_d.keep K8 nin0
  have E_x1 := E_x1.keep K8
  have F_v_x1 := F_v_x1.keep K8 nin0
  have E_x2 := E_x2.keep K8
  have F_v_x2 := F_v_x2.keep K8 nin0
  have E_EMPTY := E_EMPTY.keep K8
  have E_z_c5 := E_z_c5.keep K8
  have F_v_z_c5 := F_v_z_c5.keep K8 nin0
  have E_z_c6 := E_z_c6.keep K8
  have F_v_z_c6 := F_v_z_c6.keep K8 nin0
  have E_z_c7 := E_z_c7.keep K8
  have F_e0_z_c7 := F_e0_z_c7.keep K8 nin0
  have F_e1_z_c7 := F_e1_z_c7.keep K8 nin0
  have O := O.keep K8 all0
  have K := K.trans K8 all0
  have w9 : ∀ t, Steps p.tables e below (T8.setTop (mkF m 37 #[.val (.ref a), .val (.ref l1), .val (.ref s_NONE), .val (.int i), .unset] [(.int (own_q i (6 : Int32)))])) t → Steps p.tables e below (s₁.setTop (entryFrame m #[(.ref a), (.ref l1)] 5)) t := fun t k => by
    refine pre0 t ?_
    refine st1 _ ?_
    show Steps p.tables e below (T1.setTop (mkF m 3 #[.val (.ref a), .val (.ref l1), .unset, .unset, .unset] [(.ref s_NONE)])) _
    refine XS.astoreN X1.here hx rfl (hb hby d14_3) rfl rfl (l' := #[.val (.ref a), .val (.ref l1), .val (.ref s_NONE), .unset, .unset]) rfl ?_
    show Steps p.tables e below (T1.setTop (mkF m 4 #[.val (.ref a), .val (.ref l1), .val (.ref s_NONE), .unset, .unset] [])) _
    refine XS.aloadN X1.here hx rfl (hb hby d14_4) rfl rfl ?_
    show Steps p.tables e below (T1.setTop (mkF m 5 #[.val (.ref a), .val (.ref l1), .val (.ref s_NONE), .unset, .unset] [(.ref l1)])) _
    refine XS.iconst X1.here hx rfl (hb hby d14_5) ?_
    show Steps p.tables e below (T1.setTop (mkF m 6 #[.val (.ref a), .val (.ref l1), .val (.ref s_NONE), .unset, .unset] [(.int (0 : Int32)), (.ref l1)])) _
    refine st2.trans ?_
    show Steps p.tables e below (T2.setTop (mkF m 11 #[.val (.ref a), .val (.ref l1), .val (.ref s_NONE), .unset, .unset] [(.ref x1)])) _
    refine st3 _ ?_
    show Steps p.tables e below (T3.setTop (mkF m 14 #[.val (.ref a), .val (.ref l1), .val (.ref s_NONE), .unset, .unset] [(.ref x1)])) _
    refine st4.trans ?_
    show Steps p.tables e below (T4.setTop (mkF m 17 #[.val (.ref a), .val (.ref l1), .val (.ref s_NONE), .unset, .unset] [(.int i)])) _
    refine XS.istoreN X4.here hx rfl (hb hby d14_17) rfl (l' := #[.val (.ref a), .val (.ref l1), .val (.ref s_NONE), .val (.int i), .unset]) rfl ?_
    show Steps p.tables e below (T4.setTop (mkF m 18 #[.val (.ref a), .val (.ref l1), .val (.ref s_NONE), .val (.int i), .unset] [])) _
    refine XS.aloadN X4.here hx rfl (hb hby d14_18) rfl rfl ?_
    show Steps p.tables e below (T4.setTop (mkF m 19 #[.val (.ref a), .val (.ref l1), .val (.ref s_NONE), .val (.int i), .unset] [(.ref l1)])) _
    refine XS.bipush X4.here hx rfl (hb hby d14_19) ?_
    show Steps p.tables e below (T4.setTop (mkF m 21 #[.val (.ref a), .val (.ref l1), .val (.ref s_NONE), .val (.int i), .unset] [(.int (6 : Int32)), (.ref l1)])) _
    refine st5 _ ?_
    show Steps p.tables e below (T5.setTop (mkF m 24 #[.val (.ref a), .val (.ref l1), .val (.ref s_NONE), .val (.int i), .unset] [(.ref z_5), (.ref l1)])) _
    refine XS.bipush X5.here hx rfl (hb hby d14_24) ?_
    show Steps p.tables e below (T5.setTop (mkF m 26 #[.val (.ref a), .val (.ref l1), .val (.ref s_NONE), .val (.int i), .unset] [(.int (6 : Int32)), (.ref z_5), (.ref l1)])) _
    refine st6 _ ?_
    show Steps p.tables e below (T6.setTop (mkF m 29 #[.val (.ref a), .val (.ref l1), .val (.ref s_NONE), .val (.int i), .unset] [(.ref z_6), (.ref z_5), (.ref l1)])) _
    refine st7 _ ?_
    show Steps p.tables e below (T7.setTop (mkF m 32 #[.val (.ref a), .val (.ref l1), .val (.ref s_NONE), .val (.int i), .unset] [(.ref z_7), (.ref l1)])) _
    refine st8.trans ?_
    show Steps p.tables e below (T8.setTop (mkF m 37 #[.val (.ref a), .val (.ref l1), .val (.ref s_NONE), .val (.int i), .unset] [(.int (own_q i (6 : Int32)))])) _
    exact k
  by_cases hc37_10 : (own_q i (6 : Int32)) = (0 : Int32)
  · obtain ⟨_, _, ⟨T11, L11, k11, n11⟩, -, X11, ⟨Lc11, hQ11, l11, y11, z11⟩, st11⟩ := Jvm.LawKit.callS X8 hx (y := (⟨"java/lang/Integer", "valueOf", "(I)Ljava/lang/Integer;"⟩ : MethodName)) hown (mvT hZ (hw _ (List.mem_of_getElem? (i := 124) rfl))) (mvT hZ (hw _ (List.mem_of_getElem? (i := 31) rfl))) (mvT hZ (hw _ (List.mem_of_getElem? (i := 32) rfl))) (mvT hZ (hw _ (List.mem_of_getElem? (i := 33) rfl))) (by decide) (backOf (W := 1) (rm6 l Z a0 hw [] (1 : Int32) cl_s_cacheI s_cacheI T8.heap n0 O S_s_cacheI S_high BI) hZ (hw _ (List.mem_of_getElem? (i := 33) rfl)) (hw _ (List.mem_of_getElem? (i := 32) rfl)) (by decide) (by decide)) (g := (mkF m 52 #[.val (.ref a), .val (.ref l1), .val (.ref s_NONE), .val (.int i), .unset] [(.int (1 : Int32)), (.ref l1)])) rfl (by rw [hml]; rfl) (argsL := [(.int (1 : Int32))]) (rest := [(.ref l1)]) (lenOf pd__40I_41Ljava_47lang_47Integer_59 rfl) rfl (by show 2 * 0 + _ ≤ _; exact Nat.le_of_eq rfl) (hb hby d14_52) (fun _ _ => ⟨rfl, rfl, (by decide : 4 + 1 ≤ _), (by decide : 8 + 1 ≤ _)⟩)
    dsimp only [Pt.U, Pt.locs, Pt.cells, Pt.slots] at X11 l11 y11 z11 st11 hQ11
    subst l11 y11 z11
    obtain ⟨z_11, rfl, N11q, K11, E_z_c11, F_v_z_c11⟩ := hQ11
    have N11 := Fr.app N8 N11q
    have E_a := E_a.keep K11
    have F_plan_a := F_plan_a.keep K11 nin0
    have F_judgement_a := F_judgement_a.keep K11 nin0
    have F_target_a := F_target_a.keep K11 nin0
    have E_l1 := E_l1.keep K11
    have F_m_l1 := F_m_l1.keep K11 nin0
    have F_e_l1 := F_e_l1.keep K11 nin0
    have F_s_l1 := F_s_l1.keep K11 nin0
    have V_d := V_d.keep K11 nin0
    have E_x1 := E_x1.keep K11
    have F_v_x1 := F_v_x1.keep K11 nin0
    have E_x2 := E_x2.keep K11
    have F_v_x2 := F_v_x2.keep K11 nin0
    have E_EMPTY := E_EMPTY.keep K11
    have E_z_c5 := E_z_c5.keep K11
    have F_v_z_c5 := F_v_z_c5.keep K11 nin0
    have E_z_c6 := E_z_c6.keep K11
    have F_v_z_c6 := F_v_z_c6.keep K11 nin0
    have E_z_c7 := E_z_c7.keep K11
    have F_e0_z_c7 := F_e0_z_c7.keep K11 nin0
    have F_e1_z_c7 := F_e1_z_c7.keep K11 nin0
    have O := O.keep K11 all0
    have K := K.trans K11 all0
    obtain ⟨_, _, ⟨T12, L12, k12, n12⟩, -, X12, ⟨Lc12, hQ12, l12, y12, z12⟩, st12⟩ := Jvm.LawKit.callS X11 hx (y := (⟨"java/lang/Integer", "valueOf", "(I)Ljava/lang/Integer;"⟩ : MethodName)) hown (mvT hZ (hw _ (List.mem_of_getElem? (i := 124) rfl))) (mvT hZ (hw _ (List.mem_of_getElem? (i := 31) rfl))) (mvT hZ (hw _ (List.mem_of_getElem? (i := 32) rfl))) (mvT hZ (hw _ (List.mem_of_getElem? (i := 33) rfl))) (by decide) (backOf (W := 2) (rm6 l Z a0 hw [] (1 : Int32) cl_s_cacheI s_cacheI T11.heap n0 O S_s_cacheI S_high BI) hZ (hw _ (List.mem_of_getElem? (i := 33) rfl)) (hw _ (List.mem_of_getElem? (i := 32) rfl)) (by decide) (by decide)) (g := (mkF m 56 #[.val (.ref a), .val (.ref l1), .val (.ref s_NONE), .val (.int i), .unset] [(.int (1 : Int32)), (.ref z_11), (.ref l1)])) rfl (by rw [hml]; rfl) (argsL := [(.int (1 : Int32))]) (rest := [(.ref z_11), (.ref l1)]) (lenOf pd__40I_41Ljava_47lang_47Integer_59 rfl) rfl (by show 2 * 0 + _ ≤ _; exact Nat.le_of_eq rfl) (hb hby d14_56) (fun _ _ => ⟨rfl, rfl, (by decide : 5 + 1 ≤ _), (by decide : 9 + 1 ≤ _)⟩)
    dsimp only [Pt.U, Pt.locs, Pt.cells, Pt.slots] at X12 l12 y12 z12 st12 hQ12
    subst l12 y12 z12
    obtain ⟨z_12, rfl, N12q, K12, E_z_c12, F_v_z_c12⟩ := hQ12
    have N12 := Fr.app N11 N12q
    have E_a := E_a.keep K12
    have F_plan_a := F_plan_a.keep K12 nin0
    have F_judgement_a := F_judgement_a.keep K12 nin0
    have F_target_a := F_target_a.keep K12 nin0
    have E_l1 := E_l1.keep K12
    have F_m_l1 := F_m_l1.keep K12 nin0
    have F_e_l1 := F_e_l1.keep K12 nin0
    have F_s_l1 := F_s_l1.keep K12 nin0
    have V_d := V_d.keep K12 nin0
    have E_x1 := E_x1.keep K12
    have F_v_x1 := F_v_x1.keep K12 nin0
    have E_x2 := E_x2.keep K12
    have F_v_x2 := F_v_x2.keep K12 nin0
    have E_EMPTY := E_EMPTY.keep K12
    have E_z_c5 := E_z_c5.keep K12
    have F_v_z_c5 := F_v_z_c5.keep K12 nin0
    have E_z_c6 := E_z_c6.keep K12
    have F_v_z_c6 := F_v_z_c6.keep K12 nin0
    have E_z_c7 := E_z_c7.keep K12
    have F_e0_z_c7 := F_e0_z_c7.keep K12 nin0
    have F_e1_z_c7 := F_e1_z_c7.keep K12 nin0
    have E_z_c11 := E_z_c11.keep K12
    have F_v_z_c11 := F_v_z_c11.keep K12 nin0
    have O := O.keep K12 all0
    have K := K.trans K12 all0
    have lt13_a := E_a.lt
    have lt13_l1 := E_l1.lt
    have lt13_d := V_d.lt
    have lt13_x1 := E_x1.lt
    have lt13_x2 := E_x2.lt
    have lt13_s_EMPTY := E_EMPTY.lt
    have lt13_z_5 := E_z_c5.lt
    have lt13_z_6 := E_z_c6.lt
    have lt13_z_7 := E_z_c7.lt
    have lt13_z_11 := E_z_c11.lt
    have lt13_z_12 := E_z_c12.lt
    obtain ⟨_, _, ⟨T13, L13, k13, n13⟩, -, X13, ⟨Lc13, hQ13, l13, y13, z13⟩, st13⟩ := Jvm.LawKit.callS X12 hx (y := (⟨"java/util/List", "of", "(Ljava/lang/Object;Ljava/lang/Object;)Ljava/util/List;"⟩ : MethodName)) hown (mvT hZ (hw _ (List.mem_of_getElem? (i := 125) rfl))) (mvT hZ (hw _ (List.mem_of_getElem? (i := 126) rfl))) (mvT hZ (hw _ (List.mem_of_getElem? (i := 127) rfl))) (mvT hZ (hw _ (List.mem_of_getElem? (i := 128) rfl))) (by decide) (backOf (W := 1) (rm20 l Z a0 hw [] z_11 z_12 T12.heap n0 O ) hZ (hw _ (List.mem_of_getElem? (i := 128) rfl)) (hw _ (List.mem_of_getElem? (i := 127) rfl)) (by decide) (by decide)) (g := (mkF m 59 #[.val (.ref a), .val (.ref l1), .val (.ref s_NONE), .val (.int i), .unset] [(.ref z_12), (.ref z_11), (.ref l1)])) rfl (by rw [hml]; rfl) (argsL := [(.ref z_11), (.ref z_12)]) (rest := [(.ref l1)]) (lenOf pd__40Ljava_47lang_47Object_59Ljava_47lang_47Object_59_41Ljava_47util_47List_59 rfl) rfl (by show 2 * 0 + _ ≤ _; exact Nat.le_of_eq rfl) (hb hby d14_59) (fun _ _ => ⟨rfl, rfl, (by decide : 6 + 1 ≤ _), (by decide : 10 + 2 ≤ _)⟩)
    dsimp only [Pt.U, Pt.locs, Pt.cells, Pt.slots] at X13 l13 y13 z13 st13 hQ13
    subst l13 y13 z13
    obtain ⟨z_13, rfl, N13q, K13, E_z_c13, F_e0_z_c13, F_e1_z_c13, gz_13, gn_13⟩ := hQ13
    have N13 := Fr.app N12 N13q
    have E_a := E_a.keep K13
    have F_plan_a := F_plan_a.keep K13 nin0
    have F_judgement_a := F_judgement_a.keep K13 nin0
    have F_target_a := F_target_a.keep K13 nin0
    have E_l1 := E_l1.keep K13
    have F_m_l1 := F_m_l1.keep K13 nin0
    have F_e_l1 := F_e_l1.keep K13 nin0
    have F_s_l1 := F_s_l1.keep K13 nin0
    have V_d := V_d.keep K13 nin0
    have E_x1 := E_x1.keep K13
    have F_v_x1 := F_v_x1.keep K13 nin0
    have E_x2 := E_x2.keep K13
    have F_v_x2 := F_v_x2.keep K13 nin0
    have E_EMPTY := E_EMPTY.keep K13
    have E_z_c5 := E_z_c5.keep K13
    have F_v_z_c5 := F_v_z_c5.keep K13 nin0
    have E_z_c6 := E_z_c6.keep K13
    have F_v_z_c6 := F_v_z_c6.keep K13 nin0
    have E_z_c7 := E_z_c7.keep K13
    have F_e0_z_c7 := F_e0_z_c7.keep K13 nin0
    have F_e1_z_c7 := F_e1_z_c7.keep K13 nin0
    have E_z_c11 := E_z_c11.keep K13
    have F_v_z_c11 := F_v_z_c11.keep K13 nin0
    have E_z_c12 := E_z_c12.keep K13
    have F_v_z_c12 := F_v_z_c12.keep K13 nin0
    have ne_a_z_13 : a ≠ z_13 := Nat.ne_of_lt (Nat.lt_of_lt_of_le lt13_a gz_13)
    have ne_l1_z_13 : l1 ≠ z_13 := Nat.ne_of_lt (Nat.lt_of_lt_of_le lt13_l1 gz_13)
    have ne_d_z_13 : d ≠ z_13 := Nat.ne_of_lt (Nat.lt_of_lt_of_le lt13_d gz_13)
    have ne_x1_z_13 : x1 ≠ z_13 := Nat.ne_of_lt (Nat.lt_of_lt_of_le lt13_x1 gz_13)
    have ne_x2_z_13 : x2 ≠ z_13 := Nat.ne_of_lt (Nat.lt_of_lt_of_le lt13_x2 gz_13)
    have ne_s_EMPTY_z_13 : s_EMPTY ≠ z_13 := Nat.ne_of_lt (Nat.lt_of_lt_of_le lt13_s_EMPTY gz_13)
    have ne_z_5_z_13 : z_5 ≠ z_13 := Nat.ne_of_lt (Nat.lt_of_lt_of_le lt13_z_5 gz_13)
    have ne_z_6_z_13 : z_6 ≠ z_13 := Nat.ne_of_lt (Nat.lt_of_lt_of_le lt13_z_6 gz_13)
    have ne_z_7_z_13 : z_7 ≠ z_13 := Nat.ne_of_lt (Nat.lt_of_lt_of_le lt13_z_7 gz_13)
    have ne_z_11_z_13 : z_11 ≠ z_13 := Nat.ne_of_lt (Nat.lt_of_lt_of_le lt13_z_11 gz_13)
    have ne_z_12_z_13 : z_12 ≠ z_13 := Nat.ne_of_lt (Nat.lt_of_lt_of_le lt13_z_12 gz_13)
    have g_z_13 := gn_13
    have z_z_13 : h0.size ≤ z_13 := Nat.le_trans K.1 gz_13
    have O := O.keep K13 all0
    have K := K.trans K13 all0
    obtain ⟨cq14, kq14, q14a, q14b, q14c⟩ := isOf hZ rfl E_l1
    obtain ⟨_, _, ⟨T14, L14, k14, n14⟩, -, X14, ⟨Lc14, hQ14, l14, y14, z14⟩, st14⟩ := X13.interfaceBack hx (xi := (⟨"java/util/List", "equals", "(Ljava/lang/Object;)Z"⟩ : MethodName)) (y := (⟨"java/util/ArrayList", "equals", "(Ljava/lang/Object;)Z"⟩ : MethodName)) hown (mvT hZ (hw _ (List.mem_of_getElem? (i := 157) rfl))) (mvT hZ (hw _ (List.mem_of_getElem? (i := 158) rfl))) (mvT hZ (hw _ (List.mem_of_getElem? (i := 159) rfl))) (mvT hZ (hw _ (List.mem_of_getElem? (i := 160) rfl))) (mvT hZ (hw _ (List.mem_of_getElem? (i := 161) rfl))) (mvT hZ (hw _ (List.mem_of_getElem? (i := 162) rfl))) (mvT hZ (hw _ (List.mem_of_getElem? (i := 163) rfl))) (mvT hZ (hw _ (List.mem_of_getElem? (i := 100) rfl))) (by decide) (backOf (W := 0) (rm25 l Z a0 hw [] l1 z_13 d kb x1 x2 z_11 z_12 i (1 : Int32) m12 mal s_EMPTY T13.heap n0 O S_s_EMPTY E_l1 F_m_l1 F_e_l1 F_s_l1 V_d E_z_c13 F_e0_z_c13 F_e1_z_c13 E_x1 F_v_x1 E_x2 F_v_x2 E_z_c11 F_v_z_c11 E_z_c12 F_v_z_c12 E_EMPTY (by assumption) (by assumption)) hZ (hw _ (List.mem_of_getElem? (i := 164) rfl)) (hw _ (List.mem_of_getElem? (i := 6) rfl)) (by decide) (by decide)) q14a q14b q14c (g := (mkF m 62 #[.val (.ref a), .val (.ref l1), .val (.ref s_NONE), .val (.int i), .unset] [(.ref z_13), (.ref l1)])) rfl (by rw [hml]; rfl) (Steps.refl _) (argsL := [(.ref z_13)]) (rest := []) (lenOf pd__40Ljava_47lang_47Object_59_41Z rfl) rfl (by show 2 * 0 + _ ≤ _; exact Nat.le_of_eq rfl) (hb hby d14_62) (fun _ _ => ⟨rfl, rfl, (by decide : 7 + 1 ≤ _), (by decide : 12 + 4 ≤ _)⟩)
    dsimp only [Pt.U, Pt.locs, Pt.cells, Pt.slots] at X14 l14 y14 z14 st14 hQ14
    subst l14 y14 z14
    obtain ⟨rfl, N14q, K14⟩ := hQ14
    have N14 := Fr.app N13 N14q
    have E_a := E_a.keep K14
    have F_plan_a := F_plan_a.keep K14 nin0
    have F_judgement_a := F_judgement_a.keep K14 nin0
    have F_target_a := F_target_a.keep K14 nin0
    have E_l1 := E_l1.keep K14
    have F_m_l1 := F_m_l1.keep K14 nin0
    have F_e_l1 := F_e_l1.keep K14 nin0
    have F_s_l1 := F_s_l1.keep K14 nin0
    have V_d := V_d.keep K14 nin0
    have E_x1 := E_x1.keep K14
    have F_v_x1 := F_v_x1.keep K14 nin0
    have E_x2 := E_x2.keep K14
    have F_v_x2 := F_v_x2.keep K14 nin0
    have E_EMPTY := E_EMPTY.keep K14
    have E_z_c5 := E_z_c5.keep K14
    have F_v_z_c5 := F_v_z_c5.keep K14 nin0
    have E_z_c6 := E_z_c6.keep K14
    have F_v_z_c6 := F_v_z_c6.keep K14 nin0
    have E_z_c7 := E_z_c7.keep K14
    have F_e0_z_c7 := F_e0_z_c7.keep K14 nin0
    have F_e1_z_c7 := F_e1_z_c7.keep K14 nin0
    have E_z_c11 := E_z_c11.keep K14
    have F_v_z_c11 := F_v_z_c11.keep K14 nin0
    have E_z_c12 := E_z_c12.keep K14
    have F_v_z_c12 := F_v_z_c12.keep K14 nin0
    have E_z_c13 := E_z_c13.keep K14
    have F_e0_z_c13 := F_e0_z_c13.keep K14 nin0
    have F_e1_z_c13 := F_e1_z_c13.keep K14 nin0
    have O := O.keep K14 all0
    have K := K.trans K14 all0
    have w15 : ∀ t, Steps p.tables e below (T14.setTop (mkF m 67 #[.val (.ref a), .val (.ref l1), .val (.ref s_NONE), .val (.int i), .unset] [(.int (own_q i (1 : Int32)))])) t → Steps p.tables e below (s₁.setTop (entryFrame m #[(.ref a), (.ref l1)] 5)) t := fun t k => by
      refine w9 t ?_
      refine XS.ifYes X8.here hx rfl (pc0 := 37) (pc' := 50) rfl (hb hby d14_37) rfl ((if0 _ _).trans (teq hc37_10).1) (by decide) (by decide) ?_
      show Steps p.tables e below (T8.setTop (mkF m 50 #[.val (.ref a), .val (.ref l1), .val (.ref s_NONE), .val (.int i), .unset] [])) _
      refine XS.aloadN X8.here hx rfl (hb hby d14_50) rfl rfl ?_
      show Steps p.tables e below (T8.setTop (mkF m 51 #[.val (.ref a), .val (.ref l1), .val (.ref s_NONE), .val (.int i), .unset] [(.ref l1)])) _
      refine XS.iconst X8.here hx rfl (hb hby d14_51) ?_
      show Steps p.tables e below (T8.setTop (mkF m 52 #[.val (.ref a), .val (.ref l1), .val (.ref s_NONE), .val (.int i), .unset] [(.int (1 : Int32)), (.ref l1)])) _
      refine st11 _ ?_
      show Steps p.tables e below (T11.setTop (mkF m 55 #[.val (.ref a), .val (.ref l1), .val (.ref s_NONE), .val (.int i), .unset] [(.ref z_11), (.ref l1)])) _
      refine XS.iconst X11.here hx rfl (hb hby d14_55) ?_
      show Steps p.tables e below (T11.setTop (mkF m 56 #[.val (.ref a), .val (.ref l1), .val (.ref s_NONE), .val (.int i), .unset] [(.int (1 : Int32)), (.ref z_11), (.ref l1)])) _
      refine st12 _ ?_
      show Steps p.tables e below (T12.setTop (mkF m 59 #[.val (.ref a), .val (.ref l1), .val (.ref s_NONE), .val (.int i), .unset] [(.ref z_12), (.ref z_11), (.ref l1)])) _
      refine st13 _ ?_
      show Steps p.tables e below (T13.setTop (mkF m 62 #[.val (.ref a), .val (.ref l1), .val (.ref s_NONE), .val (.int i), .unset] [(.ref z_13), (.ref l1)])) _
      refine st14.trans ?_
      show Steps p.tables e below (T14.setTop (mkF m 67 #[.val (.ref a), .val (.ref l1), .val (.ref s_NONE), .val (.int i), .unset] [(.int (own_q i (1 : Int32)))])) _
      exact k
    by_cases hc67_16 : (own_q i (1 : Int32)) = (0 : Int32)
    · obtain ⟨T17, X17, e17, st17⟩ := getF X14 hx hZ hown (host := "") (Or.inl (hw _ (List.mem_of_getElem? (i := 79) rfl))) Via.refl rfl F_plan_a (g := (mkF m 79 #[.val (.ref a), .val (.ref l1), .val (.ref s_NONE), .val (.int i), .unset] [(.ref a), (.int i)])) rfl rfl (hb hby d14_79)
      obtain ⟨T18, X18, e18, st18⟩ := getF X17 hx hZ hown (host := "") (Or.inl (hw _ (List.mem_of_getElem? (i := 81) rfl))) Via.refl e17 F_judgement_a (g := (mkF m 84 #[.val (.ref a), .val (.ref l1), .val (.ref s_NONE), .val (.int i), .unset] [(.ref a), (.int (i + (0 : Int32)))])) rfl rfl (hb hby d14_84)
      obtain ⟨T19, h19, X19, e19, E19, A19, D19, -, st19⟩ := newO X18 hx hZ hown (hw _ (List.mem_of_getElem? (i := 250) rfl)) (hw _ (List.mem_of_getElem? (i := 251) rfl)) (hw _ (List.mem_of_getElem? (i := 252) rfl)) e18 (g := (mkF m 90 #[.val (.ref a), .val (.ref l1), .val (.ref s_NONE), .val (.int i), .val (.int ((i + (0 : Int32)) + (0 : Int32)))] [])) rfl (hb hby d14_90) (by decide) (by decide)
      obtain ⟨b19, gq19⟩ : ∃ z, z = Array.size T14.heap := ⟨_, rfl⟩
      rw [← gq19] at A19 D19 st19
      have ne_a_b19 : a ≠ b19 := Nat.ne_of_lt (Nat.lt_of_lt_of_le E_a.lt (Nat.le_of_eq gq19.symm))
      have ne_l1_b19 : l1 ≠ b19 := Nat.ne_of_lt (Nat.lt_of_lt_of_le E_l1.lt (Nat.le_of_eq gq19.symm))
      have ne_d_b19 : d ≠ b19 := Nat.ne_of_lt (Nat.lt_of_lt_of_le V_d.lt (Nat.le_of_eq gq19.symm))
      have ne_x1_b19 : x1 ≠ b19 := Nat.ne_of_lt (Nat.lt_of_lt_of_le E_x1.lt (Nat.le_of_eq gq19.symm))
      have ne_x2_b19 : x2 ≠ b19 := Nat.ne_of_lt (Nat.lt_of_lt_of_le E_x2.lt (Nat.le_of_eq gq19.symm))
      have ne_s_EMPTY_b19 : s_EMPTY ≠ b19 := Nat.ne_of_lt (Nat.lt_of_lt_of_le E_EMPTY.lt (Nat.le_of_eq gq19.symm))
      have ne_z_5_b19 : z_5 ≠ b19 := Nat.ne_of_lt (Nat.lt_of_lt_of_le E_z_c5.lt (Nat.le_of_eq gq19.symm))
      have ne_z_6_b19 : z_6 ≠ b19 := Nat.ne_of_lt (Nat.lt_of_lt_of_le E_z_c6.lt (Nat.le_of_eq gq19.symm))
      have ne_z_7_b19 : z_7 ≠ b19 := Nat.ne_of_lt (Nat.lt_of_lt_of_le E_z_c7.lt (Nat.le_of_eq gq19.symm))
      have ne_z_11_b19 : z_11 ≠ b19 := Nat.ne_of_lt (Nat.lt_of_lt_of_le E_z_c11.lt (Nat.le_of_eq gq19.symm))
      have ne_z_12_b19 : z_12 ≠ b19 := Nat.ne_of_lt (Nat.lt_of_lt_of_le E_z_c12.lt (Nat.le_of_eq gq19.symm))
      have ne_z_13_b19 : z_13 ≠ b19 := Nat.ne_of_lt (Nat.lt_of_lt_of_le E_z_c13.lt (Nat.le_of_eq gq19.symm))
      have g_b19 : n0 ≤ b19 := Nat.le_trans (O.1 ▸ O.2.1) (Nat.le_of_eq gq19.symm)
      have z_b19 : h0.size ≤ b19 := Nat.le_trans K.1 (Nat.le_of_eq gq19.symm)
      have E_a := E_a.ext E19
      have F_plan_a := F_plan_a.ext E19
      have F_judgement_a := F_judgement_a.ext E19
      have F_target_a := F_target_a.ext E19
      have E_l1 := E_l1.ext E19
      have F_m_l1 := F_m_l1.ext E19
      have F_e_l1 := F_e_l1.ext E19
      have F_s_l1 := F_s_l1.ext E19
      have V_d := V_d.ext E19
      have E_x1 := E_x1.ext E19
      have F_v_x1 := F_v_x1.ext E19
      have E_x2 := E_x2.ext E19
      have F_v_x2 := F_v_x2.ext E19
      have E_EMPTY := E_EMPTY.ext E19
      have E_z_c5 := E_z_c5.ext E19
      have F_v_z_c5 := F_v_z_c5.ext E19
      have E_z_c6 := E_z_c6.ext E19
      have F_v_z_c6 := F_v_z_c6.ext E19
      have E_z_c7 := E_z_c7.ext E19
      have F_e0_z_c7 := F_e0_z_c7.ext E19
      have F_e1_z_c7 := F_e1_z_c7.ext E19
      have E_z_c11 := E_z_c11.ext E19
      have F_v_z_c11 := F_v_z_c11.ext E19
      have E_z_c12 := E_z_c12.ext E19
      have F_v_z_c12 := F_v_z_c12.ext E19
      have E_z_c13 := E_z_c13.ext E19
      have F_e0_z_c13 := F_e0_z_c13.ext E19
      have F_e1_z_c13 := F_e1_z_c13.ext E19
      have O := O.ext E19
      have K := K.ext E19
      have F_diceValue_b19 : Fld Z h19 b19 "com/example/hantei/hantei/packs/plandice/PlanDiceCheck$Resolution" "diceValue" "I" (.int (0 : Int32)) := D19 (Or.inr (hw _ (List.mem_of_getElem? (i := 258) rfl))) (ty := .int) (by decide)
      have F_special_b19 : Fld Z h19 b19 "com/example/hantei/hantei/packs/plandice/PlanDiceCheck$Resolution" "special" "Lcom/example/hantei/hantei/engine/Special;" .null := D19 (Or.inr (hw _ (List.mem_of_getElem? (i := 260) rfl))) (ty := (.object "com/example/hantei/hantei/engine/Special")) (by decide)
      have F_successValue_b19 : Fld Z h19 b19 "com/example/hantei/hantei/packs/plandice/PlanDiceCheck$Resolution" "successValue" "I" (.int (0 : Int32)) := D19 (Or.inr (hw _ (List.mem_of_getElem? (i := 262) rfl))) (ty := .int) (by decide)
      have F_succeeded_b19 : Fld Z h19 b19 "com/example/hantei/hantei/packs/plandice/PlanDiceCheck$Resolution" "succeeded" "Z" (.int (0 : Int32)) := D19 (Or.inr (hw _ (List.mem_of_getElem? (i := 264) rfl))) (ty := .boolean) (by decide)
      obtain ⟨T20, X20, e20, st20⟩ := getF X19 hx hZ hown (host := "") (Or.inl (hw _ (List.mem_of_getElem? (i := 83) rfl))) Via.refl e19 F_target_a (g := (mkF m 101 #[.val (.ref a), .val (.ref l1), .val (.ref s_NONE), .val (.int i), .val (.int ((i + (0 : Int32)) + (0 : Int32)))] [(.ref a), (.int ((i + (0 : Int32)) + (0 : Int32))), (.int ((i + (0 : Int32)) + (0 : Int32))), (.ref s_NONE), (.int i), (.ref b19), (.ref b19)])) rfl rfl (hb hby d14_101)
      have w21 : ∀ t, Steps p.tables e below (T20.setTop (mkF m 104 #[.val (.ref a), .val (.ref l1), .val (.ref s_NONE), .val (.int i), .val (.int ((i + (0 : Int32)) + (0 : Int32)))] [(.int (0 : Int32)), (.int ((i + (0 : Int32)) + (0 : Int32))), (.int ((i + (0 : Int32)) + (0 : Int32))), (.ref s_NONE), (.int i), (.ref b19), (.ref b19)])) t → Steps p.tables e below (s₁.setTop (entryFrame m #[(.ref a), (.ref l1)] 5)) t := fun t k => by
        refine w15 t ?_
        refine XS.ifYes X14.here hx rfl (pc0 := 67) (pc' := 77) rfl (hb hby d14_67) rfl ((if0 _ _).trans (teq hc67_16).1) (by decide) (by decide) ?_
        show Steps p.tables e below (T14.setTop (mkF m 77 #[.val (.ref a), .val (.ref l1), .val (.ref s_NONE), .val (.int i), .unset] [])) _
        refine XS.iloadN X14.here hx rfl (hb hby d14_77) rfl ?_
        show Steps p.tables e below (T14.setTop (mkF m 78 #[.val (.ref a), .val (.ref l1), .val (.ref s_NONE), .val (.int i), .unset] [(.int i)])) _
        refine XS.aloadN X14.here hx rfl (hb hby d14_78) rfl rfl ?_
        show Steps p.tables e below (T14.setTop (mkF m 79 #[.val (.ref a), .val (.ref l1), .val (.ref s_NONE), .val (.int i), .unset] [(.ref a), (.int i)])) _
        refine st17 _ ?_
        show Steps p.tables e below (T17.setTop (mkF m 82 #[.val (.ref a), .val (.ref l1), .val (.ref s_NONE), .val (.int i), .unset] [(.int (0 : Int32)), (.int i)])) _
        refine XS.iadd X17.here hx rfl (hb hby d14_82) rfl ?_
        show Steps p.tables e below (T17.setTop (mkF m 83 #[.val (.ref a), .val (.ref l1), .val (.ref s_NONE), .val (.int i), .unset] [(.int (i + (0 : Int32)))])) _
        refine XS.aloadN X17.here hx rfl (hb hby d14_83) rfl rfl ?_
        show Steps p.tables e below (T17.setTop (mkF m 84 #[.val (.ref a), .val (.ref l1), .val (.ref s_NONE), .val (.int i), .unset] [(.ref a), (.int (i + (0 : Int32)))])) _
        refine st18 _ ?_
        show Steps p.tables e below (T18.setTop (mkF m 87 #[.val (.ref a), .val (.ref l1), .val (.ref s_NONE), .val (.int i), .unset] [(.int (0 : Int32)), (.int (i + (0 : Int32)))])) _
        refine XS.iadd X18.here hx rfl (hb hby d14_87) rfl ?_
        show Steps p.tables e below (T18.setTop (mkF m 88 #[.val (.ref a), .val (.ref l1), .val (.ref s_NONE), .val (.int i), .unset] [(.int ((i + (0 : Int32)) + (0 : Int32)))])) _
        refine XS.istore X18.here hx rfl (hb hby d14_88) rfl (l' := #[.val (.ref a), .val (.ref l1), .val (.ref s_NONE), .val (.int i), .val (.int ((i + (0 : Int32)) + (0 : Int32)))]) rfl ?_
        show Steps p.tables e below (T18.setTop (mkF m 90 #[.val (.ref a), .val (.ref l1), .val (.ref s_NONE), .val (.int i), .val (.int ((i + (0 : Int32)) + (0 : Int32)))] [])) _
        refine st19 _ ?_
        show Steps p.tables e below (T19.setTop (mkF m 93 #[.val (.ref a), .val (.ref l1), .val (.ref s_NONE), .val (.int i), .val (.int ((i + (0 : Int32)) + (0 : Int32)))] [(.ref b19)])) _
        refine XS.dup X19.here hx rfl (hb hby d14_93) rfl rfl ?_
        show Steps p.tables e below (T19.setTop (mkF m 94 #[.val (.ref a), .val (.ref l1), .val (.ref s_NONE), .val (.int i), .val (.int ((i + (0 : Int32)) + (0 : Int32)))] [(.ref b19), (.ref b19)])) _
        refine XS.iloadN X19.here hx rfl (hb hby d14_94) rfl ?_
        show Steps p.tables e below (T19.setTop (mkF m 95 #[.val (.ref a), .val (.ref l1), .val (.ref s_NONE), .val (.int i), .val (.int ((i + (0 : Int32)) + (0 : Int32)))] [(.int i), (.ref b19), (.ref b19)])) _
        refine XS.aloadN X19.here hx rfl (hb hby d14_95) rfl rfl ?_
        show Steps p.tables e below (T19.setTop (mkF m 96 #[.val (.ref a), .val (.ref l1), .val (.ref s_NONE), .val (.int i), .val (.int ((i + (0 : Int32)) + (0 : Int32)))] [(.ref s_NONE), (.int i), (.ref b19), (.ref b19)])) _
        refine XS.iload X19.here hx rfl (hb hby d14_96) rfl ?_
        show Steps p.tables e below (T19.setTop (mkF m 98 #[.val (.ref a), .val (.ref l1), .val (.ref s_NONE), .val (.int i), .val (.int ((i + (0 : Int32)) + (0 : Int32)))] [(.int ((i + (0 : Int32)) + (0 : Int32))), (.ref s_NONE), (.int i), (.ref b19), (.ref b19)])) _
        refine XS.iload X19.here hx rfl (hb hby d14_98) rfl ?_
        show Steps p.tables e below (T19.setTop (mkF m 100 #[.val (.ref a), .val (.ref l1), .val (.ref s_NONE), .val (.int i), .val (.int ((i + (0 : Int32)) + (0 : Int32)))] [(.int ((i + (0 : Int32)) + (0 : Int32))), (.int ((i + (0 : Int32)) + (0 : Int32))), (.ref s_NONE), (.int i), (.ref b19), (.ref b19)])) _
        refine XS.aloadN X19.here hx rfl (hb hby d14_100) rfl rfl ?_
        show Steps p.tables e below (T19.setTop (mkF m 101 #[.val (.ref a), .val (.ref l1), .val (.ref s_NONE), .val (.int i), .val (.int ((i + (0 : Int32)) + (0 : Int32)))] [(.ref a), (.int ((i + (0 : Int32)) + (0 : Int32))), (.int ((i + (0 : Int32)) + (0 : Int32))), (.ref s_NONE), (.int i), (.ref b19), (.ref b19)])) _
        refine st20 _ ?_
        show Steps p.tables e below (T20.setTop (mkF m 104 #[.val (.ref a), .val (.ref l1), .val (.ref s_NONE), .val (.int i), .val (.int ((i + (0 : Int32)) + (0 : Int32)))] [(.int (0 : Int32)), (.int ((i + (0 : Int32)) + (0 : Int32))), (.int ((i + (0 : Int32)) + (0 : Int32))), (.ref s_NONE), (.int i), (.ref b19), (.ref b19)])) _
        exact k
      by_cases hc104_22 : (0 : Int32) < ((i + (0 : Int32)) + (0 : Int32))
      · obtain ⟨_, _, ⟨T23, L23, k23, n23⟩, -, X23, ⟨Lc23, hQ23, l23, y23, z23⟩, st23⟩ := X20.specialBack hx (y := (⟨"com/example/hantei/hantei/packs/plandice/PlanDiceCheck$Resolution", "<init>", "(ILcom/example/hantei/hantei/engine/Special;IZ)V"⟩ : MethodName)) rfl hown (mvT hZ (hw _ (List.mem_of_getElem? (i := 253) rfl))) (mvT hZ (hw _ (List.mem_of_getElem? (i := 254) rfl))) (mvT hZ (hw _ (List.mem_of_getElem? (i := 255) rfl))) (by decide) (backOf (W := 1) (rm36 l Z a0 hw [] b19 i s_NONE ((i + (0 : Int32)) + (0 : Int32)) (1 : Int32) h19 n0 O A19 F_diceValue_b19 F_special_b19 F_successValue_b19 F_succeeded_b19 g_b19) hZ (hw _ (List.mem_of_getElem? (i := 255) rfl)) (hw _ (List.mem_of_getElem? (i := 252) rfl)) (by decide) (by decide)) (g := (mkF m 112 #[.val (.ref a), .val (.ref l1), .val (.ref s_NONE), .val (.int i), .val (.int ((i + (0 : Int32)) + (0 : Int32)))] [(.int (1 : Int32)), (.int ((i + (0 : Int32)) + (0 : Int32))), (.ref s_NONE), (.int i), (.ref b19), (.ref b19)])) rfl (by rw [hml]; rfl) (Steps.refl _) (a := b19) (argsL := [(.int i), (.ref s_NONE), (.int ((i + (0 : Int32)) + (0 : Int32))), (.int (1 : Int32))]) (rest := [(.ref b19)]) (lenOf pd__40ILcom_47example_47hantei_47hantei_47engine_47Special_59IZ_41V rfl) rfl (by show 2 * 0 + _ ≤ _; exact Nat.le_of_eq rfl) (hb hby d14_112) (fun _ _ => ⟨rfl, e20, (by decide : 9 + 0 ≤ _), (by decide : 20 + 0 ≤ _)⟩)
        dsimp only [Pt.U, Pt.locs, Pt.cells, Pt.slots] at X23 l23 y23 z23 st23 hQ23
        subst l23 y23 z23
        obtain ⟨rfl, N23q, K23, F_special_a_c23⟩ := hQ23
        have N23 := Fr.app N14 N23q
        have E_a := E_a.keep K23
        have F_plan_a := F_plan_a.keep K23 (ninS ne_a_b19 nin0)
        have F_judgement_a := F_judgement_a.keep K23 (ninS ne_a_b19 nin0)
        have F_target_a := F_target_a.keep K23 (ninS ne_a_b19 nin0)
        have E_l1 := E_l1.keep K23
        have F_m_l1 := F_m_l1.keep K23 (ninS ne_l1_b19 nin0)
        have F_e_l1 := F_e_l1.keep K23 (ninS ne_l1_b19 nin0)
        have F_s_l1 := F_s_l1.keep K23 (ninS ne_l1_b19 nin0)
        have V_d := V_d.keep K23 (ninS ne_d_b19 nin0)
        have E_x1 := E_x1.keep K23
        have F_v_x1 := F_v_x1.keep K23 (ninS ne_x1_b19 nin0)
        have E_x2 := E_x2.keep K23
        have F_v_x2 := F_v_x2.keep K23 (ninS ne_x2_b19 nin0)
        have E_EMPTY := E_EMPTY.keep K23
        have E_z_c5 := E_z_c5.keep K23
        have F_v_z_c5 := F_v_z_c5.keep K23 (ninS ne_z_5_b19 nin0)
        have E_z_c6 := E_z_c6.keep K23
        have F_v_z_c6 := F_v_z_c6.keep K23 (ninS ne_z_6_b19 nin0)
        have E_z_c7 := E_z_c7.keep K23
        have F_e0_z_c7 := F_e0_z_c7.keep K23 (ninS ne_z_7_b19 nin0)
        have F_e1_z_c7 := F_e1_z_c7.keep K23 (ninS ne_z_7_b19 nin0)
        have E_z_c11 := E_z_c11.keep K23
        have F_v_z_c11 := F_v_z_c11.keep K23 (ninS ne_z_11_b19 nin0)
        have E_z_c12 := E_z_c12.keep K23
        have F_v_z_c12 := F_v_z_c12.keep K23 (ninS ne_z_12_b19 nin0)
        have E_z_c13 := E_z_c13.keep K23
        have F_e0_z_c13 := F_e0_z_c13.keep K23 (ninS ne_z_13_b19 nin0)
        have F_e1_z_c13 := F_e1_z_c13.keep K23 (ninS ne_z_13_b19 nin0)
        have A19 := A19.keep K23
        have O := O.keep K23 (allS g_b19 all0)
        have K := K.trans K23 (allS (Or.inr z_b19) all0)
        have w24 : ∀ t, Steps p.tables e below (T23.setTop (mkF m 115 #[.val (.ref a), .val (.ref l1), .val (.ref s_NONE), .val (.int i), .val (.int ((i + (0 : Int32)) + (0 : Int32)))] [(.ref b19)])) t → Steps p.tables e below (s₁.setTop (entryFrame m #[(.ref a), (.ref l1)] 5)) t := fun t k => by
          refine w21 t ?_
          refine XS.icmpNo X20.here hx rfl (hb hby d14_104) rfl (tlt hc104_22).2.2.2 ?_
          show Steps p.tables e below (T20.setTop (mkF m 107 #[.val (.ref a), .val (.ref l1), .val (.ref s_NONE), .val (.int i), .val (.int ((i + (0 : Int32)) + (0 : Int32)))] [(.int ((i + (0 : Int32)) + (0 : Int32))), (.ref s_NONE), (.int i), (.ref b19), (.ref b19)])) _
          refine XS.iconst X20.here hx rfl (hb hby d14_107) ?_
          show Steps p.tables e below (T20.setTop (mkF m 108 #[.val (.ref a), .val (.ref l1), .val (.ref s_NONE), .val (.int i), .val (.int ((i + (0 : Int32)) + (0 : Int32)))] [(.int (1 : Int32)), (.int ((i + (0 : Int32)) + (0 : Int32))), (.ref s_NONE), (.int i), (.ref b19), (.ref b19)])) _
          refine XS.goto X20.here hx rfl (pc0 := 108) (pc' := 112) rfl (hb hby d14_108) (by decide) (by decide) ?_
          show Steps p.tables e below (T20.setTop (mkF m 112 #[.val (.ref a), .val (.ref l1), .val (.ref s_NONE), .val (.int i), .val (.int ((i + (0 : Int32)) + (0 : Int32)))] [(.int (1 : Int32)), (.int ((i + (0 : Int32)) + (0 : Int32))), (.ref s_NONE), (.int i), (.ref b19), (.ref b19)])) _
          refine st23.trans ?_
          show Steps p.tables e below (T23.setTop (mkF m 115 #[.val (.ref a), .val (.ref l1), .val (.ref s_NONE), .val (.int i), .val (.int ((i + (0 : Int32)) + (0 : Int32)))] [(.ref b19)])) _
          exact k
        obtain ⟨fs, hr, hrun, hended, hW, hsame⟩ := X23.leave (v := some (.ref b19)) (fun h => by rw [Bd.returns] at h; cases h)
        refine ⟨_, _, w24 _ ?_, hrun, hended, _, _, rfl, ?_, ⟨_, rfl⟩, hW, hsame.mono (by decide) (by decide)⟩
        · jvm_step X23.here [X23.here.top, hx, (hb hby d14_115), X23.method', Bd.returns, Value.isRef, FieldType.isReference]
          first | (intro acts; rw [hr _ acts rfl rfl rfl]) | rw [hr _ _ rfl rfl rfl]
          exact Steps.refl _
        · show Q14 Z a l1 d kb x1 x2 i m12 mal cl_s_cacheI s_NONE s_CRITICAL s_FUMBLE s_EMPTY s_cacheI h0 n0 _ T23.heap _
          exact ⟨b19, rfl, N23, K, A19, (by simp only [own_sp, own_qn hc37_10, own_qn hc67_16, if_true, if_false]; exact F_special_a_c23)⟩
      · obtain ⟨_, _, ⟨T25, L25, k25, n25⟩, -, X25, ⟨Lc25, hQ25, l25, y25, z25⟩, st25⟩ := X20.specialBack hx (y := (⟨"com/example/hantei/hantei/packs/plandice/PlanDiceCheck$Resolution", "<init>", "(ILcom/example/hantei/hantei/engine/Special;IZ)V"⟩ : MethodName)) rfl hown (mvT hZ (hw _ (List.mem_of_getElem? (i := 253) rfl))) (mvT hZ (hw _ (List.mem_of_getElem? (i := 254) rfl))) (mvT hZ (hw _ (List.mem_of_getElem? (i := 255) rfl))) (by decide) (backOf (W := 1) (rm36 l Z a0 hw [] b19 i s_NONE ((i + (0 : Int32)) + (0 : Int32)) (0 : Int32) h19 n0 O A19 F_diceValue_b19 F_special_b19 F_successValue_b19 F_succeeded_b19 g_b19) hZ (hw _ (List.mem_of_getElem? (i := 255) rfl)) (hw _ (List.mem_of_getElem? (i := 252) rfl)) (by decide) (by decide)) (g := (mkF m 112 #[.val (.ref a), .val (.ref l1), .val (.ref s_NONE), .val (.int i), .val (.int ((i + (0 : Int32)) + (0 : Int32)))] [(.int (0 : Int32)), (.int ((i + (0 : Int32)) + (0 : Int32))), (.ref s_NONE), (.int i), (.ref b19), (.ref b19)])) rfl (by rw [hml]; rfl) (Steps.refl _) (a := b19) (argsL := [(.int i), (.ref s_NONE), (.int ((i + (0 : Int32)) + (0 : Int32))), (.int (0 : Int32))]) (rest := [(.ref b19)]) (lenOf pd__40ILcom_47example_47hantei_47hantei_47engine_47Special_59IZ_41V rfl) rfl (by show 2 * 0 + _ ≤ _; exact Nat.le_of_eq rfl) (hb hby d14_112) (fun _ _ => ⟨rfl, e20, (by decide : 9 + 0 ≤ _), (by decide : 20 + 0 ≤ _)⟩)
        dsimp only [Pt.U, Pt.locs, Pt.cells, Pt.slots] at X25 l25 y25 z25 st25 hQ25
        subst l25 y25 z25
        obtain ⟨rfl, N25q, K25, F_special_a_c25⟩ := hQ25
        have N25 := Fr.app N14 N25q
        have E_a := E_a.keep K25
        have F_plan_a := F_plan_a.keep K25 (ninS ne_a_b19 nin0)
        have F_judgement_a := F_judgement_a.keep K25 (ninS ne_a_b19 nin0)
        have F_target_a := F_target_a.keep K25 (ninS ne_a_b19 nin0)
        have E_l1 := E_l1.keep K25
        have F_m_l1 := F_m_l1.keep K25 (ninS ne_l1_b19 nin0)
        have F_e_l1 := F_e_l1.keep K25 (ninS ne_l1_b19 nin0)
        have F_s_l1 := F_s_l1.keep K25 (ninS ne_l1_b19 nin0)
        have V_d := V_d.keep K25 (ninS ne_d_b19 nin0)
        have E_x1 := E_x1.keep K25
        have F_v_x1 := F_v_x1.keep K25 (ninS ne_x1_b19 nin0)
        have E_x2 := E_x2.keep K25
        have F_v_x2 := F_v_x2.keep K25 (ninS ne_x2_b19 nin0)
        have E_EMPTY := E_EMPTY.keep K25
        have E_z_c5 := E_z_c5.keep K25
        have F_v_z_c5 := F_v_z_c5.keep K25 (ninS ne_z_5_b19 nin0)
        have E_z_c6 := E_z_c6.keep K25
        have F_v_z_c6 := F_v_z_c6.keep K25 (ninS ne_z_6_b19 nin0)
        have E_z_c7 := E_z_c7.keep K25
        have F_e0_z_c7 := F_e0_z_c7.keep K25 (ninS ne_z_7_b19 nin0)
        have F_e1_z_c7 := F_e1_z_c7.keep K25 (ninS ne_z_7_b19 nin0)
        have E_z_c11 := E_z_c11.keep K25
        have F_v_z_c11 := F_v_z_c11.keep K25 (ninS ne_z_11_b19 nin0)
        have E_z_c12 := E_z_c12.keep K25
        have F_v_z_c12 := F_v_z_c12.keep K25 (ninS ne_z_12_b19 nin0)
        have E_z_c13 := E_z_c13.keep K25
        have F_e0_z_c13 := F_e0_z_c13.keep K25 (ninS ne_z_13_b19 nin0)
        have F_e1_z_c13 := F_e1_z_c13.keep K25 (ninS ne_z_13_b19 nin0)
        have A19 := A19.keep K25
        have O := O.keep K25 (allS g_b19 all0)
        have K := K.trans K25 (allS (Or.inr z_b19) all0)
        have w26 : ∀ t, Steps p.tables e below (T25.setTop (mkF m 115 #[.val (.ref a), .val (.ref l1), .val (.ref s_NONE), .val (.int i), .val (.int ((i + (0 : Int32)) + (0 : Int32)))] [(.ref b19)])) t → Steps p.tables e below (s₁.setTop (entryFrame m #[(.ref a), (.ref l1)] 5)) t := fun t k => by
          refine w21 t ?_
          refine XS.icmpYes X20.here hx rfl (pc0 := 104) (pc' := 111) rfl (hb hby d14_104) rfl (flt hc104_22).2.2.2 (by decide) (by decide) ?_
          show Steps p.tables e below (T20.setTop (mkF m 111 #[.val (.ref a), .val (.ref l1), .val (.ref s_NONE), .val (.int i), .val (.int ((i + (0 : Int32)) + (0 : Int32)))] [(.int ((i + (0 : Int32)) + (0 : Int32))), (.ref s_NONE), (.int i), (.ref b19), (.ref b19)])) _
          refine XS.iconst X20.here hx rfl (hb hby d14_111) ?_
          show Steps p.tables e below (T20.setTop (mkF m 112 #[.val (.ref a), .val (.ref l1), .val (.ref s_NONE), .val (.int i), .val (.int ((i + (0 : Int32)) + (0 : Int32)))] [(.int (0 : Int32)), (.int ((i + (0 : Int32)) + (0 : Int32))), (.ref s_NONE), (.int i), (.ref b19), (.ref b19)])) _
          refine st25.trans ?_
          show Steps p.tables e below (T25.setTop (mkF m 115 #[.val (.ref a), .val (.ref l1), .val (.ref s_NONE), .val (.int i), .val (.int ((i + (0 : Int32)) + (0 : Int32)))] [(.ref b19)])) _
          exact k
        obtain ⟨fs, hr, hrun, hended, hW, hsame⟩ := X25.leave (v := some (.ref b19)) (fun h => by rw [Bd.returns] at h; cases h)
        refine ⟨_, _, w26 _ ?_, hrun, hended, _, _, rfl, ?_, ⟨_, rfl⟩, hW, hsame.mono (by decide) (by decide)⟩
        · jvm_step X25.here [X25.here.top, hx, (hb hby d14_115), X25.method', Bd.returns, Value.isRef, FieldType.isReference]
          first | (intro acts; rw [hr _ acts rfl rfl rfl]) | rw [hr _ _ rfl rfl rfl]
          exact Steps.refl _
        · show Q14 Z a l1 d kb x1 x2 i m12 mal cl_s_cacheI s_NONE s_CRITICAL s_FUMBLE s_EMPTY s_cacheI h0 n0 _ T25.heap _
          exact ⟨b19, rfl, N25, K, A19, (by simp only [own_sp, own_qn hc37_10, own_qn hc67_16, if_true, if_false]; exact F_special_a_c25)⟩
    · obtain ⟨T27, X27, e27, st27⟩ := getS2 X14 hx hZ hown (host := "") (Or.inl (hw _ (List.mem_of_getElem? (i := 284) rfl))) Via.refl rfl (S_s_FUMBLE.ext O.2) (g := (mkF m 70 #[.val (.ref a), .val (.ref l1), .val (.ref s_NONE), .val (.int i), .unset] [])) rfl (hb hby d14_70)
      obtain ⟨T28, X28, e28, st28⟩ := getF X27 hx hZ hown (host := "") (Or.inl (hw _ (List.mem_of_getElem? (i := 79) rfl))) Via.refl e27 F_plan_a (g := (mkF m 79 #[.val (.ref a), .val (.ref l1), .val (.ref s_FUMBLE), .val (.int (-10 : Int32)), .unset] [(.ref a), (.int (-10 : Int32))])) rfl rfl (hb hby d14_79)
      obtain ⟨T29, X29, e29, st29⟩ := getF X28 hx hZ hown (host := "") (Or.inl (hw _ (List.mem_of_getElem? (i := 81) rfl))) Via.refl e28 F_judgement_a (g := (mkF m 84 #[.val (.ref a), .val (.ref l1), .val (.ref s_FUMBLE), .val (.int (-10 : Int32)), .unset] [(.ref a), (.int (-10 : Int32))])) rfl rfl (hb hby d14_84)
      obtain ⟨T30, h30, X30, e30, E30, A30, D30, -, st30⟩ := newO X29 hx hZ hown (hw _ (List.mem_of_getElem? (i := 250) rfl)) (hw _ (List.mem_of_getElem? (i := 251) rfl)) (hw _ (List.mem_of_getElem? (i := 252) rfl)) e29 (g := (mkF m 90 #[.val (.ref a), .val (.ref l1), .val (.ref s_FUMBLE), .val (.int (-10 : Int32)), .val (.int (-10 : Int32))] [])) rfl (hb hby d14_90) (by decide) (by decide)
      obtain ⟨b30, gq30⟩ : ∃ z, z = Array.size T14.heap := ⟨_, rfl⟩
      rw [← gq30] at A30 D30 st30
      have ne_a_b30 : a ≠ b30 := Nat.ne_of_lt (Nat.lt_of_lt_of_le E_a.lt (Nat.le_of_eq gq30.symm))
      have ne_l1_b30 : l1 ≠ b30 := Nat.ne_of_lt (Nat.lt_of_lt_of_le E_l1.lt (Nat.le_of_eq gq30.symm))
      have ne_d_b30 : d ≠ b30 := Nat.ne_of_lt (Nat.lt_of_lt_of_le V_d.lt (Nat.le_of_eq gq30.symm))
      have ne_x1_b30 : x1 ≠ b30 := Nat.ne_of_lt (Nat.lt_of_lt_of_le E_x1.lt (Nat.le_of_eq gq30.symm))
      have ne_x2_b30 : x2 ≠ b30 := Nat.ne_of_lt (Nat.lt_of_lt_of_le E_x2.lt (Nat.le_of_eq gq30.symm))
      have ne_s_EMPTY_b30 : s_EMPTY ≠ b30 := Nat.ne_of_lt (Nat.lt_of_lt_of_le E_EMPTY.lt (Nat.le_of_eq gq30.symm))
      have ne_z_5_b30 : z_5 ≠ b30 := Nat.ne_of_lt (Nat.lt_of_lt_of_le E_z_c5.lt (Nat.le_of_eq gq30.symm))
      have ne_z_6_b30 : z_6 ≠ b30 := Nat.ne_of_lt (Nat.lt_of_lt_of_le E_z_c6.lt (Nat.le_of_eq gq30.symm))
      have ne_z_7_b30 : z_7 ≠ b30 := Nat.ne_of_lt (Nat.lt_of_lt_of_le E_z_c7.lt (Nat.le_of_eq gq30.symm))
      have ne_z_11_b30 : z_11 ≠ b30 := Nat.ne_of_lt (Nat.lt_of_lt_of_le E_z_c11.lt (Nat.le_of_eq gq30.symm))
      have ne_z_12_b30 : z_12 ≠ b30 := Nat.ne_of_lt (Nat.lt_of_lt_of_le E_z_c12.lt (Nat.le_of_eq gq30.symm))
      have ne_z_13_b30 : z_13 ≠ b30 := Nat.ne_of_lt (Nat.lt_of_lt_of_le E_z_c13.lt (Nat.le_of_eq gq30.symm))
      have g_b30 : n0 ≤ b30 := Nat.le_trans (O.1 ▸ O.2.1) (Nat.le_of_eq gq30.symm)
      have z_b30 : h0.size ≤ b30 := Nat.le_trans K.1 (Nat.le_of_eq gq30.symm)
      have E_a := E_a.ext E30
      have F_plan_a := F_plan_a.ext E30
      have F_judgement_a := F_judgement_a.ext E30
      have F_target_a := F_target_a.ext E30
      have E_l1 := E_l1.ext E30
      have F_m_l1 := F_m_l1.ext E30
      have F_e_l1 := F_e_l1.ext E30
      have F_s_l1 := F_s_l1.ext E30
      have V_d := V_d.ext E30
      have E_x1 := E_x1.ext E30
      have F_v_x1 := F_v_x1.ext E30
      have E_x2 := E_x2.ext E30
      have F_v_x2 := F_v_x2.ext E30
      have E_EMPTY := E_EMPTY.ext E30
      have E_z_c5 := E_z_c5.ext E30
      have F_v_z_c5 := F_v_z_c5.ext E30
      have E_z_c6 := E_z_c6.ext E30
      have F_v_z_c6 := F_v_z_c6.ext E30
      have E_z_c7 := E_z_c7.ext E30
      have F_e0_z_c7 := F_e0_z_c7.ext E30
      have F_e1_z_c7 := F_e1_z_c7.ext E30
      have E_z_c11 := E_z_c11.ext E30
      have F_v_z_c11 := F_v_z_c11.ext E30
      have E_z_c12 := E_z_c12.ext E30
      have F_v_z_c12 := F_v_z_c12.ext E30
      have E_z_c13 := E_z_c13.ext E30
      have F_e0_z_c13 := F_e0_z_c13.ext E30
      have F_e1_z_c13 := F_e1_z_c13.ext E30
      have O := O.ext E30
      have K := K.ext E30
      have F_diceValue_b30 : Fld Z h30 b30 "com/example/hantei/hantei/packs/plandice/PlanDiceCheck$Resolution" "diceValue" "I" (.int (0 : Int32)) := D30 (Or.inr (hw _ (List.mem_of_getElem? (i := 258) rfl))) (ty := .int) (by decide)
      have F_special_b30 : Fld Z h30 b30 "com/example/hantei/hantei/packs/plandice/PlanDiceCheck$Resolution" "special" "Lcom/example/hantei/hantei/engine/Special;" .null := D30 (Or.inr (hw _ (List.mem_of_getElem? (i := 260) rfl))) (ty := (.object "com/example/hantei/hantei/engine/Special")) (by decide)
      have F_successValue_b30 : Fld Z h30 b30 "com/example/hantei/hantei/packs/plandice/PlanDiceCheck$Resolution" "successValue" "I" (.int (0 : Int32)) := D30 (Or.inr (hw _ (List.mem_of_getElem? (i := 262) rfl))) (ty := .int) (by decide)
      have F_succeeded_b30 : Fld Z h30 b30 "com/example/hantei/hantei/packs/plandice/PlanDiceCheck$Resolution" "succeeded" "Z" (.int (0 : Int32)) := D30 (Or.inr (hw _ (List.mem_of_getElem? (i := 264) rfl))) (ty := .boolean) (by decide)
      obtain ⟨T31, X31, e31, st31⟩ := getF X30 hx hZ hown (host := "") (Or.inl (hw _ (List.mem_of_getElem? (i := 83) rfl))) Via.refl e30 F_target_a (g := (mkF m 101 #[.val (.ref a), .val (.ref l1), .val (.ref s_FUMBLE), .val (.int (-10 : Int32)), .val (.int (-10 : Int32))] [(.ref a), (.int (-10 : Int32)), (.int (-10 : Int32)), (.ref s_FUMBLE), (.int (-10 : Int32)), (.ref b30), (.ref b30)])) rfl rfl (hb hby d14_101)
      obtain ⟨_, _, ⟨T32, L32, k32, n32⟩, -, X32, ⟨Lc32, hQ32, l32, y32, z32⟩, st32⟩ := X31.specialBack hx (y := (⟨"com/example/hantei/hantei/packs/plandice/PlanDiceCheck$Resolution", "<init>", "(ILcom/example/hantei/hantei/engine/Special;IZ)V"⟩ : MethodName)) rfl hown (mvT hZ (hw _ (List.mem_of_getElem? (i := 253) rfl))) (mvT hZ (hw _ (List.mem_of_getElem? (i := 254) rfl))) (mvT hZ (hw _ (List.mem_of_getElem? (i := 255) rfl))) (by decide) (backOf (W := 1) (rm36 l Z a0 hw [] b30 (-10 : Int32) s_FUMBLE (-10 : Int32) (0 : Int32) h30 n0 O A30 F_diceValue_b30 F_special_b30 F_successValue_b30 F_succeeded_b30 g_b30) hZ (hw _ (List.mem_of_getElem? (i := 255) rfl)) (hw _ (List.mem_of_getElem? (i := 252) rfl)) (by decide) (by decide)) (g := (mkF m 112 #[.val (.ref a), .val (.ref l1), .val (.ref s_FUMBLE), .val (.int (-10 : Int32)), .val (.int (-10 : Int32))] [(.int (0 : Int32)), (.int (-10 : Int32)), (.ref s_FUMBLE), (.int (-10 : Int32)), (.ref b30), (.ref b30)])) rfl (by rw [hml]; rfl) (Steps.refl _) (a := b30) (argsL := [(.int (-10 : Int32)), (.ref s_FUMBLE), (.int (-10 : Int32)), (.int (0 : Int32))]) (rest := [(.ref b30)]) (lenOf pd__40ILcom_47example_47hantei_47hantei_47engine_47Special_59IZ_41V rfl) rfl (by show 2 * 0 + _ ≤ _; exact Nat.le_of_eq rfl) (hb hby d14_112) (fun _ _ => ⟨rfl, e31, (by decide : 9 + 0 ≤ _), (by decide : 20 + 0 ≤ _)⟩)
      dsimp only [Pt.U, Pt.locs, Pt.cells, Pt.slots] at X32 l32 y32 z32 st32 hQ32
      subst l32 y32 z32
      obtain ⟨rfl, N32q, K32, F_special_a_c32⟩ := hQ32
      have N32 := Fr.app N14 N32q
      have E_a := E_a.keep K32
      have F_plan_a := F_plan_a.keep K32 (ninS ne_a_b30 nin0)
      have F_judgement_a := F_judgement_a.keep K32 (ninS ne_a_b30 nin0)
      have F_target_a := F_target_a.keep K32 (ninS ne_a_b30 nin0)
      have E_l1 := E_l1.keep K32
      have F_m_l1 := F_m_l1.keep K32 (ninS ne_l1_b30 nin0)
      have F_e_l1 := F_e_l1.keep K32 (ninS ne_l1_b30 nin0)
      have F_s_l1 := F_s_l1.keep K32 (ninS ne_l1_b30 nin0)
      have V_d := V_d.keep K32 (ninS ne_d_b30 nin0)
      have E_x1 := E_x1.keep K32
      have F_v_x1 := F_v_x1.keep K32 (ninS ne_x1_b30 nin0)
      have E_x2 := E_x2.keep K32
      have F_v_x2 := F_v_x2.keep K32 (ninS ne_x2_b30 nin0)
      have E_EMPTY := E_EMPTY.keep K32
      have E_z_c5 := E_z_c5.keep K32
      have F_v_z_c5 := F_v_z_c5.keep K32 (ninS ne_z_5_b30 nin0)
      have E_z_c6 := E_z_c6.keep K32
      have F_v_z_c6 := F_v_z_c6.keep K32 (ninS ne_z_6_b30 nin0)
      have E_z_c7 := E_z_c7.keep K32
      have F_e0_z_c7 := F_e0_z_c7.keep K32 (ninS ne_z_7_b30 nin0)
      have F_e1_z_c7 := F_e1_z_c7.keep K32 (ninS ne_z_7_b30 nin0)
      have E_z_c11 := E_z_c11.keep K32
      have F_v_z_c11 := F_v_z_c11.keep K32 (ninS ne_z_11_b30 nin0)
      have E_z_c12 := E_z_c12.keep K32
      have F_v_z_c12 := F_v_z_c12.keep K32 (ninS ne_z_12_b30 nin0)
      have E_z_c13 := E_z_c13.keep K32
      have F_e0_z_c13 := F_e0_z_c13.keep K32 (ninS ne_z_13_b30 nin0)
      have F_e1_z_c13 := F_e1_z_c13.keep K32 (ninS ne_z_13_b30 nin0)
      have A30 := A30.keep K32
      have O := O.keep K32 (allS g_b30 all0)
      have K := K.trans K32 (allS (Or.inr z_b30) all0)
      have w33 : ∀ t, Steps p.tables e below (T32.setTop (mkF m 115 #[.val (.ref a), .val (.ref l1), .val (.ref s_FUMBLE), .val (.int (-10 : Int32)), .val (.int (-10 : Int32))] [(.ref b30)])) t → Steps p.tables e below (s₁.setTop (entryFrame m #[(.ref a), (.ref l1)] 5)) t := fun t k => by
        refine w15 t ?_
        refine XS.ifNo X14.here hx rfl (hb hby d14_67) rfl ((if0 _ _).trans (feq hc67_16).1) ?_
        show Steps p.tables e below (T14.setTop (mkF m 70 #[.val (.ref a), .val (.ref l1), .val (.ref s_NONE), .val (.int i), .unset] [])) _
        refine st27 _ ?_
        show Steps p.tables e below (T27.setTop (mkF m 73 #[.val (.ref a), .val (.ref l1), .val (.ref s_NONE), .val (.int i), .unset] [(.ref s_FUMBLE)])) _
        refine XS.astoreN X27.here hx rfl (hb hby d14_73) rfl rfl (l' := #[.val (.ref a), .val (.ref l1), .val (.ref s_FUMBLE), .val (.int i), .unset]) rfl ?_
        show Steps p.tables e below (T27.setTop (mkF m 74 #[.val (.ref a), .val (.ref l1), .val (.ref s_FUMBLE), .val (.int i), .unset] [])) _
        refine XS.bipush X27.here hx rfl (hb hby d14_74) ?_
        show Steps p.tables e below (T27.setTop (mkF m 76 #[.val (.ref a), .val (.ref l1), .val (.ref s_FUMBLE), .val (.int i), .unset] [(.int (-10 : Int32))])) _
        refine XS.istoreN X27.here hx rfl (hb hby d14_76) rfl (l' := #[.val (.ref a), .val (.ref l1), .val (.ref s_FUMBLE), .val (.int (-10 : Int32)), .unset]) rfl ?_
        show Steps p.tables e below (T27.setTop (mkF m 77 #[.val (.ref a), .val (.ref l1), .val (.ref s_FUMBLE), .val (.int (-10 : Int32)), .unset] [])) _
        refine XS.iloadN X27.here hx rfl (hb hby d14_77) rfl ?_
        show Steps p.tables e below (T27.setTop (mkF m 78 #[.val (.ref a), .val (.ref l1), .val (.ref s_FUMBLE), .val (.int (-10 : Int32)), .unset] [(.int (-10 : Int32))])) _
        refine XS.aloadN X27.here hx rfl (hb hby d14_78) rfl rfl ?_
        show Steps p.tables e below (T27.setTop (mkF m 79 #[.val (.ref a), .val (.ref l1), .val (.ref s_FUMBLE), .val (.int (-10 : Int32)), .unset] [(.ref a), (.int (-10 : Int32))])) _
        refine st28 _ ?_
        show Steps p.tables e below (T28.setTop (mkF m 82 #[.val (.ref a), .val (.ref l1), .val (.ref s_FUMBLE), .val (.int (-10 : Int32)), .unset] [(.int (0 : Int32)), (.int (-10 : Int32))])) _
        refine XS.iadd X28.here hx rfl (hb hby d14_82) rfl ?_
        show Steps p.tables e below (T28.setTop (mkF m 83 #[.val (.ref a), .val (.ref l1), .val (.ref s_FUMBLE), .val (.int (-10 : Int32)), .unset] [(.int (-10 : Int32))])) _
        refine XS.aloadN X28.here hx rfl (hb hby d14_83) rfl rfl ?_
        show Steps p.tables e below (T28.setTop (mkF m 84 #[.val (.ref a), .val (.ref l1), .val (.ref s_FUMBLE), .val (.int (-10 : Int32)), .unset] [(.ref a), (.int (-10 : Int32))])) _
        refine st29 _ ?_
        show Steps p.tables e below (T29.setTop (mkF m 87 #[.val (.ref a), .val (.ref l1), .val (.ref s_FUMBLE), .val (.int (-10 : Int32)), .unset] [(.int (0 : Int32)), (.int (-10 : Int32))])) _
        refine XS.iadd X29.here hx rfl (hb hby d14_87) rfl ?_
        show Steps p.tables e below (T29.setTop (mkF m 88 #[.val (.ref a), .val (.ref l1), .val (.ref s_FUMBLE), .val (.int (-10 : Int32)), .unset] [(.int (-10 : Int32))])) _
        refine XS.istore X29.here hx rfl (hb hby d14_88) rfl (l' := #[.val (.ref a), .val (.ref l1), .val (.ref s_FUMBLE), .val (.int (-10 : Int32)), .val (.int (-10 : Int32))]) rfl ?_
        show Steps p.tables e below (T29.setTop (mkF m 90 #[.val (.ref a), .val (.ref l1), .val (.ref s_FUMBLE), .val (.int (-10 : Int32)), .val (.int (-10 : Int32))] [])) _
        refine st30 _ ?_
        show Steps p.tables e below (T30.setTop (mkF m 93 #[.val (.ref a), .val (.ref l1), .val (.ref s_FUMBLE), .val (.int (-10 : Int32)), .val (.int (-10 : Int32))] [(.ref b30)])) _
        refine XS.dup X30.here hx rfl (hb hby d14_93) rfl rfl ?_
        show Steps p.tables e below (T30.setTop (mkF m 94 #[.val (.ref a), .val (.ref l1), .val (.ref s_FUMBLE), .val (.int (-10 : Int32)), .val (.int (-10 : Int32))] [(.ref b30), (.ref b30)])) _
        refine XS.iloadN X30.here hx rfl (hb hby d14_94) rfl ?_
        show Steps p.tables e below (T30.setTop (mkF m 95 #[.val (.ref a), .val (.ref l1), .val (.ref s_FUMBLE), .val (.int (-10 : Int32)), .val (.int (-10 : Int32))] [(.int (-10 : Int32)), (.ref b30), (.ref b30)])) _
        refine XS.aloadN X30.here hx rfl (hb hby d14_95) rfl rfl ?_
        show Steps p.tables e below (T30.setTop (mkF m 96 #[.val (.ref a), .val (.ref l1), .val (.ref s_FUMBLE), .val (.int (-10 : Int32)), .val (.int (-10 : Int32))] [(.ref s_FUMBLE), (.int (-10 : Int32)), (.ref b30), (.ref b30)])) _
        refine XS.iload X30.here hx rfl (hb hby d14_96) rfl ?_
        show Steps p.tables e below (T30.setTop (mkF m 98 #[.val (.ref a), .val (.ref l1), .val (.ref s_FUMBLE), .val (.int (-10 : Int32)), .val (.int (-10 : Int32))] [(.int (-10 : Int32)), (.ref s_FUMBLE), (.int (-10 : Int32)), (.ref b30), (.ref b30)])) _
        refine XS.iload X30.here hx rfl (hb hby d14_98) rfl ?_
        show Steps p.tables e below (T30.setTop (mkF m 100 #[.val (.ref a), .val (.ref l1), .val (.ref s_FUMBLE), .val (.int (-10 : Int32)), .val (.int (-10 : Int32))] [(.int (-10 : Int32)), (.int (-10 : Int32)), (.ref s_FUMBLE), (.int (-10 : Int32)), (.ref b30), (.ref b30)])) _
        refine XS.aloadN X30.here hx rfl (hb hby d14_100) rfl rfl ?_
        show Steps p.tables e below (T30.setTop (mkF m 101 #[.val (.ref a), .val (.ref l1), .val (.ref s_FUMBLE), .val (.int (-10 : Int32)), .val (.int (-10 : Int32))] [(.ref a), (.int (-10 : Int32)), (.int (-10 : Int32)), (.ref s_FUMBLE), (.int (-10 : Int32)), (.ref b30), (.ref b30)])) _
        refine st31 _ ?_
        show Steps p.tables e below (T31.setTop (mkF m 104 #[.val (.ref a), .val (.ref l1), .val (.ref s_FUMBLE), .val (.int (-10 : Int32)), .val (.int (-10 : Int32))] [(.int (0 : Int32)), (.int (-10 : Int32)), (.int (-10 : Int32)), (.ref s_FUMBLE), (.int (-10 : Int32)), (.ref b30), (.ref b30)])) _
        refine XS.icmpYes X31.here hx rfl (pc0 := 104) (pc' := 111) rfl (hb hby d14_104) rfl (flt ((by decide) : ¬ ((0 : Int32) < (-10 : Int32)))).2.2.2 (by decide) (by decide) ?_
        show Steps p.tables e below (T31.setTop (mkF m 111 #[.val (.ref a), .val (.ref l1), .val (.ref s_FUMBLE), .val (.int (-10 : Int32)), .val (.int (-10 : Int32))] [(.int (-10 : Int32)), (.ref s_FUMBLE), (.int (-10 : Int32)), (.ref b30), (.ref b30)])) _
        refine XS.iconst X31.here hx rfl (hb hby d14_111) ?_
        show Steps p.tables e below (T31.setTop (mkF m 112 #[.val (.ref a), .val (.ref l1), .val (.ref s_FUMBLE), .val (.int (-10 : Int32)), .val (.int (-10 : Int32))] [(.int (0 : Int32)), (.int (-10 : Int32)), (.ref s_FUMBLE), (.int (-10 : Int32)), (.ref b30), (.ref b30)])) _
        refine st32.trans ?_
        show Steps p.tables e below (T32.setTop (mkF m 115 #[.val (.ref a), .val (.ref l1), .val (.ref s_FUMBLE), .val (.int (-10 : Int32)), .val (.int (-10 : Int32))] [(.ref b30)])) _
        exact k
      obtain ⟨fs, hr, hrun, hended, hW, hsame⟩ := X32.leave (v := some (.ref b30)) (fun h => by rw [Bd.returns] at h; cases h)
      refine ⟨_, _, w33 _ ?_, hrun, hended, _, _, rfl, ?_, ⟨_, rfl⟩, hW, hsame.mono (by decide) (by decide)⟩
      · jvm_step X32.here [X32.here.top, hx, (hb hby d14_115), X32.method', Bd.returns, Value.isRef, FieldType.isReference]
        first | (intro acts; rw [hr _ acts rfl rfl rfl]) | rw [hr _ _ rfl rfl rfl]
        exact Steps.refl _
      · show Q14 Z a l1 d kb x1 x2 i m12 mal cl_s_cacheI s_NONE s_CRITICAL s_FUMBLE s_EMPTY s_cacheI h0 n0 _ T32.heap _
        exact ⟨b30, rfl, N32, K, A30, (by simp only [own_sp, own_qn hc37_10, own_qy hc67_16, if_true, if_false]; exact F_special_a_c32)⟩
  · obtain ⟨T34, X34, e34, st34⟩ := getS2 X8 hx hZ hown (host := "") (Or.inl (hw _ (List.mem_of_getElem? (i := 271) rfl))) Via.refl rfl (S_s_CRITICAL.ext O.2) (g := (mkF m 40 #[.val (.ref a), .val (.ref l1), .val (.ref s_NONE), .val (.int i), .unset] [])) rfl (hb hby d14_40)
    obtain ⟨T35, X35, e35, st35⟩ := getF X34 hx hZ hown (host := "") (Or.inl (hw _ (List.mem_of_getElem? (i := 79) rfl))) Via.refl e34 F_plan_a (g := (mkF m 79 #[.val (.ref a), .val (.ref l1), .val (.ref s_CRITICAL), .val (.int (10 : Int32)), .unset] [(.ref a), (.int (10 : Int32))])) rfl rfl (hb hby d14_79)
    obtain ⟨T36, X36, e36, st36⟩ := getF X35 hx hZ hown (host := "") (Or.inl (hw _ (List.mem_of_getElem? (i := 81) rfl))) Via.refl e35 F_judgement_a (g := (mkF m 84 #[.val (.ref a), .val (.ref l1), .val (.ref s_CRITICAL), .val (.int (10 : Int32)), .unset] [(.ref a), (.int (10 : Int32))])) rfl rfl (hb hby d14_84)
    obtain ⟨T37, h37, X37, e37, E37, A37, D37, -, st37⟩ := newO X36 hx hZ hown (hw _ (List.mem_of_getElem? (i := 250) rfl)) (hw _ (List.mem_of_getElem? (i := 251) rfl)) (hw _ (List.mem_of_getElem? (i := 252) rfl)) e36 (g := (mkF m 90 #[.val (.ref a), .val (.ref l1), .val (.ref s_CRITICAL), .val (.int (10 : Int32)), .val (.int (10 : Int32))] [])) rfl (hb hby d14_90) (by decide) (by decide)
    obtain ⟨b37, gq37⟩ : ∃ z, z = Array.size T8.heap := ⟨_, rfl⟩
    rw [← gq37] at A37 D37 st37
    have ne_a_b37 : a ≠ b37 := Nat.ne_of_lt (Nat.lt_of_lt_of_le E_a.lt (Nat.le_of_eq gq37.symm))
    have ne_l1_b37 : l1 ≠ b37 := Nat.ne_of_lt (Nat.lt_of_lt_of_le E_l1.lt (Nat.le_of_eq gq37.symm))
    have ne_d_b37 : d ≠ b37 := Nat.ne_of_lt (Nat.lt_of_lt_of_le V_d.lt (Nat.le_of_eq gq37.symm))
    have ne_x1_b37 : x1 ≠ b37 := Nat.ne_of_lt (Nat.lt_of_lt_of_le E_x1.lt (Nat.le_of_eq gq37.symm))
    have ne_x2_b37 : x2 ≠ b37 := Nat.ne_of_lt (Nat.lt_of_lt_of_le E_x2.lt (Nat.le_of_eq gq37.symm))
    have ne_s_EMPTY_b37 : s_EMPTY ≠ b37 := Nat.ne_of_lt (Nat.lt_of_lt_of_le E_EMPTY.lt (Nat.le_of_eq gq37.symm))
    have ne_z_5_b37 : z_5 ≠ b37 := Nat.ne_of_lt (Nat.lt_of_lt_of_le E_z_c5.lt (Nat.le_of_eq gq37.symm))
    have ne_z_6_b37 : z_6 ≠ b37 := Nat.ne_of_lt (Nat.lt_of_lt_of_le E_z_c6.lt (Nat.le_of_eq gq37.symm))
    have ne_z_7_b37 : z_7 ≠ b37 := Nat.ne_of_lt (Nat.lt_of_lt_of_le E_z_c7.lt (Nat.le_of_eq gq37.symm))
    have g_b37 : n0 ≤ b37 := Nat.le_trans (O.1 ▸ O.2.1) (Nat.le_of_eq gq37.symm)
    have z_b37 : h0.size ≤ b37 := Nat.le_trans K.1 (Nat.le_of_eq gq37.symm)
    have E_a := E_a.ext E37
    have F_plan_a := F_plan_a.ext E37
    have F_judgement_a := F_judgement_a.ext E37
    have F_target_a := F_target_a.ext E37
    have E_l1 := E_l1.ext E37
    have F_m_l1 := F_m_l1.ext E37
    have F_e_l1 := F_e_l1.ext E37
    have F_s_l1 := F_s_l1.ext E37
    have V_d := V_d.ext E37
    have E_x1 := E_x1.ext E37
    have F_v_x1 := F_v_x1.ext E37
    have E_x2 := E_x2.ext E37
    have F_v_x2 := F_v_x2.ext E37
    have E_EMPTY := E_EMPTY.ext E37
    have E_z_c5 := E_z_c5.ext E37
    have F_v_z_c5 := F_v_z_c5.ext E37
    have E_z_c6 := E_z_c6.ext E37
    have F_v_z_c6 := F_v_z_c6.ext E37
    have E_z_c7 := E_z_c7.ext E37
    have F_e0_z_c7 := F_e0_z_c7.ext E37
    have F_e1_z_c7 := F_e1_z_c7.ext E37
    have O := O.ext E37
    have K := K.ext E37
    have F_diceValue_b37 : Fld Z h37 b37 "com/example/hantei/hantei/packs/plandice/PlanDiceCheck$Resolution" "diceValue" "I" (.int (0 : Int32)) := D37 (Or.inr (hw _ (List.mem_of_getElem? (i := 258) rfl))) (ty := .int) (by decide)
    have F_special_b37 : Fld Z h37 b37 "com/example/hantei/hantei/packs/plandice/PlanDiceCheck$Resolution" "special" "Lcom/example/hantei/hantei/engine/Special;" .null := D37 (Or.inr (hw _ (List.mem_of_getElem? (i := 260) rfl))) (ty := (.object "com/example/hantei/hantei/engine/Special")) (by decide)
    have F_successValue_b37 : Fld Z h37 b37 "com/example/hantei/hantei/packs/plandice/PlanDiceCheck$Resolution" "successValue" "I" (.int (0 : Int32)) := D37 (Or.inr (hw _ (List.mem_of_getElem? (i := 262) rfl))) (ty := .int) (by decide)
    have F_succeeded_b37 : Fld Z h37 b37 "com/example/hantei/hantei/packs/plandice/PlanDiceCheck$Resolution" "succeeded" "Z" (.int (0 : Int32)) := D37 (Or.inr (hw _ (List.mem_of_getElem? (i := 264) rfl))) (ty := .boolean) (by decide)
    obtain ⟨T38, X38, e38, st38⟩ := getF X37 hx hZ hown (host := "") (Or.inl (hw _ (List.mem_of_getElem? (i := 83) rfl))) Via.refl e37 F_target_a (g := (mkF m 101 #[.val (.ref a), .val (.ref l1), .val (.ref s_CRITICAL), .val (.int (10 : Int32)), .val (.int (10 : Int32))] [(.ref a), (.int (10 : Int32)), (.int (10 : Int32)), (.ref s_CRITICAL), (.int (10 : Int32)), (.ref b37), (.ref b37)])) rfl rfl (hb hby d14_101)
    obtain ⟨_, _, ⟨T39, L39, k39, n39⟩, -, X39, ⟨Lc39, hQ39, l39, y39, z39⟩, st39⟩ := X38.specialBack hx (y := (⟨"com/example/hantei/hantei/packs/plandice/PlanDiceCheck$Resolution", "<init>", "(ILcom/example/hantei/hantei/engine/Special;IZ)V"⟩ : MethodName)) rfl hown (mvT hZ (hw _ (List.mem_of_getElem? (i := 253) rfl))) (mvT hZ (hw _ (List.mem_of_getElem? (i := 254) rfl))) (mvT hZ (hw _ (List.mem_of_getElem? (i := 255) rfl))) (by decide) (backOf (W := 1) (rm36 l Z a0 hw [] b37 (10 : Int32) s_CRITICAL (10 : Int32) (1 : Int32) h37 n0 O A37 F_diceValue_b37 F_special_b37 F_successValue_b37 F_succeeded_b37 g_b37) hZ (hw _ (List.mem_of_getElem? (i := 255) rfl)) (hw _ (List.mem_of_getElem? (i := 252) rfl)) (by decide) (by decide)) (g := (mkF m 112 #[.val (.ref a), .val (.ref l1), .val (.ref s_CRITICAL), .val (.int (10 : Int32)), .val (.int (10 : Int32))] [(.int (1 : Int32)), (.int (10 : Int32)), (.ref s_CRITICAL), (.int (10 : Int32)), (.ref b37), (.ref b37)])) rfl (by rw [hml]; rfl) (Steps.refl _) (a := b37) (argsL := [(.int (10 : Int32)), (.ref s_CRITICAL), (.int (10 : Int32)), (.int (1 : Int32))]) (rest := [(.ref b37)]) (lenOf pd__40ILcom_47example_47hantei_47hantei_47engine_47Special_59IZ_41V rfl) rfl (by show 2 * 0 + _ ≤ _; exact Nat.le_of_eq rfl) (hb hby d14_112) (fun _ _ => ⟨rfl, e38, (by decide : 5 + 0 ≤ _), (by decide : 12 + 0 ≤ _)⟩)
    dsimp only [Pt.U, Pt.locs, Pt.cells, Pt.slots] at X39 l39 y39 z39 st39 hQ39
    subst l39 y39 z39
    obtain ⟨rfl, N39q, K39, F_special_a_c39⟩ := hQ39
    have N39 := Fr.app N8 N39q
    have E_a := E_a.keep K39
    have F_plan_a := F_plan_a.keep K39 (ninS ne_a_b37 nin0)
    have F_judgement_a := F_judgement_a.keep K39 (ninS ne_a_b37 nin0)
    have F_target_a := F_target_a.keep K39 (ninS ne_a_b37 nin0)
    have E_l1 := E_l1.keep K39
    have F_m_l1 := F_m_l1.keep K39 (ninS ne_l1_b37 nin0)
    have F_e_l1 := F_e_l1.keep K39 (ninS ne_l1_b37 nin0)
    have F_s_l1 := F_s_l1.keep K39 (ninS ne_l1_b37 nin0)
    have V_d := V_d.keep K39 (ninS ne_d_b37 nin0)
    have E_x1 := E_x1.keep K39
    have F_v_x1 := F_v_x1.keep K39 (ninS ne_x1_b37 nin0)
    have E_x2 := E_x2.keep K39
    have F_v_x2 := F_v_x2.keep K39 (ninS ne_x2_b37 nin0)
    have E_EMPTY := E_EMPTY.keep K39
    have E_z_c5 := E_z_c5.keep K39
    have F_v_z_c5 := F_v_z_c5.keep K39 (ninS ne_z_5_b37 nin0)
    have E_z_c6 := E_z_c6.keep K39
    have F_v_z_c6 := F_v_z_c6.keep K39 (ninS ne_z_6_b37 nin0)
    have E_z_c7 := E_z_c7.keep K39
    have F_e0_z_c7 := F_e0_z_c7.keep K39 (ninS ne_z_7_b37 nin0)
    have F_e1_z_c7 := F_e1_z_c7.keep K39 (ninS ne_z_7_b37 nin0)
    have A37 := A37.keep K39
    have O := O.keep K39 (allS g_b37 all0)
    have K := K.trans K39 (allS (Or.inr z_b37) all0)
    have w40 : ∀ t, Steps p.tables e below (T39.setTop (mkF m 115 #[.val (.ref a), .val (.ref l1), .val (.ref s_CRITICAL), .val (.int (10 : Int32)), .val (.int (10 : Int32))] [(.ref b37)])) t → Steps p.tables e below (s₁.setTop (entryFrame m #[(.ref a), (.ref l1)] 5)) t := fun t k => by
      refine w9 t ?_
      refine XS.ifNo X8.here hx rfl (hb hby d14_37) rfl ((if0 _ _).trans (feq hc37_10).1) ?_
      show Steps p.tables e below (T8.setTop (mkF m 40 #[.val (.ref a), .val (.ref l1), .val (.ref s_NONE), .val (.int i), .unset] [])) _
      refine st34 _ ?_
      show Steps p.tables e below (T34.setTop (mkF m 43 #[.val (.ref a), .val (.ref l1), .val (.ref s_NONE), .val (.int i), .unset] [(.ref s_CRITICAL)])) _
      refine XS.astoreN X34.here hx rfl (hb hby d14_43) rfl rfl (l' := #[.val (.ref a), .val (.ref l1), .val (.ref s_CRITICAL), .val (.int i), .unset]) rfl ?_
      show Steps p.tables e below (T34.setTop (mkF m 44 #[.val (.ref a), .val (.ref l1), .val (.ref s_CRITICAL), .val (.int i), .unset] [])) _
      refine XS.bipush X34.here hx rfl (hb hby d14_44) ?_
      show Steps p.tables e below (T34.setTop (mkF m 46 #[.val (.ref a), .val (.ref l1), .val (.ref s_CRITICAL), .val (.int i), .unset] [(.int (10 : Int32))])) _
      refine XS.istoreN X34.here hx rfl (hb hby d14_46) rfl (l' := #[.val (.ref a), .val (.ref l1), .val (.ref s_CRITICAL), .val (.int (10 : Int32)), .unset]) rfl ?_
      show Steps p.tables e below (T34.setTop (mkF m 47 #[.val (.ref a), .val (.ref l1), .val (.ref s_CRITICAL), .val (.int (10 : Int32)), .unset] [])) _
      refine XS.goto X34.here hx rfl (pc0 := 47) (pc' := 77) rfl (hb hby d14_47) (by decide) (by decide) ?_
      show Steps p.tables e below (T34.setTop (mkF m 77 #[.val (.ref a), .val (.ref l1), .val (.ref s_CRITICAL), .val (.int (10 : Int32)), .unset] [])) _
      refine XS.iloadN X34.here hx rfl (hb hby d14_77) rfl ?_
      show Steps p.tables e below (T34.setTop (mkF m 78 #[.val (.ref a), .val (.ref l1), .val (.ref s_CRITICAL), .val (.int (10 : Int32)), .unset] [(.int (10 : Int32))])) _
      refine XS.aloadN X34.here hx rfl (hb hby d14_78) rfl rfl ?_
      show Steps p.tables e below (T34.setTop (mkF m 79 #[.val (.ref a), .val (.ref l1), .val (.ref s_CRITICAL), .val (.int (10 : Int32)), .unset] [(.ref a), (.int (10 : Int32))])) _
      refine st35 _ ?_
      show Steps p.tables e below (T35.setTop (mkF m 82 #[.val (.ref a), .val (.ref l1), .val (.ref s_CRITICAL), .val (.int (10 : Int32)), .unset] [(.int (0 : Int32)), (.int (10 : Int32))])) _
      refine XS.iadd X35.here hx rfl (hb hby d14_82) rfl ?_
      show Steps p.tables e below (T35.setTop (mkF m 83 #[.val (.ref a), .val (.ref l1), .val (.ref s_CRITICAL), .val (.int (10 : Int32)), .unset] [(.int (10 : Int32))])) _
      refine XS.aloadN X35.here hx rfl (hb hby d14_83) rfl rfl ?_
      show Steps p.tables e below (T35.setTop (mkF m 84 #[.val (.ref a), .val (.ref l1), .val (.ref s_CRITICAL), .val (.int (10 : Int32)), .unset] [(.ref a), (.int (10 : Int32))])) _
      refine st36 _ ?_
      show Steps p.tables e below (T36.setTop (mkF m 87 #[.val (.ref a), .val (.ref l1), .val (.ref s_CRITICAL), .val (.int (10 : Int32)), .unset] [(.int (0 : Int32)), (.int (10 : Int32))])) _
      refine XS.iadd X36.here hx rfl (hb hby d14_87) rfl ?_
      show Steps p.tables e below (T36.setTop (mkF m 88 #[.val (.ref a), .val (.ref l1), .val (.ref s_CRITICAL), .val (.int (10 : Int32)), .unset] [(.int (10 : Int32))])) _
      refine XS.istore X36.here hx rfl (hb hby d14_88) rfl (l' := #[.val (.ref a), .val (.ref l1), .val (.ref s_CRITICAL), .val (.int (10 : Int32)), .val (.int (10 : Int32))]) rfl ?_
      show Steps p.tables e below (T36.setTop (mkF m 90 #[.val (.ref a), .val (.ref l1), .val (.ref s_CRITICAL), .val (.int (10 : Int32)), .val (.int (10 : Int32))] [])) _
      refine st37 _ ?_
      show Steps p.tables e below (T37.setTop (mkF m 93 #[.val (.ref a), .val (.ref l1), .val (.ref s_CRITICAL), .val (.int (10 : Int32)), .val (.int (10 : Int32))] [(.ref b37)])) _
      refine XS.dup X37.here hx rfl (hb hby d14_93) rfl rfl ?_
      show Steps p.tables e below (T37.setTop (mkF m 94 #[.val (.ref a), .val (.ref l1), .val (.ref s_CRITICAL), .val (.int (10 : Int32)), .val (.int (10 : Int32))] [(.ref b37), (.ref b37)])) _
      refine XS.iloadN X37.here hx rfl (hb hby d14_94) rfl ?_
      show Steps p.tables e below (T37.setTop (mkF m 95 #[.val (.ref a), .val (.ref l1), .val (.ref s_CRITICAL), .val (.int (10 : Int32)), .val (.int (10 : Int32))] [(.int (10 : Int32)), (.ref b37), (.ref b37)])) _
      refine XS.aloadN X37.here hx rfl (hb hby d14_95) rfl rfl ?_
      show Steps p.tables e below (T37.setTop (mkF m 96 #[.val (.ref a), .val (.ref l1), .val (.ref s_CRITICAL), .val (.int (10 : Int32)), .val (.int (10 : Int32))] [(.ref s_CRITICAL), (.int (10 : Int32)), (.ref b37), (.ref b37)])) _
      refine XS.iload X37.here hx rfl (hb hby d14_96) rfl ?_
      show Steps p.tables e below (T37.setTop (mkF m 98 #[.val (.ref a), .val (.ref l1), .val (.ref s_CRITICAL), .val (.int (10 : Int32)), .val (.int (10 : Int32))] [(.int (10 : Int32)), (.ref s_CRITICAL), (.int (10 : Int32)), (.ref b37), (.ref b37)])) _
      refine XS.iload X37.here hx rfl (hb hby d14_98) rfl ?_
      show Steps p.tables e below (T37.setTop (mkF m 100 #[.val (.ref a), .val (.ref l1), .val (.ref s_CRITICAL), .val (.int (10 : Int32)), .val (.int (10 : Int32))] [(.int (10 : Int32)), (.int (10 : Int32)), (.ref s_CRITICAL), (.int (10 : Int32)), (.ref b37), (.ref b37)])) _
      refine XS.aloadN X37.here hx rfl (hb hby d14_100) rfl rfl ?_
      show Steps p.tables e below (T37.setTop (mkF m 101 #[.val (.ref a), .val (.ref l1), .val (.ref s_CRITICAL), .val (.int (10 : Int32)), .val (.int (10 : Int32))] [(.ref a), (.int (10 : Int32)), (.int (10 : Int32)), (.ref s_CRITICAL), (.int (10 : Int32)), (.ref b37), (.ref b37)])) _
      refine st38 _ ?_
      show Steps p.tables e below (T38.setTop (mkF m 104 #[.val (.ref a), .val (.ref l1), .val (.ref s_CRITICAL), .val (.int (10 : Int32)), .val (.int (10 : Int32))] [(.int (0 : Int32)), (.int (10 : Int32)), (.int (10 : Int32)), (.ref s_CRITICAL), (.int (10 : Int32)), (.ref b37), (.ref b37)])) _
      refine XS.icmpNo X38.here hx rfl (hb hby d14_104) rfl (tlt ((by decide) : (0 : Int32) < (10 : Int32))).2.2.2 ?_
      show Steps p.tables e below (T38.setTop (mkF m 107 #[.val (.ref a), .val (.ref l1), .val (.ref s_CRITICAL), .val (.int (10 : Int32)), .val (.int (10 : Int32))] [(.int (10 : Int32)), (.ref s_CRITICAL), (.int (10 : Int32)), (.ref b37), (.ref b37)])) _
      refine XS.iconst X38.here hx rfl (hb hby d14_107) ?_
      show Steps p.tables e below (T38.setTop (mkF m 108 #[.val (.ref a), .val (.ref l1), .val (.ref s_CRITICAL), .val (.int (10 : Int32)), .val (.int (10 : Int32))] [(.int (1 : Int32)), (.int (10 : Int32)), (.ref s_CRITICAL), (.int (10 : Int32)), (.ref b37), (.ref b37)])) _
      refine XS.goto X38.here hx rfl (pc0 := 108) (pc' := 112) rfl (hb hby d14_108) (by decide) (by decide) ?_
      show Steps p.tables e below (T38.setTop (mkF m 112 #[.val (.ref a), .val (.ref l1), .val (.ref s_CRITICAL), .val (.int (10 : Int32)), .val (.int (10 : Int32))] [(.int (1 : Int32)), (.int (10 : Int32)), (.ref s_CRITICAL), (.int (10 : Int32)), (.ref b37), (.ref b37)])) _
      refine st39.trans ?_
      show Steps p.tables e below (T39.setTop (mkF m 115 #[.val (.ref a), .val (.ref l1), .val (.ref s_CRITICAL), .val (.int (10 : Int32)), .val (.int (10 : Int32))] [(.ref b37)])) _
      exact k
    obtain ⟨fs, hr, hrun, hended, hW, hsame⟩ := X39.leave (v := some (.ref b37)) (fun h => by rw [Bd.returns] at h; cases h)
    refine ⟨_, _, w40 _ ?_, hrun, hended, _, _, rfl, ?_, ⟨_, rfl⟩, hW, hsame.mono (by decide) (by decide)⟩
    · jvm_step X39.here [X39.here.top, hx, (hb hby d14_115), X39.method', Bd.returns, Value.isRef, FieldType.isReference]
      first | (intro acts; rw [hr _ acts rfl rfl rfl]) | rw [hr _ _ rfl rfl rfl]
      exact Steps.refl _
    · show Q14 Z a l1 d kb x1 x2 i m12 mal cl_s_cacheI s_NONE s_CRITICAL s_FUMBLE s_EMPTY s_cacheI h0 n0 _ T39.heap _
      exact ⟨b37, rfl, N39, K, A37, (by simp only [own_sp, own_qy hc37_10, if_true, if_false]; exact F_special_a_c39)⟩
theorem own_three (i : Int32) : (own_dice i = 2 ∧ ∀ {x y z : Addr}, own_sp i x y z = x) ∨ (own_dice i = 2 ∧ ∀ {x y z : Addr}, own_sp i x y z = y) ∨ (own_dice i = 1 ∧ ∀ {x y z : Addr}, own_sp i x y z = z) := by
  unfold own_dice own_sp
  by_cases h : i = 6
  · left; simp [h]
  · by_cases k : i = 1
    · right; left; simp [h, k]
    · right; right; simp [h, k]
def own_F0 (x0 : Int32) (x1 : Int32) : Array Slot := #[.val (.int x0), .val (.int x1), .unset, .unset, .unset, .unset, .unset]
def own_F1 (x0 : Int32) (x1 : Int32) (x2 : Int32) : Array Slot := #[.val (.int x0), .val (.int x1), .val (.int x2), .unset, .unset, .unset, .unset]
theorem pd__40I_41I : parseMethodDescriptor "(I)I" = some ⟨[.int], some .int⟩ := by decide +kernel
def own_F2 (x0 : Int32) (x1 : Int32) (x2 : Int32) (x3 : Int32) : Array Slot := #[.val (.int x0), .val (.int x1), .val (.int x2), .val (.int x3), .unset, .unset, .unset]
def own_F3 (x0 : Int32) (x1 : Int32) (x2 : Int32) (x3 : Int32) (x4 : Addr) : Array Slot := #[.val (.int x0), .val (.int x1), .val (.int x2), .val (.int x3), .val (.ref x4), .unset, .unset]
theorem pd__40III_41V : parseMethodDescriptor "(III)V" = some ⟨[.int, .int, .int], none⟩ := by decide +kernel
theorem pd__40Ljava_47util_47List_59_41Lcom_47example_47hantei_47hantei_47packs_47plandice_47PlanDiceCheck_36Resolution_59 : parseMethodDescriptor "(Ljava/util/List;)Lcom/example/hantei/hantei/packs/plandice/PlanDiceCheck$Resolution;" = some ⟨[(.object "java/util/List")], some (.object "com/example/hantei/hantei/packs/plandice/PlanDiceCheck$Resolution")⟩ := by decide +kernel
def own_F4 (x0 : Int32) (x1 : Int32) (x2 : Int32) (x3 : Int32) (x4 : Addr) (x5 : Addr) : Array Slot := #[.val (.int x0), .val (.int x1), .val (.int x2), .val (.int x3), .val (.ref x4), .val (.ref x5), .unset]
theorem pd__40_41Lcom_47example_47hantei_47hantei_47engine_47Special_59 : parseMethodDescriptor "()Lcom/example/hantei/hantei/engine/Special;" = some ⟨[], some (.object "com/example/hantei/hantei/engine/Special")⟩ := by decide +kernel
def own_F5 (x0 : Int32) (x1 : Int32) (x2 : Int32) (x3 : Int32) (x4 : Addr) (x5 : Addr) (x6 : Int32) : Array Slot := #[.val (.int x0), .val (.int x1), .val (.int x2), .val (.int x3), .val (.ref x4), .val (.ref x5), .val (.int x6)]
theorem pn_com_example_hantei_hantei_packs_plandice_PlanDiceCheckDicePinLaw : plainName "com/example/hantei/hantei/packs/plandice/PlanDiceCheckDicePinLaw" = true := by first | (simp [plainName, overriddenIn]; done) | decide +kernel
theorem ef_0 (m : MethodId) (x0 : Int32) (x1 : Int32) : entryFrame m #[(.int x0), (.int x1)] maxLocals = mkF m 0 #[.val (.int x0), .val (.int x1), .unset, .unset, .unset, .unset, .unset] [] := by first | (simp [entryFrame, mkF, argsToLocals, Value.category, maxLocals]; done) | rfl
def Q0 (Z : State) (i1 : Int32) (i2 : Int32) (kd : ClassId) (m12 : Addr) (mal : Addr) (cl_s_cacheI : Cell) (s_DEF : Addr) (s_cacheI : Addr) (s_EMPTY : Addr) (s_NONE : Addr) (s_CRITICAL : Addr) (s_FUMBLE : Addr) (h0 : Heap) (n0 : Nat) (v : Option Value) (h : Heap) (L : List Loc) : Prop := v = some (.int (1 : Int32)) ∧ Fr n0 L
set_option maxRecDepth 65536 in
set_option maxHeartbeats 40000000 in
theorem rm0 (l : Launch) (Z : State) (a0 : Array Value) (hw : ∀ d ∈ tables_1, d.before a0 Z = true) (ws : List Jvm.Cond) (i1 : Int32) (i2 : Int32) (kd : ClassId) (m12 : Addr) (mal : Addr) (cl_s_cacheI : Cell) (s_DEF : Addr) (s_cacheI : Addr) (s_EMPTY : Addr) (s_NONE : Addr) (s_CRITICAL : Addr) (s_FUMBLE : Addr) (h0 : Heap) (n0 : Nat) (O0 : Old Z n0 h0) (S_s_DEF : Sta Z Z.heap "java/util/ArrayList" "DEFAULTCAPACITY_EMPTY_ELEMENTDATA" "[Ljava/lang/Object;" (.ref s_DEF)) (S_s_cacheI : Sta Z Z.heap "java/lang/Integer$IntegerCache" "cache" "[Ljava/lang/Integer;" (.ref s_cacheI)) (S_s_EMPTY : Sta Z Z.heap "java/util/ImmutableCollections" "EMPTY" "Ljava/lang/Object;" (.ref s_EMPTY)) (S_s_NONE : Sta Z Z.heap "com/example/hantei/hantei/engine/Special" "NONE" "Lcom/example/hantei/hantei/engine/Special;" (.ref s_NONE)) (S_s_CRITICAL : Sta Z Z.heap "com/example/hantei/hantei/engine/Special" "CRITICAL" "Lcom/example/hantei/hantei/engine/Special;" (.ref s_CRITICAL)) (S_s_FUMBLE : Sta Z Z.heap "com/example/hantei/hantei/engine/Special" "FUMBLE" "Lcom/example/hantei/hantei/engine/Special;" (.ref s_FUMBLE)) (S_high : Sta Z Z.heap "java/lang/Integer$IntegerCache" "high" "I" (.int (127 : Int32))) (V_DEF : Arv Z h0 s_DEF kd (.object "java/lang/Object") (0 : Int32) [] .null) (E_EMPTY : Exa Z h0 s_EMPTY "java/lang/Object") (M12 : Mir Z "java/util/ImmutableCollections$List12" m12) (MAL : Mir Z "java/util/ArrayList" mal) (BI : Bxs Z s_cacheI cl_s_cacheI "java/lang/Integer" "I" 256 own_vI) (neC : s_CRITICAL ≠ s_NONE) (neF : s_FUMBLE ≠ s_NONE) :
    MetFree l x (head1 (Jvm.Cond.code x code maxLocals ret :: ws) room_1) (fun aA uU => aA = #[(.int i1), (.int i2)] ∧ Z.Warmed39 uU.vm ∧ uU.heap = h0) (fun _ _ _ _ _ => True) (fun _ uU oO uU' => ∃ vV lL, oO = .returned vV ∧ Q0 Z i1 i2 kd m12 mal cl_s_cacheI s_DEF s_cacheI s_EMPTY s_NONE s_CRITICAL s_FUMBLE h0 n0 vV uU'.heap lL ∧ FrameEnd uU oO uU' lL room_1.cells room_1.slots) := by
  refine MetFree.of_bodySF (plainFor_of_name pn_com_example_hantei_hantei_packs_plandice_PlanDiceCheckDicePinLaw) hisR ?_
  intro p e s m args below meth c s₁ Bd hml0 hP hK
  obtain ⟨rfl, hZ, hh⟩ := hP
  have hx := Bd.exec
  have hby := Bd.bytes
  have hml : c.maxLocals = 7 := hml0
  have hown : s.vm.findClass "com/example/hantei/hantei/packs/plandice/PlanDiceCheckDicePinLaw" = some m.cls := findClass_of_methodNamed Bd.named
  have hnm := (name_of_methodNamed Bd.named Bd.method).1
  have X0 : Stand p l e room_1 s m #[(.int i1), (.int i2)] below meth c s₁ [] 0 0 := Stand.of_body Bd
  have e0 : s₁.heap = h0 := by rw [← hh, Bd.state]; rfl
  have N0 := Fr.nil n0
  have O := O0
  have pre0 : ∀ t, Steps p.tables e below (s₁.setTop (mkF m 0 #[.val (.int i1), .val (.int i2), .unset, .unset, .unset, .unset, .unset] [])) t → Steps p.tables e below (s₁.setTop (entryFrame m #[(.int i1), (.int i2)] maxLocals)) t := fun t k => castTop (ef_0 m i1 i2) k
  have w1 : ∀ t, Steps p.tables e below (s₁.setTop (mkF m 3 (own_F0 i1 i2) [(.int (i2 &&& (1 : Int32)))])) t → Steps p.tables e below (s₁.setTop (entryFrame m #[(.int i1), (.int i2)] maxLocals)) t := fun t k => by
    refine pre0 t ?_
    refine XS.iloadN X0.here hx rfl (hb hby at_0) rfl ?_
    show Steps p.tables e below (s₁.setTop (mkF m 1 (own_F0 i1 i2) [(.int i2)])) _
    refine XS.iconst X0.here hx rfl (hb hby at_1) ?_
    show Steps p.tables e below (s₁.setTop (mkF m 2 (own_F0 i1 i2) [(.int (1 : Int32)), (.int i2)])) _
    refine XS.iand X0.here hx rfl (hb hby at_2) rfl ?_
    show Steps p.tables e below (s₁.setTop (mkF m 3 (own_F0 i1 i2) [(.int (i2 &&& (1 : Int32)))])) _
    exact k
  obtain ⟨vi, hvi⟩ : ∃ v : Int32, v = (if (i2 &&& (1 : Int32)) = (0 : Int32) then i1 else (i1 &&& (7 : Int32))) := ⟨_, rfl⟩
  have w3 : ∀ t, Steps p.tables e below (s₁.setTop (mkF m 14 (own_F0 i1 i2) [(.int vi)])) t → Steps p.tables e below (s₁.setTop (entryFrame m #[(.int i1), (.int i2)] maxLocals)) t := fun t k => by
    refine w1 t ?_
    show Steps p.tables e below (s₁.setTop (mkF m 3 (own_F0 i1 i2) [(.int (i2 &&& (1 : Int32)))])) _
    by_cases hm2 : (i2 &&& (1 : Int32)) = (0 : Int32)
    · refine XS.ifYes X0.here hx rfl (pc0 := 3) (pc' := 13) rfl (hb hby at_3) rfl ((if0 _ _).trans (teq hm2).1) (by decide) (by decide) ?_
      show Steps p.tables e below (s₁.setTop (mkF m 13 (own_F0 i1 i2) [])) _
      refine XS.iloadN X0.here hx rfl (hb hby at_13) rfl ?_
      show Steps p.tables e below (s₁.setTop (mkF m 14 (own_F0 i1 i2) [(.int i1)])) _
      rw [show vi = i1 from by rw [hvi]; simp only [if_pos hm2]] at k
      exact k
    · refine XS.ifNo X0.here hx rfl (hb hby at_3) rfl ((if0 _ _).trans (feq hm2).1) ?_
      show Steps p.tables e below (s₁.setTop (mkF m 6 (own_F0 i1 i2) [])) _
      refine XS.iloadN X0.here hx rfl (hb hby at_6) rfl ?_
      show Steps p.tables e below (s₁.setTop (mkF m 7 (own_F0 i1 i2) [(.int i1)])) _
      refine XS.bipush X0.here hx rfl (hb hby at_7) ?_
      show Steps p.tables e below (s₁.setTop (mkF m 9 (own_F0 i1 i2) [(.int (7 : Int32)), (.int i1)])) _
      refine XS.iand X0.here hx rfl (hb hby at_9) rfl ?_
      show Steps p.tables e below (s₁.setTop (mkF m 10 (own_F0 i1 i2) [(.int (i1 &&& (7 : Int32)))])) _
      refine XS.goto X0.here hx rfl (pc0 := 10) (pc' := 14) rfl (hb hby at_10) (by decide) (by decide) ?_
      show Steps p.tables e below (s₁.setTop (mkF m 14 (own_F0 i1 i2) [(.int (i1 &&& (7 : Int32)))])) _
      rw [show vi = (i1 &&& (7 : Int32)) from by rw [hvi]; simp only [if_neg hm2]] at k
      exact k
  obtain ⟨_, _, ⟨T4, L4, k4, n4⟩, -, X4, ⟨Lc4, hQ4, l4, y4, z4⟩, st4⟩ := Jvm.LawKit.callS X0 hx (y := (⟨"com/example/hantei/hantei/packs/plandice/PlanDiceCheck", "dice", "(I)I"⟩ : MethodName)) hown (mvT hZ (hw _ (List.mem_of_getElem? (i := 0) rfl))) (mvT hZ (hw _ (List.mem_of_getElem? (i := 1) rfl))) (mvT hZ (hw _ (List.mem_of_getElem? (i := 2) rfl))) (mvT hZ (hw _ (List.mem_of_getElem? (i := 3) rfl))) (by decide) (backOf (W := 0) (rm1 l Z a0 hw [] vi h0 n0 O ) hZ (hw _ (List.mem_of_getElem? (i := 3) rfl)) (hw _ (List.mem_of_getElem? (i := 2) rfl)) (by decide) (by decide)) (g := (mkF m 16 (own_F1 i1 i2 vi) [(.int vi)])) rfl (by rw [hml]; rfl) (argsL := [(.int vi)]) (rest := []) (lenOf pd__40I_41I rfl) rfl (by show 2 * 0 + _ ≤ _; exact Nat.le_of_eq rfl) (hb hby at_16) (fun _ _ => ⟨rfl, e0, (by decide : 0 + 0 ≤ _), (by decide : 0 + 0 ≤ _)⟩)
  dsimp only [Pt.U, Pt.locs, Pt.cells, Pt.slots] at X4 l4 y4 z4 st4 hQ4
  subst l4 y4 z4
  obtain ⟨rfl, N4q, eh4⟩ := hQ4
  have N4 := Fr.app N0 N4q
  obtain ⟨T5, h5, X5, e5, E5, A5, D5, -, st5⟩ := newO X4 hx hZ hown (hw _ (List.mem_of_getElem? (i := 4) rfl)) (hw _ (List.mem_of_getElem? (i := 5) rfl)) (hw _ (List.mem_of_getElem? (i := 6) rfl)) eh4 (g := (mkF m 20 (own_F2 i1 i2 vi (own_dice vi)) [])) rfl (hb hby at_20) (by decide) (by decide)
  obtain ⟨b5, gq5⟩ : ∃ z, z = Array.size h0 := ⟨_, rfl⟩
  rw [← gq5] at A5 D5 st5
  have ne_s_DEF_b5 : s_DEF ≠ b5 := Nat.ne_of_lt (Nat.lt_of_lt_of_le V_DEF.lt (Nat.le_of_eq gq5.symm))
  have ne_s_EMPTY_b5 : s_EMPTY ≠ b5 := Nat.ne_of_lt (Nat.lt_of_lt_of_le E_EMPTY.lt (Nat.le_of_eq gq5.symm))
  have g_b5 : n0 ≤ b5 := Nat.le_trans (O.1 ▸ O.2.1) (Nat.le_of_eq gq5.symm)
  have V_DEF := V_DEF.ext E5
  have E_EMPTY := E_EMPTY.ext E5
  have O := O.ext E5
  have F_modCount_b5 : Fld Z h5 b5 "java/util/AbstractList" "modCount" "I" (.int (0 : Int32)) := D5 (Or.inl (hw _ (List.mem_of_getElem? (i := 26) rfl))) (ty := .int) (by decide)
  have F_elementData_b5 : Fld Z h5 b5 "java/util/ArrayList" "elementData" "[Ljava/lang/Object;" .null := D5 (Or.inl (hw _ (List.mem_of_getElem? (i := 29) rfl))) (ty := (.array (.object "java/lang/Object"))) (by decide)
  have F_size_b5 : Fld Z h5 b5 "java/util/ArrayList" "size" "I" (.int (0 : Int32)) := D5 (Or.inl (hw _ (List.mem_of_getElem? (i := 45) rfl))) (ty := .int) (by decide)
  obtain ⟨_, _, ⟨T6, L6, k6, n6⟩, -, X6, ⟨Lc6, hQ6, l6, y6, z6⟩, st6⟩ := X5.specialBack hx (y := (⟨"java/util/ArrayList", "<init>", "()V"⟩ : MethodName)) rfl hown (mvT hZ (hw _ (List.mem_of_getElem? (i := 7) rfl))) (mvT hZ (hw _ (List.mem_of_getElem? (i := 8) rfl))) (mvT hZ (hw _ (List.mem_of_getElem? (i := 9) rfl))) (by decide) (backOf (W := 1) (rm2 l Z a0 hw [] b5 s_DEF h5 n0 O S_s_DEF A5 F_modCount_b5 F_elementData_b5 F_size_b5 g_b5) hZ (hw _ (List.mem_of_getElem? (i := 9) rfl)) (hw _ (List.mem_of_getElem? (i := 6) rfl)) (by decide) (by decide)) (g := (mkF m 24 (own_F2 i1 i2 vi (own_dice vi)) [(.ref b5), (.ref b5)])) rfl (by rw [hml]; rfl) (Steps.refl _) (a := b5) (argsL := []) (rest := [(.ref b5)]) (lenOf pd__40_41V rfl) rfl (by show 2 * 0 + _ ≤ _; exact Nat.le_of_eq rfl) (hb hby at_24) (fun _ _ => ⟨rfl, e5, (by decide : 1 + 0 ≤ _), (by decide : 3 + 0 ≤ _)⟩)
  dsimp only [Pt.U, Pt.locs, Pt.cells, Pt.slots] at X6 l6 y6 z6 st6 hQ6
  subst l6 y6 z6
  obtain ⟨rfl, N6q, K6, F_m_a_c6, F_e_a_c6, F_s_a_c6⟩ := hQ6
  have N6 := Fr.app N4 N6q
  have V_DEF := V_DEF.keep K6 (ninS ne_s_DEF_b5 nin0)
  have E_EMPTY := E_EMPTY.keep K6
  have A5 := A5.keep K6
  have O := O.keep K6 (allS g_b5 all0)
  obtain ⟨_, _, ⟨T7, L7, k7, n7⟩, -, X7, ⟨Lc7, hQ7, l7, y7, z7⟩, st7⟩ := Jvm.LawKit.callS X6 hx (y := (⟨"java/lang/Integer", "valueOf", "(I)Ljava/lang/Integer;"⟩ : MethodName)) hown (mvT hZ (hw _ (List.mem_of_getElem? (i := 30) rfl))) (mvT hZ (hw _ (List.mem_of_getElem? (i := 31) rfl))) (mvT hZ (hw _ (List.mem_of_getElem? (i := 32) rfl))) (mvT hZ (hw _ (List.mem_of_getElem? (i := 33) rfl))) (by decide) (backOf (W := 1) (rm6 l Z a0 hw [] vi cl_s_cacheI s_cacheI T6.heap n0 O S_s_cacheI S_high BI) hZ (hw _ (List.mem_of_getElem? (i := 33) rfl)) (hw _ (List.mem_of_getElem? (i := 32) rfl)) (by decide) (by decide)) (g := (mkF m 32 (own_F3 i1 i2 vi (own_dice vi) b5) [(.int vi), (.ref b5)])) rfl (by rw [hml]; rfl) (argsL := [(.int vi)]) (rest := [(.ref b5)]) (lenOf pd__40I_41Ljava_47lang_47Integer_59 rfl) rfl (by show 2 * 0 + _ ≤ _; exact Nat.le_of_eq rfl) (hb hby at_32) (fun _ _ => ⟨rfl, rfl, (by decide : 1 + 1 ≤ _), (by decide : 3 + 1 ≤ _)⟩)
  dsimp only [Pt.U, Pt.locs, Pt.cells, Pt.slots] at X7 l7 y7 z7 st7 hQ7
  subst l7 y7 z7
  obtain ⟨z_7, rfl, N7q, K7, E_z_c7, F_v_z_c7⟩ := hQ7
  have N7 := Fr.app N6 N7q
  have V_DEF := V_DEF.keep K7 nin0
  have E_EMPTY := E_EMPTY.keep K7
  have A5 := A5.keep K7
  have F_m_a_c6 := F_m_a_c6.keep K7 nin0
  have F_e_a_c6 := F_e_a_c6.keep K7 nin0
  have F_s_a_c6 := F_s_a_c6.keep K7 nin0
  have O := O.keep K7 all0
  have ne_z_7_b5 : z_7 ≠ b5 := (Exa.ne E_z_c7 A5 (by decide))
  obtain ⟨cq8, kq8, q8a, q8b, q8c⟩ := isOf hZ rfl A5
  have lt8_s_DEF := V_DEF.lt
  have lt8_s_EMPTY := E_EMPTY.lt
  have lt8_b5 := A5.lt
  have lt8_z_7 := E_z_c7.lt
  obtain ⟨_, _, ⟨T8, L8, k8, n8⟩, -, X8, ⟨Lc8, hQ8, l8, y8, z8⟩, st8⟩ := X7.virtualBack hx (y := (⟨"java/util/ArrayList", "add", "(Ljava/lang/Object;)Z"⟩ : MethodName)) (z := (⟨"java/util/ArrayList", "add", "(Ljava/lang/Object;)Z"⟩ : MethodName)) hown (mvT hZ (hw _ (List.mem_of_getElem? (i := 37) rfl))) (mvT hZ (hw _ (List.mem_of_getElem? (i := 38) rfl))) (notFace_of_selects (args := #[]) (mvT hZ (hw _ (List.mem_of_getElem? (i := 40) rfl)))) (mvT hZ (hw _ (List.mem_of_getElem? (i := 40) rfl))) (mvT hZ (hw _ (List.mem_of_getElem? (i := 39) rfl))) (by decide) (backOf (W := 0) (rm7_0 l Z a0 hw [] b5 z_7 kd s_DEF T7.heap n0 O S_s_DEF A5 F_m_a_c6 F_e_a_c6 F_s_a_c6 V_DEF E_z_c7 g_b5) hZ (hw _ (List.mem_of_getElem? (i := 41) rfl)) (hw _ (List.mem_of_getElem? (i := 6) rfl)) (by decide) (by decide)) q8a q8c (g := (mkF m 35 (own_F3 i1 i2 vi (own_dice vi) b5) [(.ref z_7), (.ref b5)])) rfl (by rw [hml]; rfl) (Steps.refl _) (argsL := [(.ref z_7)]) (rest := []) (lenOf pd__40Ljava_47lang_47Object_59_41Z rfl) rfl (by show 2 * 0 + _ ≤ _; exact Nat.le_of_eq rfl) (hb hby at_35) (fun _ _ => ⟨rfl, rfl, (by decide : 2 + 1 ≤ _), (by decide : 4 + 10 ≤ _)⟩)
  dsimp only [Pt.U, Pt.locs, Pt.cells, Pt.slots] at X8 l8 y8 z8 st8 hQ8
  subst l8 y8 z8
  obtain ⟨z_8, kz_8, rfl, N8q, K8, F_m_a_c8, F_e_a_c8, F_s_a_c8, V_z_c8, gz_8, gn_8, ov_8⟩ := hQ8
  have N8 := Fr.app N7 N8q
  have V_DEF := V_DEF.keep K8 (ninS ne_s_DEF_b5 nin0)
  have E_EMPTY := E_EMPTY.keep K8
  have A5 := A5.keep K8
  have E_z_c7 := E_z_c7.keep K8
  have F_v_z_c7 := F_v_z_c7.keep K8 (ninS ne_z_7_b5 nin0)
  have ne_s_DEF_z_8 : s_DEF ≠ z_8 := Nat.ne_of_lt (Nat.lt_of_lt_of_le lt8_s_DEF gz_8)
  have ne_s_EMPTY_z_8 : s_EMPTY ≠ z_8 := Nat.ne_of_lt (Nat.lt_of_lt_of_le lt8_s_EMPTY gz_8)
  have ne_b5_z_8 : b5 ≠ z_8 := Nat.ne_of_lt (Nat.lt_of_lt_of_le lt8_b5 gz_8)
  have ne_z_7_z_8 : z_7 ≠ z_8 := Nat.ne_of_lt (Nat.lt_of_lt_of_le lt8_z_7 gz_8)
  have g_z_8 := gn_8
  have O := O.keep K8 (allS g_b5 all0)
  obtain ⟨_, _, ⟨T9, L9, k9, n9⟩, -, X9, ⟨Lc9, hQ9, l9, y9, z9⟩, st9⟩ := Jvm.LawKit.callS X8 hx (y := (⟨"java/lang/Integer", "valueOf", "(I)Ljava/lang/Integer;"⟩ : MethodName)) hown (mvT hZ (hw _ (List.mem_of_getElem? (i := 30) rfl))) (mvT hZ (hw _ (List.mem_of_getElem? (i := 31) rfl))) (mvT hZ (hw _ (List.mem_of_getElem? (i := 32) rfl))) (mvT hZ (hw _ (List.mem_of_getElem? (i := 33) rfl))) (by decide) (backOf (W := 1) (rm6 l Z a0 hw [] vi cl_s_cacheI s_cacheI T8.heap n0 O S_s_cacheI S_high BI) hZ (hw _ (List.mem_of_getElem? (i := 33) rfl)) (hw _ (List.mem_of_getElem? (i := 32) rfl)) (by decide) (by decide)) (g := (mkF m 42 (own_F3 i1 i2 vi (own_dice vi) b5) [(.int vi), (.ref b5)])) rfl (by rw [hml]; rfl) (argsL := [(.int vi)]) (rest := [(.ref b5)]) (lenOf pd__40I_41Ljava_47lang_47Integer_59 rfl) rfl (by show 2 * 0 + _ ≤ _; exact Nat.le_of_eq rfl) (hb hby at_42) (fun _ _ => ⟨rfl, rfl, (by decide : 3 + 1 ≤ _), (by decide : 14 + 1 ≤ _)⟩)
  dsimp only [Pt.U, Pt.locs, Pt.cells, Pt.slots] at X9 l9 y9 z9 st9 hQ9
  subst l9 y9 z9
  obtain ⟨z_9, rfl, N9q, K9, E_z_c9, F_v_z_c9⟩ := hQ9
  have N9 := Fr.app N8 N9q
  have V_DEF := V_DEF.keep K9 nin0
  have E_EMPTY := E_EMPTY.keep K9
  have A5 := A5.keep K9
  have E_z_c7 := E_z_c7.keep K9
  have F_v_z_c7 := F_v_z_c7.keep K9 nin0
  have F_m_a_c8 := F_m_a_c8.keep K9 nin0
  have F_e_a_c8 := F_e_a_c8.keep K9 nin0
  have F_s_a_c8 := F_s_a_c8.keep K9 nin0
  have V_z_c8 := V_z_c8.keep K9 nin0
  have O := O.keep K9 all0
  have ne_z_9_b5 : z_9 ≠ b5 := (Exa.ne E_z_c9 A5 (by decide))
  have ne_z_9_z_8 : z_9 ≠ z_8 := (Exa.neArv E_z_c9 V_z_c8 (hw _ (List.mem_of_getElem? (i := 273) rfl)))
  obtain ⟨cq10, kq10, q10a, q10b, q10c⟩ := isOf hZ rfl A5
  obtain ⟨_, _, ⟨T10, L10, k10, n10⟩, -, X10, ⟨Lc10, hQ10, l10, y10, z10⟩, st10⟩ := X9.virtualBack hx (y := (⟨"java/util/ArrayList", "add", "(Ljava/lang/Object;)Z"⟩ : MethodName)) (z := (⟨"java/util/ArrayList", "add", "(Ljava/lang/Object;)Z"⟩ : MethodName)) hown (mvT hZ (hw _ (List.mem_of_getElem? (i := 37) rfl))) (mvT hZ (hw _ (List.mem_of_getElem? (i := 38) rfl))) (notFace_of_selects (args := #[]) (mvT hZ (hw _ (List.mem_of_getElem? (i := 40) rfl)))) (mvT hZ (hw _ (List.mem_of_getElem? (i := 40) rfl))) (mvT hZ (hw _ (List.mem_of_getElem? (i := 39) rfl))) (by decide) (backOf (W := 0) (rm7_1 l Z a0 hw [] b5 z_9 z_8 kz_8 z_7 T9.heap n0 O A5 F_m_a_c8 F_e_a_c8 F_s_a_c8 V_z_c8 E_z_c9 (by assumption) g_b5 g_z_8) hZ (hw _ (List.mem_of_getElem? (i := 41) rfl)) (hw _ (List.mem_of_getElem? (i := 6) rfl)) (by decide) (by decide)) q10a q10c (g := (mkF m 45 (own_F3 i1 i2 vi (own_dice vi) b5) [(.ref z_9), (.ref b5)])) rfl (by rw [hml]; rfl) (Steps.refl _) (argsL := [(.ref z_9)]) (rest := []) (lenOf pd__40Ljava_47lang_47Object_59_41Z rfl) rfl (by show 2 * 0 + _ ≤ _; exact Nat.le_of_eq rfl) (hb hby at_45) (fun _ _ => ⟨rfl, rfl, (by decide : 4 + 0 ≤ _), (by decide : 15 + 0 ≤ _)⟩)
  dsimp only [Pt.U, Pt.locs, Pt.cells, Pt.slots] at X10 l10 y10 z10 st10 hQ10
  subst l10 y10 z10
  obtain ⟨rfl, N10q, K10, F_m_a_c10, F_e_a_c10, F_s_a_c10, V_d_c10⟩ := hQ10
  have N10 := Fr.app N9 N10q
  have V_DEF := V_DEF.keep K10 (ninS ne_s_DEF_b5 (ninS ne_s_DEF_z_8 nin0))
  have E_EMPTY := E_EMPTY.keep K10
  have A5 := A5.keep K10
  have E_z_c7 := E_z_c7.keep K10
  have F_v_z_c7 := F_v_z_c7.keep K10 (ninS ne_z_7_b5 (ninS ne_z_7_z_8 nin0))
  have E_z_c9 := E_z_c9.keep K10
  have F_v_z_c9 := F_v_z_c9.keep K10 (ninS ne_z_9_b5 (ninS ne_z_9_z_8 nin0))
  have O := O.keep K10 (allS g_b5 (allS g_z_8 all0))
  obtain ⟨T11, h11, X11, e11, E11, A11, D11, -, st11⟩ := newO X10 hx hZ hown (hw _ (List.mem_of_getElem? (i := 68) rfl)) (hw _ (List.mem_of_getElem? (i := 69) rfl)) (hw _ (List.mem_of_getElem? (i := 2) rfl)) rfl (g := (mkF m 49 (own_F3 i1 i2 vi (own_dice vi) b5) [])) rfl (hb hby at_49) (by decide) (by decide)
  obtain ⟨b11, gq11⟩ : ∃ z, z = Array.size T10.heap := ⟨_, rfl⟩
  rw [← gq11] at A11 D11 st11
  have ne_s_DEF_b11 : s_DEF ≠ b11 := Nat.ne_of_lt (Nat.lt_of_lt_of_le V_DEF.lt (Nat.le_of_eq gq11.symm))
  have ne_s_EMPTY_b11 : s_EMPTY ≠ b11 := Nat.ne_of_lt (Nat.lt_of_lt_of_le E_EMPTY.lt (Nat.le_of_eq gq11.symm))
  have ne_b5_b11 : b5 ≠ b11 := Nat.ne_of_lt (Nat.lt_of_lt_of_le A5.lt (Nat.le_of_eq gq11.symm))
  have ne_z_7_b11 : z_7 ≠ b11 := Nat.ne_of_lt (Nat.lt_of_lt_of_le E_z_c7.lt (Nat.le_of_eq gq11.symm))
  have ne_z_8_b11 : z_8 ≠ b11 := Nat.ne_of_lt (Nat.lt_of_lt_of_le V_d_c10.lt (Nat.le_of_eq gq11.symm))
  have ne_z_9_b11 : z_9 ≠ b11 := Nat.ne_of_lt (Nat.lt_of_lt_of_le E_z_c9.lt (Nat.le_of_eq gq11.symm))
  have g_b11 : n0 ≤ b11 := Nat.le_trans (O.1 ▸ O.2.1) (Nat.le_of_eq gq11.symm)
  have V_DEF := V_DEF.ext E11
  have E_EMPTY := E_EMPTY.ext E11
  have A5 := A5.ext E11
  have E_z_c7 := E_z_c7.ext E11
  have F_v_z_c7 := F_v_z_c7.ext E11
  have E_z_c9 := E_z_c9.ext E11
  have F_v_z_c9 := F_v_z_c9.ext E11
  have F_m_a_c10 := F_m_a_c10.ext E11
  have F_e_a_c10 := F_e_a_c10.ext E11
  have F_s_a_c10 := F_s_a_c10.ext E11
  have V_d_c10 := V_d_c10.ext E11
  have O := O.ext E11
  have F_plan_b11 : Fld Z h11 b11 "com/example/hantei/hantei/packs/plandice/PlanDiceCheck" "plan" "I" (.int (0 : Int32)) := D11 (Or.inr (hw _ (List.mem_of_getElem? (i := 80) rfl))) (ty := .int) (by decide)
  have F_judgement_b11 : Fld Z h11 b11 "com/example/hantei/hantei/packs/plandice/PlanDiceCheck" "judgement" "I" (.int (0 : Int32)) := D11 (Or.inr (hw _ (List.mem_of_getElem? (i := 82) rfl))) (ty := .int) (by decide)
  have F_target_b11 : Fld Z h11 b11 "com/example/hantei/hantei/packs/plandice/PlanDiceCheck" "target" "I" (.int (0 : Int32)) := D11 (Or.inr (hw _ (List.mem_of_getElem? (i := 84) rfl))) (ty := .int) (by decide)
  obtain ⟨_, _, ⟨T12, L12, k12, n12⟩, -, X12, ⟨Lc12, hQ12, l12, y12, z12⟩, st12⟩ := X11.specialBack hx (y := (⟨"com/example/hantei/hantei/packs/plandice/PlanDiceCheck", "<init>", "(III)V"⟩ : MethodName)) rfl hown (mvT hZ (hw _ (List.mem_of_getElem? (i := 70) rfl))) (mvT hZ (hw _ (List.mem_of_getElem? (i := 71) rfl))) (mvT hZ (hw _ (List.mem_of_getElem? (i := 72) rfl))) (by decide) (backOf (W := 1) (rm12 l Z a0 hw [] b11 h11 n0 O A11 F_plan_b11 F_judgement_b11 F_target_b11 g_b11) hZ (hw _ (List.mem_of_getElem? (i := 72) rfl)) (hw _ (List.mem_of_getElem? (i := 2) rfl)) (by decide) (by decide)) (g := (mkF m 56 (own_F3 i1 i2 vi (own_dice vi) b5) [(.int (0 : Int32)), (.int (0 : Int32)), (.int (0 : Int32)), (.ref b11), (.ref b11)])) rfl (by rw [hml]; rfl) (Steps.refl _) (a := b11) (argsL := [(.int (0 : Int32)), (.int (0 : Int32)), (.int (0 : Int32))]) (rest := [(.ref b11)]) (lenOf pd__40III_41V rfl) rfl (by show 2 * 0 + _ ≤ _; exact Nat.le_of_eq rfl) (hb hby at_56) (fun _ _ => ⟨rfl, e11, (by decide : 5 + 0 ≤ _), (by decide : 18 + 0 ≤ _)⟩)
  dsimp only [Pt.U, Pt.locs, Pt.cells, Pt.slots] at X12 l12 y12 z12 st12 hQ12
  subst l12 y12 z12
  obtain ⟨rfl, N12q, K12, F_plan_a_c12, F_judgement_a_c12, F_target_a_c12⟩ := hQ12
  have N12 := Fr.app N10 N12q
  have V_DEF := V_DEF.keep K12 (ninS ne_s_DEF_b11 nin0)
  have E_EMPTY := E_EMPTY.keep K12
  have A5 := A5.keep K12
  have E_z_c7 := E_z_c7.keep K12
  have F_v_z_c7 := F_v_z_c7.keep K12 (ninS ne_z_7_b11 nin0)
  have E_z_c9 := E_z_c9.keep K12
  have F_v_z_c9 := F_v_z_c9.keep K12 (ninS ne_z_9_b11 nin0)
  have F_m_a_c10 := F_m_a_c10.keep K12 (ninS ne_b5_b11 nin0)
  have F_e_a_c10 := F_e_a_c10.keep K12 (ninS ne_b5_b11 nin0)
  have F_s_a_c10 := F_s_a_c10.keep K12 (ninS ne_b5_b11 nin0)
  have V_d_c10 := V_d_c10.keep K12 (ninS ne_z_8_b11 nin0)
  have A11 := A11.keep K12
  have O := O.keep K12 (allS g_b11 all0)
  obtain ⟨cq13, kq13, q13a, q13b, q13c⟩ := isOf hZ rfl A11
  obtain ⟨_, _, ⟨T13, L13, k13, n13⟩, -, X13, ⟨Lc13, hQ13, l13, y13, z13⟩, st13⟩ := X12.virtualBack hx (y := (⟨"com/example/hantei/hantei/packs/plandice/PlanDiceCheck", "resolve", "(Ljava/util/List;)Lcom/example/hantei/hantei/packs/plandice/PlanDiceCheck$Resolution;"⟩ : MethodName)) (z := (⟨"com/example/hantei/hantei/packs/plandice/PlanDiceCheck", "resolve", "(Ljava/util/List;)Lcom/example/hantei/hantei/packs/plandice/PlanDiceCheck$Resolution;"⟩ : MethodName)) hown (mvT hZ (hw _ (List.mem_of_getElem? (i := 85) rfl))) (mvT hZ (hw _ (List.mem_of_getElem? (i := 86) rfl))) (notFace_of_selects (args := #[]) (mvT hZ (hw _ (List.mem_of_getElem? (i := 88) rfl)))) (mvT hZ (hw _ (List.mem_of_getElem? (i := 88) rfl))) (mvT hZ (hw _ (List.mem_of_getElem? (i := 87) rfl))) (by decide) (backOf (W := 0) (rm14 l Z a0 hw [] b11 b5 z_8 kz_8 z_7 z_9 vi m12 mal cl_s_cacheI s_NONE s_CRITICAL s_FUMBLE s_EMPTY s_cacheI T12.heap n0 O S_s_NONE S_s_CRITICAL S_s_FUMBLE S_s_EMPTY S_s_cacheI S_high A11 F_plan_a_c12 F_judgement_a_c12 F_target_a_c12 A5 F_m_a_c10 F_e_a_c10 F_s_a_c10 V_d_c10 E_z_c7 F_v_z_c7 E_z_c9 F_v_z_c9 E_EMPTY M12 MAL BI) hZ (hw _ (List.mem_of_getElem? (i := 89) rfl)) (hw _ (List.mem_of_getElem? (i := 2) rfl)) (by decide) (by decide)) q13a q13c (g := (mkF m 61 (own_F3 i1 i2 vi (own_dice vi) b5) [(.ref b5), (.ref b11)])) rfl (by rw [hml]; rfl) (Steps.refl _) (argsL := [(.ref b5)]) (rest := []) (lenOf pd__40Ljava_47util_47List_59_41Lcom_47example_47hantei_47hantei_47packs_47plandice_47PlanDiceCheck_36Resolution_59 rfl) rfl (by show 2 * 0 + _ ≤ _; exact Nat.le_of_eq rfl) (hb hby at_61) (fun _ _ => ⟨rfl, rfl, (by decide : 5 + 9 ≤ _), (by decide : 18 + 20 ≤ _)⟩)
  dsimp only [Pt.U, Pt.locs, Pt.cells, Pt.slots] at X13 l13 y13 z13 st13 hQ13
  subst l13 y13 z13
  obtain ⟨z_13, rfl, N13q, K13, E_z_c13, F_special_z_c13⟩ := hQ13
  have N13 := Fr.app N12 N13q
  have V_DEF := V_DEF.keep K13 nin0
  have E_EMPTY := E_EMPTY.keep K13
  have A5 := A5.keep K13
  have E_z_c7 := E_z_c7.keep K13
  have F_v_z_c7 := F_v_z_c7.keep K13 nin0
  have E_z_c9 := E_z_c9.keep K13
  have F_v_z_c9 := F_v_z_c9.keep K13 nin0
  have F_m_a_c10 := F_m_a_c10.keep K13 nin0
  have F_e_a_c10 := F_e_a_c10.keep K13 nin0
  have F_s_a_c10 := F_s_a_c10.keep K13 nin0
  have V_d_c10 := V_d_c10.keep K13 nin0
  have A11 := A11.keep K13
  have F_plan_a_c12 := F_plan_a_c12.keep K13 nin0
  have F_judgement_a_c12 := F_judgement_a_c12.keep K13 nin0
  have F_target_a_c12 := F_target_a_c12.keep K13 nin0
  have O := O.keep K13 all0
  obtain ⟨cq14, kq14, q14a, q14b, q14c⟩ := isOf hZ rfl E_z_c13
  obtain ⟨_, _, ⟨T14, L14, k14, n14⟩, -, X14, ⟨Lc14, hQ14, l14, y14, z14⟩, st14⟩ := X13.virtualBack hx (y := (⟨"com/example/hantei/hantei/packs/plandice/PlanDiceCheck$Resolution", "special", "()Lcom/example/hantei/hantei/engine/Special;"⟩ : MethodName)) (z := (⟨"com/example/hantei/hantei/packs/plandice/PlanDiceCheck$Resolution", "special", "()Lcom/example/hantei/hantei/engine/Special;"⟩ : MethodName)) hown (mvT hZ (hw _ (List.mem_of_getElem? (i := 265) rfl))) (mvT hZ (hw _ (List.mem_of_getElem? (i := 266) rfl))) (notFace_of_selects (args := #[]) (mvT hZ (hw _ (List.mem_of_getElem? (i := 268) rfl)))) (mvT hZ (hw _ (List.mem_of_getElem? (i := 268) rfl))) (mvT hZ (hw _ (List.mem_of_getElem? (i := 267) rfl))) (by decide) (backOf (W := 0) (rm37 l Z a0 hw [] z_13 (own_sp vi s_CRITICAL s_FUMBLE s_NONE) T13.heap n0 O F_special_z_c13) hZ (hw _ (List.mem_of_getElem? (i := 269) rfl)) (hw _ (List.mem_of_getElem? (i := 252) rfl)) (by decide) (by decide)) q14a q14c (g := (mkF m 68 (own_F4 i1 i2 vi (own_dice vi) b5 z_13) [(.ref z_13)])) rfl (by rw [hml]; rfl) (Steps.refl _) (argsL := []) (rest := []) (lenOf pd__40_41Lcom_47example_47hantei_47hantei_47engine_47Special_59 rfl) rfl (by show 2 * 0 + _ ≤ _; exact Nat.le_of_eq rfl) (hb hby at_68) (fun _ _ => ⟨rfl, rfl, (by decide : 14 + 0 ≤ _), (by decide : 38 + 0 ≤ _)⟩)
  dsimp only [Pt.U, Pt.locs, Pt.cells, Pt.slots] at X14 l14 y14 z14 st14 hQ14
  subst l14 y14 z14
  obtain ⟨rfl, N14q, eh14⟩ := hQ14
  have N14 := Fr.app N13 N14q
  have w15 : ∀ t, Steps p.tables e below (T14.setTop (mkF m 71 (own_F4 i1 i2 vi (own_dice vi) b5 z_13) [(.ref (own_sp vi s_CRITICAL s_FUMBLE s_NONE))])) t → Steps p.tables e below (s₁.setTop (entryFrame m #[(.int i1), (.int i2)] maxLocals)) t := fun t k => by
    refine w3 t ?_
    refine XS.istoreN X0.here hx rfl (hb hby at_14) rfl (l' := (own_F1 i1 i2 vi)) rfl ?_
    show Steps p.tables e below (s₁.setTop (mkF m 15 (own_F1 i1 i2 vi) [])) _
    refine XS.iloadN X0.here hx rfl (hb hby at_15) rfl ?_
    show Steps p.tables e below (s₁.setTop (mkF m 16 (own_F1 i1 i2 vi) [(.int vi)])) _
    refine st4 _ ?_
    show Steps p.tables e below (T4.setTop (mkF m 19 (own_F1 i1 i2 vi) [(.int (own_dice vi))])) _
    refine XS.istoreN X4.here hx rfl (hb hby at_19) rfl (l' := (own_F2 i1 i2 vi (own_dice vi))) rfl ?_
    show Steps p.tables e below (T4.setTop (mkF m 20 (own_F2 i1 i2 vi (own_dice vi)) [])) _
    refine st5 _ ?_
    show Steps p.tables e below (T5.setTop (mkF m 23 (own_F2 i1 i2 vi (own_dice vi)) [(.ref b5)])) _
    refine XS.dup X5.here hx rfl (hb hby at_23) rfl rfl ?_
    show Steps p.tables e below (T5.setTop (mkF m 24 (own_F2 i1 i2 vi (own_dice vi)) [(.ref b5), (.ref b5)])) _
    refine st6.trans ?_
    show Steps p.tables e below (T6.setTop (mkF m 27 (own_F2 i1 i2 vi (own_dice vi)) [(.ref b5)])) _
    refine XS.astore X6.here hx rfl (hb hby at_27) rfl rfl (l' := (own_F3 i1 i2 vi (own_dice vi) b5)) rfl ?_
    show Steps p.tables e below (T6.setTop (mkF m 29 (own_F3 i1 i2 vi (own_dice vi) b5) [])) _
    refine XS.aload X6.here hx rfl (hb hby at_29) rfl rfl ?_
    show Steps p.tables e below (T6.setTop (mkF m 31 (own_F3 i1 i2 vi (own_dice vi) b5) [(.ref b5)])) _
    refine XS.iloadN X6.here hx rfl (hb hby at_31) rfl ?_
    show Steps p.tables e below (T6.setTop (mkF m 32 (own_F3 i1 i2 vi (own_dice vi) b5) [(.int vi), (.ref b5)])) _
    refine st7 _ ?_
    show Steps p.tables e below (T7.setTop (mkF m 35 (own_F3 i1 i2 vi (own_dice vi) b5) [(.ref z_7), (.ref b5)])) _
    refine st8.trans ?_
    show Steps p.tables e below (T8.setTop (mkF m 38 (own_F3 i1 i2 vi (own_dice vi) b5) [(.int (1 : Int32))])) _
    refine XS.pop X8.here hx rfl (hb hby at_38) rfl rfl ?_
    show Steps p.tables e below (T8.setTop (mkF m 39 (own_F3 i1 i2 vi (own_dice vi) b5) [])) _
    refine XS.aload X8.here hx rfl (hb hby at_39) rfl rfl ?_
    show Steps p.tables e below (T8.setTop (mkF m 41 (own_F3 i1 i2 vi (own_dice vi) b5) [(.ref b5)])) _
    refine XS.iloadN X8.here hx rfl (hb hby at_41) rfl ?_
    show Steps p.tables e below (T8.setTop (mkF m 42 (own_F3 i1 i2 vi (own_dice vi) b5) [(.int vi), (.ref b5)])) _
    refine st9 _ ?_
    show Steps p.tables e below (T9.setTop (mkF m 45 (own_F3 i1 i2 vi (own_dice vi) b5) [(.ref z_9), (.ref b5)])) _
    refine st10.trans ?_
    show Steps p.tables e below (T10.setTop (mkF m 48 (own_F3 i1 i2 vi (own_dice vi) b5) [(.int (1 : Int32))])) _
    refine XS.pop X10.here hx rfl (hb hby at_48) rfl rfl ?_
    show Steps p.tables e below (T10.setTop (mkF m 49 (own_F3 i1 i2 vi (own_dice vi) b5) [])) _
    refine st11 _ ?_
    show Steps p.tables e below (T11.setTop (mkF m 52 (own_F3 i1 i2 vi (own_dice vi) b5) [(.ref b11)])) _
    refine XS.dup X11.here hx rfl (hb hby at_52) rfl rfl ?_
    show Steps p.tables e below (T11.setTop (mkF m 53 (own_F3 i1 i2 vi (own_dice vi) b5) [(.ref b11), (.ref b11)])) _
    refine XS.iconst X11.here hx rfl (hb hby at_53) ?_
    show Steps p.tables e below (T11.setTop (mkF m 54 (own_F3 i1 i2 vi (own_dice vi) b5) [(.int (0 : Int32)), (.ref b11), (.ref b11)])) _
    refine XS.iconst X11.here hx rfl (hb hby at_54) ?_
    show Steps p.tables e below (T11.setTop (mkF m 55 (own_F3 i1 i2 vi (own_dice vi) b5) [(.int (0 : Int32)), (.int (0 : Int32)), (.ref b11), (.ref b11)])) _
    refine XS.iconst X11.here hx rfl (hb hby at_55) ?_
    show Steps p.tables e below (T11.setTop (mkF m 56 (own_F3 i1 i2 vi (own_dice vi) b5) [(.int (0 : Int32)), (.int (0 : Int32)), (.int (0 : Int32)), (.ref b11), (.ref b11)])) _
    refine st12.trans ?_
    show Steps p.tables e below (T12.setTop (mkF m 59 (own_F3 i1 i2 vi (own_dice vi) b5) [(.ref b11)])) _
    refine XS.aload X12.here hx rfl (hb hby at_59) rfl rfl ?_
    show Steps p.tables e below (T12.setTop (mkF m 61 (own_F3 i1 i2 vi (own_dice vi) b5) [(.ref b5), (.ref b11)])) _
    refine st13.trans ?_
    show Steps p.tables e below (T13.setTop (mkF m 64 (own_F3 i1 i2 vi (own_dice vi) b5) [(.ref z_13)])) _
    refine XS.astore X13.here hx rfl (hb hby at_64) rfl rfl (l' := (own_F4 i1 i2 vi (own_dice vi) b5 z_13)) rfl ?_
    show Steps p.tables e below (T13.setTop (mkF m 66 (own_F4 i1 i2 vi (own_dice vi) b5 z_13) [])) _
    refine XS.aload X13.here hx rfl (hb hby at_66) rfl rfl ?_
    show Steps p.tables e below (T13.setTop (mkF m 68 (own_F4 i1 i2 vi (own_dice vi) b5 z_13) [(.ref z_13)])) _
    refine st14.trans ?_
    show Steps p.tables e below (T14.setTop (mkF m 71 (own_F4 i1 i2 vi (own_dice vi) b5 z_13) [(.ref (own_sp vi s_CRITICAL s_FUMBLE s_NONE))])) _
    exact k
  rcases own_three vi with ⟨hd, hs⟩ | ⟨hd, hs⟩ | ⟨hd, hs⟩
  · have w16 : ∀ t, Steps p.tables e below (T14.setTop (mkF m 71 (own_F4 i1 i2 vi (2 : Int32) b5 z_13) [(.ref s_CRITICAL)])) t → Steps p.tables e below (s₁.setTop (entryFrame m #[(.int i1), (.int i2)] maxLocals)) t := by
      have q := w15
      rw [hd, hs] at q
      exact q
    obtain ⟨T17, X17, e17, st17⟩ := getS2 X14 hx hZ hown (host := "") (Or.inl (hw _ (List.mem_of_getElem? (i := 270) rfl))) Via.refl eh14 (S_s_NONE.ext O.2) (g := (mkF m 71 (own_F4 i1 i2 vi (2 : Int32) b5 z_13) [(.ref s_CRITICAL)])) rfl (hb hby at_71)
    have w18 : ∀ t, Steps p.tables e below (T17.setTop (mkF m 114 (own_F5 i1 i2 vi (2 : Int32) b5 z_13 (1 : Int32)) [(.int (1 : Int32))])) t → Steps p.tables e below (s₁.setTop (entryFrame m #[(.int i1), (.int i2)] maxLocals)) t := fun t k => by
      refine w16 t ?_
      refine st17 _ ?_
      show Steps p.tables e below (T17.setTop (mkF m 74 (own_F4 i1 i2 vi (2 : Int32) b5 z_13) [(.ref s_NONE), (.ref s_CRITICAL)])) _
      refine Jvm.RoadKit.acmp (g := (mkF m 74 (own_F4 i1 i2 vi (2 : Int32) b5 z_13) [(.ref s_NONE), (.ref s_CRITICAL)])) X17 hx rfl rfl rfl (pc0 := 74) (pc' := 77) (same := false) rfl (hb hby at_74) rfl (decide_eq_false fun q => neC (Value.ref.inj q)) (by decide) (by decide) ?_
      show Steps p.tables e below (T17.setTop (mkF m 77 (own_F4 i1 i2 vi (2 : Int32) b5 z_13) [])) _
      refine XS.iconst X17.here hx rfl (hb hby at_77) ?_
      show Steps p.tables e below (T17.setTop (mkF m 78 (own_F4 i1 i2 vi (2 : Int32) b5 z_13) [(.int (1 : Int32))])) _
      refine XS.goto X17.here hx rfl (pc0 := 78) (pc' := 82) rfl (hb hby at_78) (by decide) (by decide) ?_
      show Steps p.tables e below (T17.setTop (mkF m 82 (own_F4 i1 i2 vi (2 : Int32) b5 z_13) [(.int (1 : Int32))])) _
      refine XS.istore X17.here hx rfl (hb hby at_82) rfl (l' := (own_F5 i1 i2 vi (2 : Int32) b5 z_13 (1 : Int32))) rfl ?_
      show Steps p.tables e below (T17.setTop (mkF m 84 (own_F5 i1 i2 vi (2 : Int32) b5 z_13 (1 : Int32)) [])) _
      refine XS.iloadN X17.here hx rfl (hb hby at_84) rfl ?_
      show Steps p.tables e below (T17.setTop (mkF m 85 (own_F5 i1 i2 vi (2 : Int32) b5 z_13 (1 : Int32)) [(.int (2 : Int32))])) _
      refine XS.iconst X17.here hx rfl (hb hby at_85) ?_
      show Steps p.tables e below (T17.setTop (mkF m 86 (own_F5 i1 i2 vi (2 : Int32) b5 z_13 (1 : Int32)) [(.int (1 : Int32)), (.int (2 : Int32))])) _
      refine XS.icmpNo X17.here hx rfl (hb hby at_86) rfl (feq ((by decide) : ¬ ((2 : Int32) = (1 : Int32)))).1 ?_
      show Steps p.tables e below (T17.setTop (mkF m 89 (own_F5 i1 i2 vi (2 : Int32) b5 z_13 (1 : Int32)) [])) _
      refine XS.iloadN X17.here hx rfl (hb hby at_89) rfl ?_
      show Steps p.tables e below (T17.setTop (mkF m 90 (own_F5 i1 i2 vi (2 : Int32) b5 z_13 (1 : Int32)) [(.int (2 : Int32))])) _
      refine XS.iconst X17.here hx rfl (hb hby at_90) ?_
      show Steps p.tables e below (T17.setTop (mkF m 91 (own_F5 i1 i2 vi (2 : Int32) b5 z_13 (1 : Int32)) [(.int (2 : Int32)), (.int (2 : Int32))])) _
      refine XS.icmpNo X17.here hx rfl (hb hby at_91) rfl (teq (rfl : (2 : Int32) = (2 : Int32))).2 ?_
      show Steps p.tables e below (T17.setTop (mkF m 94 (own_F5 i1 i2 vi (2 : Int32) b5 z_13 (1 : Int32)) [])) _
      refine XS.iloadN X17.here hx rfl (hb hby at_94) rfl ?_
      show Steps p.tables e below (T17.setTop (mkF m 95 (own_F5 i1 i2 vi (2 : Int32) b5 z_13 (1 : Int32)) [(.int (2 : Int32))])) _
      refine XS.iconst X17.here hx rfl (hb hby at_95) ?_
      show Steps p.tables e below (T17.setTop (mkF m 96 (own_F5 i1 i2 vi (2 : Int32) b5 z_13 (1 : Int32)) [(.int (2 : Int32)), (.int (2 : Int32))])) _
      refine XS.icmpNo X17.here hx rfl (hb hby at_96) rfl (teq (rfl : (2 : Int32) = (2 : Int32))).2 ?_
      show Steps p.tables e below (T17.setTop (mkF m 99 (own_F5 i1 i2 vi (2 : Int32) b5 z_13 (1 : Int32)) [])) _
      refine XS.iconst X17.here hx rfl (hb hby at_99) ?_
      show Steps p.tables e below (T17.setTop (mkF m 100 (own_F5 i1 i2 vi (2 : Int32) b5 z_13 (1 : Int32)) [(.int (1 : Int32))])) _
      refine XS.goto X17.here hx rfl (pc0 := 100) (pc' := 104) rfl (hb hby at_100) (by decide) (by decide) ?_
      show Steps p.tables e below (T17.setTop (mkF m 104 (own_F5 i1 i2 vi (2 : Int32) b5 z_13 (1 : Int32)) [(.int (1 : Int32))])) _
      refine XS.iload X17.here hx rfl (hb hby at_104) rfl ?_
      show Steps p.tables e below (T17.setTop (mkF m 106 (own_F5 i1 i2 vi (2 : Int32) b5 z_13 (1 : Int32)) [(.int (1 : Int32)), (.int (1 : Int32))])) _
      refine XS.icmpNo X17.here hx rfl (hb hby at_106) rfl (teq (rfl : (1 : Int32) = (1 : Int32))).2 ?_
      show Steps p.tables e below (T17.setTop (mkF m 109 (own_F5 i1 i2 vi (2 : Int32) b5 z_13 (1 : Int32)) [])) _
      refine XS.iconst X17.here hx rfl (hb hby at_109) ?_
      show Steps p.tables e below (T17.setTop (mkF m 110 (own_F5 i1 i2 vi (2 : Int32) b5 z_13 (1 : Int32)) [(.int (1 : Int32))])) _
      refine XS.goto X17.here hx rfl (pc0 := 110) (pc' := 114) rfl (hb hby at_110) (by decide) (by decide) ?_
      show Steps p.tables e below (T17.setTop (mkF m 114 (own_F5 i1 i2 vi (2 : Int32) b5 z_13 (1 : Int32)) [(.int (1 : Int32))])) _
      exact k
    obtain ⟨fs, hr, hrun, hended, hW, hsame⟩ := X17.leave (v := some (.int (1 : Int32))) (fun h => by rw [Bd.returns] at h; cases h)
    refine ⟨_, _, w18 _ ?_, hrun, hended, _, _, rfl, ?_, ⟨_, rfl⟩, hW, hsame.mono (by decide) (by decide)⟩
    · exact retN X17 hx (t := .boolean) Bd.returns (by simp) (hb hby at_114) hr
    · show Q0 Z i1 i2 kd m12 mal cl_s_cacheI s_DEF s_cacheI s_EMPTY s_NONE s_CRITICAL s_FUMBLE h0 n0 _ T17.heap _
      rw [e17]
      exact ⟨rfl, N14⟩
  · have w19 : ∀ t, Steps p.tables e below (T14.setTop (mkF m 71 (own_F4 i1 i2 vi (2 : Int32) b5 z_13) [(.ref s_FUMBLE)])) t → Steps p.tables e below (s₁.setTop (entryFrame m #[(.int i1), (.int i2)] maxLocals)) t := by
      have q := w15
      rw [hd, hs] at q
      exact q
    obtain ⟨T20, X20, e20, st20⟩ := getS2 X14 hx hZ hown (host := "") (Or.inl (hw _ (List.mem_of_getElem? (i := 270) rfl))) Via.refl eh14 (S_s_NONE.ext O.2) (g := (mkF m 71 (own_F4 i1 i2 vi (2 : Int32) b5 z_13) [(.ref s_FUMBLE)])) rfl (hb hby at_71)
    have w21 : ∀ t, Steps p.tables e below (T20.setTop (mkF m 114 (own_F5 i1 i2 vi (2 : Int32) b5 z_13 (1 : Int32)) [(.int (1 : Int32))])) t → Steps p.tables e below (s₁.setTop (entryFrame m #[(.int i1), (.int i2)] maxLocals)) t := fun t k => by
      refine w19 t ?_
      refine st20 _ ?_
      show Steps p.tables e below (T20.setTop (mkF m 74 (own_F4 i1 i2 vi (2 : Int32) b5 z_13) [(.ref s_NONE), (.ref s_FUMBLE)])) _
      refine Jvm.RoadKit.acmp (g := (mkF m 74 (own_F4 i1 i2 vi (2 : Int32) b5 z_13) [(.ref s_NONE), (.ref s_FUMBLE)])) X20 hx rfl rfl rfl (pc0 := 74) (pc' := 77) (same := false) rfl (hb hby at_74) rfl (decide_eq_false fun q => neF (Value.ref.inj q)) (by decide) (by decide) ?_
      show Steps p.tables e below (T20.setTop (mkF m 77 (own_F4 i1 i2 vi (2 : Int32) b5 z_13) [])) _
      refine XS.iconst X20.here hx rfl (hb hby at_77) ?_
      show Steps p.tables e below (T20.setTop (mkF m 78 (own_F4 i1 i2 vi (2 : Int32) b5 z_13) [(.int (1 : Int32))])) _
      refine XS.goto X20.here hx rfl (pc0 := 78) (pc' := 82) rfl (hb hby at_78) (by decide) (by decide) ?_
      show Steps p.tables e below (T20.setTop (mkF m 82 (own_F4 i1 i2 vi (2 : Int32) b5 z_13) [(.int (1 : Int32))])) _
      refine XS.istore X20.here hx rfl (hb hby at_82) rfl (l' := (own_F5 i1 i2 vi (2 : Int32) b5 z_13 (1 : Int32))) rfl ?_
      show Steps p.tables e below (T20.setTop (mkF m 84 (own_F5 i1 i2 vi (2 : Int32) b5 z_13 (1 : Int32)) [])) _
      refine XS.iloadN X20.here hx rfl (hb hby at_84) rfl ?_
      show Steps p.tables e below (T20.setTop (mkF m 85 (own_F5 i1 i2 vi (2 : Int32) b5 z_13 (1 : Int32)) [(.int (2 : Int32))])) _
      refine XS.iconst X20.here hx rfl (hb hby at_85) ?_
      show Steps p.tables e below (T20.setTop (mkF m 86 (own_F5 i1 i2 vi (2 : Int32) b5 z_13 (1 : Int32)) [(.int (1 : Int32)), (.int (2 : Int32))])) _
      refine XS.icmpNo X20.here hx rfl (hb hby at_86) rfl (feq ((by decide) : ¬ ((2 : Int32) = (1 : Int32)))).1 ?_
      show Steps p.tables e below (T20.setTop (mkF m 89 (own_F5 i1 i2 vi (2 : Int32) b5 z_13 (1 : Int32)) [])) _
      refine XS.iloadN X20.here hx rfl (hb hby at_89) rfl ?_
      show Steps p.tables e below (T20.setTop (mkF m 90 (own_F5 i1 i2 vi (2 : Int32) b5 z_13 (1 : Int32)) [(.int (2 : Int32))])) _
      refine XS.iconst X20.here hx rfl (hb hby at_90) ?_
      show Steps p.tables e below (T20.setTop (mkF m 91 (own_F5 i1 i2 vi (2 : Int32) b5 z_13 (1 : Int32)) [(.int (2 : Int32)), (.int (2 : Int32))])) _
      refine XS.icmpNo X20.here hx rfl (hb hby at_91) rfl (teq (rfl : (2 : Int32) = (2 : Int32))).2 ?_
      show Steps p.tables e below (T20.setTop (mkF m 94 (own_F5 i1 i2 vi (2 : Int32) b5 z_13 (1 : Int32)) [])) _
      refine XS.iloadN X20.here hx rfl (hb hby at_94) rfl ?_
      show Steps p.tables e below (T20.setTop (mkF m 95 (own_F5 i1 i2 vi (2 : Int32) b5 z_13 (1 : Int32)) [(.int (2 : Int32))])) _
      refine XS.iconst X20.here hx rfl (hb hby at_95) ?_
      show Steps p.tables e below (T20.setTop (mkF m 96 (own_F5 i1 i2 vi (2 : Int32) b5 z_13 (1 : Int32)) [(.int (2 : Int32)), (.int (2 : Int32))])) _
      refine XS.icmpNo X20.here hx rfl (hb hby at_96) rfl (teq (rfl : (2 : Int32) = (2 : Int32))).2 ?_
      show Steps p.tables e below (T20.setTop (mkF m 99 (own_F5 i1 i2 vi (2 : Int32) b5 z_13 (1 : Int32)) [])) _
      refine XS.iconst X20.here hx rfl (hb hby at_99) ?_
      show Steps p.tables e below (T20.setTop (mkF m 100 (own_F5 i1 i2 vi (2 : Int32) b5 z_13 (1 : Int32)) [(.int (1 : Int32))])) _
      refine XS.goto X20.here hx rfl (pc0 := 100) (pc' := 104) rfl (hb hby at_100) (by decide) (by decide) ?_
      show Steps p.tables e below (T20.setTop (mkF m 104 (own_F5 i1 i2 vi (2 : Int32) b5 z_13 (1 : Int32)) [(.int (1 : Int32))])) _
      refine XS.iload X20.here hx rfl (hb hby at_104) rfl ?_
      show Steps p.tables e below (T20.setTop (mkF m 106 (own_F5 i1 i2 vi (2 : Int32) b5 z_13 (1 : Int32)) [(.int (1 : Int32)), (.int (1 : Int32))])) _
      refine XS.icmpNo X20.here hx rfl (hb hby at_106) rfl (teq (rfl : (1 : Int32) = (1 : Int32))).2 ?_
      show Steps p.tables e below (T20.setTop (mkF m 109 (own_F5 i1 i2 vi (2 : Int32) b5 z_13 (1 : Int32)) [])) _
      refine XS.iconst X20.here hx rfl (hb hby at_109) ?_
      show Steps p.tables e below (T20.setTop (mkF m 110 (own_F5 i1 i2 vi (2 : Int32) b5 z_13 (1 : Int32)) [(.int (1 : Int32))])) _
      refine XS.goto X20.here hx rfl (pc0 := 110) (pc' := 114) rfl (hb hby at_110) (by decide) (by decide) ?_
      show Steps p.tables e below (T20.setTop (mkF m 114 (own_F5 i1 i2 vi (2 : Int32) b5 z_13 (1 : Int32)) [(.int (1 : Int32))])) _
      exact k
    obtain ⟨fs, hr, hrun, hended, hW, hsame⟩ := X20.leave (v := some (.int (1 : Int32))) (fun h => by rw [Bd.returns] at h; cases h)
    refine ⟨_, _, w21 _ ?_, hrun, hended, _, _, rfl, ?_, ⟨_, rfl⟩, hW, hsame.mono (by decide) (by decide)⟩
    · exact retN X20 hx (t := .boolean) Bd.returns (by simp) (hb hby at_114) hr
    · show Q0 Z i1 i2 kd m12 mal cl_s_cacheI s_DEF s_cacheI s_EMPTY s_NONE s_CRITICAL s_FUMBLE h0 n0 _ T20.heap _
      rw [e20]
      exact ⟨rfl, N14⟩
  · have w22 : ∀ t, Steps p.tables e below (T14.setTop (mkF m 71 (own_F4 i1 i2 vi (1 : Int32) b5 z_13) [(.ref s_NONE)])) t → Steps p.tables e below (s₁.setTop (entryFrame m #[(.int i1), (.int i2)] maxLocals)) t := by
      have q := w15
      rw [hd, hs] at q
      exact q
    obtain ⟨T23, X23, e23, st23⟩ := getS2 X14 hx hZ hown (host := "") (Or.inl (hw _ (List.mem_of_getElem? (i := 270) rfl))) Via.refl eh14 (S_s_NONE.ext O.2) (g := (mkF m 71 (own_F4 i1 i2 vi (1 : Int32) b5 z_13) [(.ref s_NONE)])) rfl (hb hby at_71)
    have w24 : ∀ t, Steps p.tables e below (T23.setTop (mkF m 114 (own_F5 i1 i2 vi (1 : Int32) b5 z_13 (0 : Int32)) [(.int (1 : Int32))])) t → Steps p.tables e below (s₁.setTop (entryFrame m #[(.int i1), (.int i2)] maxLocals)) t := fun t k => by
      refine w22 t ?_
      refine st23 _ ?_
      show Steps p.tables e below (T23.setTop (mkF m 74 (own_F4 i1 i2 vi (1 : Int32) b5 z_13) [(.ref s_NONE), (.ref s_NONE)])) _
      refine Jvm.RoadKit.acmp (g := (mkF m 74 (own_F4 i1 i2 vi (1 : Int32) b5 z_13) [(.ref s_NONE), (.ref s_NONE)])) X23 hx rfl rfl rfl (pc0 := 74) (pc' := 81) (same := true) rfl (hb hby at_74) rfl (decide_eq_true rfl) (by decide) (by decide) ?_
      show Steps p.tables e below (T23.setTop (mkF m 81 (own_F4 i1 i2 vi (1 : Int32) b5 z_13) [])) _
      refine XS.iconst X23.here hx rfl (hb hby at_81) ?_
      show Steps p.tables e below (T23.setTop (mkF m 82 (own_F4 i1 i2 vi (1 : Int32) b5 z_13) [(.int (0 : Int32))])) _
      refine XS.istore X23.here hx rfl (hb hby at_82) rfl (l' := (own_F5 i1 i2 vi (1 : Int32) b5 z_13 (0 : Int32))) rfl ?_
      show Steps p.tables e below (T23.setTop (mkF m 84 (own_F5 i1 i2 vi (1 : Int32) b5 z_13 (0 : Int32)) [])) _
      refine XS.iloadN X23.here hx rfl (hb hby at_84) rfl ?_
      show Steps p.tables e below (T23.setTop (mkF m 85 (own_F5 i1 i2 vi (1 : Int32) b5 z_13 (0 : Int32)) [(.int (1 : Int32))])) _
      refine XS.iconst X23.here hx rfl (hb hby at_85) ?_
      show Steps p.tables e below (T23.setTop (mkF m 86 (own_F5 i1 i2 vi (1 : Int32) b5 z_13 (0 : Int32)) [(.int (1 : Int32)), (.int (1 : Int32))])) _
      refine XS.icmpYes X23.here hx rfl (pc0 := 86) (pc' := 94) rfl (hb hby at_86) rfl (teq (rfl : (1 : Int32) = (1 : Int32))).1 (by decide) (by decide) ?_
      show Steps p.tables e below (T23.setTop (mkF m 94 (own_F5 i1 i2 vi (1 : Int32) b5 z_13 (0 : Int32)) [])) _
      refine XS.iloadN X23.here hx rfl (hb hby at_94) rfl ?_
      show Steps p.tables e below (T23.setTop (mkF m 95 (own_F5 i1 i2 vi (1 : Int32) b5 z_13 (0 : Int32)) [(.int (1 : Int32))])) _
      refine XS.iconst X23.here hx rfl (hb hby at_95) ?_
      show Steps p.tables e below (T23.setTop (mkF m 96 (own_F5 i1 i2 vi (1 : Int32) b5 z_13 (0 : Int32)) [(.int (2 : Int32)), (.int (1 : Int32))])) _
      refine XS.icmpYes X23.here hx rfl (pc0 := 96) (pc' := 103) rfl (hb hby at_96) rfl (feq ((by decide) : ¬ ((1 : Int32) = (2 : Int32)))).2 (by decide) (by decide) ?_
      show Steps p.tables e below (T23.setTop (mkF m 103 (own_F5 i1 i2 vi (1 : Int32) b5 z_13 (0 : Int32)) [])) _
      refine XS.iconst X23.here hx rfl (hb hby at_103) ?_
      show Steps p.tables e below (T23.setTop (mkF m 104 (own_F5 i1 i2 vi (1 : Int32) b5 z_13 (0 : Int32)) [(.int (0 : Int32))])) _
      refine XS.iload X23.here hx rfl (hb hby at_104) rfl ?_
      show Steps p.tables e below (T23.setTop (mkF m 106 (own_F5 i1 i2 vi (1 : Int32) b5 z_13 (0 : Int32)) [(.int (0 : Int32)), (.int (0 : Int32))])) _
      refine XS.icmpNo X23.here hx rfl (hb hby at_106) rfl (teq (rfl : (0 : Int32) = (0 : Int32))).2 ?_
      show Steps p.tables e below (T23.setTop (mkF m 109 (own_F5 i1 i2 vi (1 : Int32) b5 z_13 (0 : Int32)) [])) _
      refine XS.iconst X23.here hx rfl (hb hby at_109) ?_
      show Steps p.tables e below (T23.setTop (mkF m 110 (own_F5 i1 i2 vi (1 : Int32) b5 z_13 (0 : Int32)) [(.int (1 : Int32))])) _
      refine XS.goto X23.here hx rfl (pc0 := 110) (pc' := 114) rfl (hb hby at_110) (by decide) (by decide) ?_
      show Steps p.tables e below (T23.setTop (mkF m 114 (own_F5 i1 i2 vi (1 : Int32) b5 z_13 (0 : Int32)) [(.int (1 : Int32))])) _
      exact k
    obtain ⟨fs, hr, hrun, hended, hW, hsame⟩ := X23.leave (v := some (.int (1 : Int32))) (fun h => by rw [Bd.returns] at h; cases h)
    refine ⟨_, _, w24 _ ?_, hrun, hended, _, _, rfl, ?_, ⟨_, rfl⟩, hW, hsame.mono (by decide) (by decide)⟩
    · exact retN X23 hx (t := .boolean) Bd.returns (by simp) (hb hby at_114) hr
    · show Q0 Z i1 i2 kd m12 mal cl_s_cacheI s_DEF s_cacheI s_EMPTY s_NONE s_CRITICAL s_FUMBLE h0 n0 _ T23.heap _
      rw [e23]
      exact ⟨rfl, N14⟩
theorem own_mir {s : State} {A : String} (h : MirrorMade s A) : ∃ m, Mir s A m := by
  obtain ⟨c, k, m, h1, h2, h3, h4⟩ := h
  exact ⟨m, c, k, h1, h2, h3, h4⟩
set_option maxRecDepth 65536 in
set_option maxHeartbeats 40000000 in
theorem comes_1 {Post : Tables → Env → Array Value → State → Outcome → State → Prop} (hpost : ∀ tb e args s v u, (limb_1_1.after args s (.returned v) u = true ∧ limb_1_2.after args s (.returned v) u = true ∧ True) → FrameEnd s (.returned v) u (Jvm.fieldLocs frame_1_writes args s ++ Jvm.arrayLocs frame_1_arrays args s ++ Jvm.staticLocs frame_1_statics s) 32 192 → Post tb e args s (.returned v) u) :
    ArmFor flags0 classFile x code maxLocals ret World_1 tables_1 room_1 Calls_1 rest_1 Pre_1 Post := by
  intro l hfl _ _ p e ha hc hk s m args below hf hA hF happ hP
  obtain ⟨hcalls, hrest, hpre⟩ := hP
  obtain ⟨-, -, -, hnamed, -, -, -, hat⟩ := (Spec.applies_iff hf).mp happ
  obtain ⟨hg, hn⟩ := and_e (Cond.before_iff.mp (show (Jvm.Cond.and given_1 narrow_1).before args s = true from hpre))
  obtain ⟨g1, g2⟩ := and_e hg
  obtain ⟨g3, g4⟩ := and_e g2
  obtain ⟨g5, g6⟩ := and_e hn
  obtain ⟨g7, g8⟩ := and_e g6
  obtain ⟨g9, g10⟩ := and_e g8
  obtain ⟨g11, g12⟩ := and_e g10
  obtain ⟨g13, g14⟩ := and_e g12
  obtain ⟨w0, w1, rfl⟩ : ∃ w0 w1 : Value, args = #[w0, w1] := by
    have hs : args.size = 2 := by simpa [Cond.value, given_1] using g1
    obtain ⟨L⟩ := args
    match L, hs with
    | [w0, w1], _ => exact ⟨w0, w1, rfl⟩
  have hw := fun d (hd : d ∈ tables_1) => atoms_spec (ws := Jvm.Cond.code x code maxLocals ret :: tables_1) hat d (List.mem_cons_of_mem _ hd)
  have hfit : Fit s := fun {y c} hc i hi => by
    obtain ⟨ha, rfl⟩ := Array.getElem?_eq_some_iff.mp hc
    have q := List.all_eq_true.mp ((Array.all_eq_true_iff_forall_mem.mp hF) _ (Array.getElem_mem ha)) i (List.mem_range.mpr hi)
    simpa [Array.getElem?_eq_getElem hi] using q
  obtain ⟨hsets, hown0⟩ := atoms_of _ (rest_1_c_eq ▸ (show rest_1_c.before _ s = true from hrest))
  have hr0 := Cond.before_iff.mp hown0
  obtain ⟨i0, ei0⟩ := is_v g3
  obtain rfl : w0 = (.int i0) := Option.some.inj ei0
  obtain ⟨i1, ei1⟩ := is_v g4
  obtain rfl : w1 = (.int i1) := Option.some.inj ei1
  obtain ⟨s_NONE, ev_s_NONE⟩ := exa_v g5
  have E_s_NONE : Exa s s.heap s_NONE "com/example/hantei/hantei/engine/Special" := Exa.start ev_s_NONE g5
  have S_s_NONE : Sta s s.heap "com/example/hantei/hantei/engine/Special" "NONE" "Lcom/example/hantei/hantei/engine/Special;" (.ref s_NONE) := Sta.start ev_s_NONE (Or.inr ⟨(hw _ (List.mem_of_getElem? (i := 91) rfl)), (hw _ (List.mem_of_getElem? (i := 92) rfl))⟩)
  obtain ⟨s_CRITICAL, ev_s_CRITICAL⟩ := exa_v g7
  have E_s_CRITICAL : Exa s s.heap s_CRITICAL "com/example/hantei/hantei/engine/Special" := Exa.start ev_s_CRITICAL g7
  have S_s_CRITICAL : Sta s s.heap "com/example/hantei/hantei/engine/Special" "CRITICAL" "Lcom/example/hantei/hantei/engine/Special;" (.ref s_CRITICAL) := Sta.start ev_s_CRITICAL (Or.inr ⟨(hw _ (List.mem_of_getElem? (i := 91) rfl)), (hw _ (List.mem_of_getElem? (i := 272) rfl))⟩)
  obtain ⟨s_FUMBLE, ev_s_FUMBLE⟩ := exa_v g13
  have E_s_FUMBLE : Exa s s.heap s_FUMBLE "com/example/hantei/hantei/engine/Special" := Exa.start ev_s_FUMBLE g13
  have S_s_FUMBLE : Sta s s.heap "com/example/hantei/hantei/engine/Special" "FUMBLE" "Lcom/example/hantei/hantei/engine/Special;" (.ref s_FUMBLE) := Sta.start ev_s_FUMBLE (Or.inr ⟨(hw _ (List.mem_of_getElem? (i := 91) rfl)), (hw _ (List.mem_of_getElem? (i := 285) rfl))⟩)
  have F_ordinal_s_CRITICAL : Fld s s.heap s_CRITICAL "java/lang/Enum" "ordinal" "I" (.int (0 : Int32)) := Fld.start (own_fld ev_s_CRITICAL (by exact Term.int_eval (0)) g9)
  have F_ordinal_s_NONE : Fld s s.heap s_NONE "java/lang/Enum" "ordinal" "I" (.int (2 : Int32)) := Fld.start (own_fld ev_s_NONE (by exact Term.int_eval (2)) g11)
  have F_ordinal_s_FUMBLE : Fld s s.heap s_FUMBLE "java/lang/Enum" "ordinal" "I" (.int (1 : Int32)) := Fld.start (own_fld ev_s_FUMBLE (by exact Term.int_eval (1)) g14)
  obtain ⟨s_DEF, ev_D⟩ := arr_v (Cond.before_iff.mp (hsets _ (List.mem_of_getElem? (i := 6) rfl)))
  have S_s_DEF : Sta s s.heap "java/util/ArrayList" "DEFAULTCAPACITY_EMPTY_ELEMENTDATA" "[Ljava/lang/Object;" (.ref s_DEF) := Sta.start ev_D (Or.inr ⟨(hw _ (List.mem_of_getElem? (i := 6) rfl)), (hsets _ (List.mem_of_getElem? (i := 2) rfl))⟩)
  obtain ⟨clD, A_D⟩ := Arr.start ev_D (Cond.before_iff.mp (hsets _ (List.mem_of_getElem? (i := 6) rfl)))
  obtain ⟨u_D, t_D⟩ := Jvm.Free.IntBox.length_fwd (hsets _ (List.mem_of_getElem? (i := 8) rfl)) ev_D A_D.1 A_D.2.1 A_D.2.2
  have V_DEF := Arv.start (dv := .null) (vs := []) hfit A_D u_D t_D (by decide) rfl trivial
  obtain ⟨kd, e_kd⟩ : ∃ k, k = clD.cls := ⟨_, rfl⟩
  rw [← e_kd] at V_DEF
  obtain ⟨s_cacheI, ev_C⟩ := arr_v (Cond.before_iff.mp (hsets _ (List.mem_of_getElem? (i := 13) rfl)))
  have S_s_cacheI : Sta s s.heap "java/lang/Integer$IntegerCache" "cache" "[Ljava/lang/Integer;" (.ref s_cacheI) := Sta.start ev_C (Or.inr ⟨(hw _ (List.mem_of_getElem? (i := 35) rfl)), (hsets _ (List.mem_of_getElem? (i := 11) rfl))⟩)
  obtain ⟨cl_s_cacheI, A_C⟩ := Arr.start ev_C (Cond.before_iff.mp (hsets _ (List.mem_of_getElem? (i := 13) rfl)))
  obtain ⟨u_C, t_C⟩ := Jvm.Free.IntBox.length_fwd (hsets _ (List.mem_of_getElem? (i := 15) rfl)) ev_C A_C.1 A_C.2.1 A_C.2.2
  have BI : Bxs s s_cacheI cl_s_cacheI "java/lang/Integer" "I" 256 own_vI := Bxs.start (fun _ => ev_C) A_C u_C t_C (by decide) (Cond.before_iff.mp (hsets _ (List.mem_of_getElem? (i := 16) rfl))) (fun X j hj h => eqv_i (Term.sub_int (idx_at hj) (Term.int_eval 128)) h)
  have S_high : Sta s s.heap "java/lang/Integer$IntegerCache" "high" "I" (.int (127 : Int32)) := Sta.start (eqv_i (Term.int_eval 127) (Cond.before_iff.mp (hsets _ (List.mem_of_getElem? (i := 12) rfl)))) (Or.inl (hsets _ (List.mem_of_getElem? (i := 10) rfl)))
  obtain ⟨s_EMPTY, ev_E⟩ := exa_v (Cond.before_iff.mp (hsets _ (List.mem_of_getElem? (i := 19) rfl)))
  have E_EMPTY := Exa.start ev_E (Cond.before_iff.mp (hsets _ (List.mem_of_getElem? (i := 19) rfl)))
  have S_s_EMPTY : Sta s s.heap "java/util/ImmutableCollections" "EMPTY" "Ljava/lang/Object;" (.ref s_EMPTY) := Sta.start ev_E (Or.inl (hsets _ (List.mem_of_getElem? (i := 18) rfl)))
  obtain ⟨m12, M12⟩ := own_mir hcalls.1
  obtain ⟨mal, MAL⟩ := own_mir hcalls.2.1
  have neC := Fld.ne F_ordinal_s_CRITICAL F_ordinal_s_NONE (by decide)
  have neF := Fld.ne F_ordinal_s_FUMBLE F_ordinal_s_NONE (by decide)
  obtain ⟨n, o, h1, h2, h3, _, L, rfl, ⟨rfl, N⟩, hq⟩ := rm0 l s _ hw tables_1 i0 i1 kd m12 mal cl_s_cacheI s_DEF s_cacheI s_EMPTY s_NONE s_CRITICAL s_FUMBLE s.heap s.heap.size (Old.start s) S_s_DEF S_s_cacheI S_s_EMPTY S_s_NONE S_s_CRITICAL S_s_FUMBLE S_high V_DEF E_EMPTY M12 MAL BI neC neF p e ha hc hk s m _ below hf ((Spec.applies_iff_loose hf).mp happ).1 ⟨rfl, State.Warmed39.refl s, rfl⟩ trivial
  refine ⟨n, _, h1, h2, h3, hpost _ _ _ _ _ _ ⟨Cond.after_iff.mpr rfl, Cond.after_iff.mpr (eq_i res_at (Term.int_eval (1)) rfl), trivial⟩ ⟨hq.1, hq.2.1, (hq.2.2.sift fun y hy => Or.inr (N y hy)).mono (by decide) (by decide)⟩⟩
theorem main_1_1 : Claimed_1_1 := comes_1 fun _ _ _ _ _ _ h hF => ⟨h.1, hF⟩
theorem main_1_2 : Claimed_1_2 := comes_1 fun _ _ _ _ _ _ h hF => ⟨h.2.1, hF⟩
end Jvm.Pilot.@@N@@
namespace Jvm.Pilot.@@N@@
open Jvm Jvm.ClassFile Sem Op Lib Jvm.Free Jvm.Stand Jvm.Pilot.@@N@@.Jvm.D
/-! MADE BY PROGRAM (witnessworld.py) out of the Statement's table words and the real class files: 40 classes; the members and pool entries that the words name. The judged class is class 1, her method 1. -/
namespace start1
open Jvm.ClassFile
def u (s : String) : CpInfo := .utf8 (stringToUtf16 s)
/-- a pool by its gaps: so many unusable entries, then the entry; so many at the end -/
def gap : Nat → List CpInfo → List CpInfo
  | 0, r => r
  | n + 1, r => .unusable :: gap n r
def poolList (es : List (Nat × CpInfo)) (last : Nat) : List CpInfo := es.foldr (fun e r => gap e.1 (e.2 :: r)) (gap last [])
def pool (es : List (Nat × CpInfo)) (last : Nat) : Array CpInfo := ⟨poolList es last⟩
def fileOf (pool : Array CpInfo) (this : Nat) (attrs : Array Attribute := #[]) (ms : Array MethodInfo := #[]) (fl : Nat := 33) (sup : Nat := 0) (ifs : Array Nat := #[]) (fds : Array FieldInfo := #[]) : ClassFile where
  minorVersion := 0
  majorVersion := 65
  constantPool := pool
  accessFlags := fl
  thisClass := this
  superClass := sup
  interfaces := ifs
  fields := fds
  methods := ms
  attributes := attrs
def plain (name : String) (sup : Option ClassId) : Class where
  name := name
  kind := .ordinary
  loader := none
  accessFlags := 33
  super := sup
  interfaces := #[]
  cf := none
  fields := #[]
  methods := #[]
  instanceTypes := #[]
  staticTypes := #[]
  resolved := #[]
  callSites := []
  init := .initialized
  statics := none
  mirror := none

def pool0 : Array CpInfo := pool [(5, u "<init>"), (0, u "()V"), (1, .class_ 10), (1, u "java/lang/Object"), (0, u "getClass"), (0, u "()Ljava/lang/Class;"), (79, u "equals"), (0, u "(Ljava/lang/Object;)Z")] 30

def k0c0 : Code := { maxStack := 0, maxLocals := 1, code := object_method_1_code, exceptionTable := #[], attributes := #[] }
def k0m0 : Method := { name := "<init>", desc := "()V", sig := { parameters := [], returnType := none }, accessFlags := 1, code := some k0c0 }
def k0m1 : Method := { name := "getClass", desc := "()Ljava/lang/Class;", sig := { parameters := [], returnType := some (.object "java/lang/Class") }, accessFlags := 273, code := none }
def k0c2 : Code := { maxStack := 2, maxLocals := 2, code := ⟨#[0x2a, 0x2b, 0xa6, 0x00, 0x07, 0x04, 0xa7, 0x00, 0x04, 0x03, 0xac]⟩, exceptionTable := #[], attributes := #[] }
def k0m2 : Method := { name := "equals", desc := "(Ljava/lang/Object;)Z", sig := { parameters := [(.object "java/lang/Object")], returnType := some .boolean }, accessFlags := 1, code := some k0c2 }
/-- java/lang/Object -/
def k0 : Class := { plain "java/lang/Object" none with
  accessFlags := 33
  interfaces := #[]
  cf := some (fileOf pool0 8 #[] #[{ accessFlags := 1, nameIndex := 5, descriptorIndex := 6, attributes := #[] }, { accessFlags := 273, nameIndex := 11, descriptorIndex := 12, attributes := #[] }, { accessFlags := 1, nameIndex := 92, descriptorIndex := 93, attributes := #[] }] 33 0 #[] #[])
  fields := #[]
  methods := #[k0m0, k0m1, k0m2]
  instanceTypes := #[]
  staticTypes := #[]
  resolved := Array.replicate 124 none
  statics := none }

def pool1 : Array CpInfo := pool [(2, .class_ 4), (0, .nameAndType 5 6), (0, u "java/lang/Object"), (0, u "<init>"), (0, u "()V"), (0, .methodref 8 9), (0, .class_ 10), (0, .nameAndType 11 12), (0, u "com/example/hantei/hantei/packs/plandice/PlanDiceCheck"), (0, u "dice"), (0, u "(I)I"), (0, .class_ 14), (0, u "java/util/ArrayList"), (0, .methodref 13 3), (0, .methodref 17 18), (0, .class_ 19), (0, .nameAndType 20 21), (0, u "java/lang/Integer"), (0, u "valueOf"), (0, u "(I)Ljava/lang/Integer;"), (0, .methodref 13 23), (0, .nameAndType 24 25), (0, u "add"), (0, u "(Ljava/lang/Object;)Z"), (0, .methodref 8 27), (0, .nameAndType 5 28), (0, u "(III)V"), (0, .methodref 8 30), (0, .nameAndType 31 32), (0, u "resolve"), (0, u "(Ljava/util/List;)Lcom/example/hantei/hantei/packs/plandice/PlanDiceCheck$Resolution;"), (0, .methodref 34 35), (0, .class_ 36), (0, .nameAndType 37 38), (0, u "com/example/hantei/hantei/packs/plandice/PlanDiceCheck$Resolution"), (0, u "special"), (0, u "()Lcom/example/hantei/hantei/engine/Special;"), (0, .fieldref 40 41), (0, .class_ 42), (0, .nameAndType 43 44), (0, u "com/example/hantei/hantei/engine/Special"), (0, u "NONE"), (0, u "Lcom/example/hantei/hantei/engine/Special;"), (0, .class_ 46), (0, u "com/example/hantei/hantei/packs/plandice/PlanDiceCheckDicePinLaw"), (2, u "law"), (0, u "(II)Z")] 5

def k1m0 : Method := { name := "<init>", desc := "()V", sig := { parameters := [], returnType := none }, accessFlags := 1, code := none }
def k1c1 : Code := { maxStack := 5, maxLocals := 7, code := code, exceptionTable := #[], attributes := #[] }
def k1m1 : Method := { name := "law", desc := "(II)Z", sig := { parameters := [.int, .int], returnType := some .boolean }, accessFlags := 9, code := some k1c1 }
/-- com/example/hantei/hantei/packs/plandice/PlanDiceCheckDicePinLaw -/
def k1 : Class := { plain "com/example/hantei/hantei/packs/plandice/PlanDiceCheckDicePinLaw" (some 0) with
  accessFlags := 49
  interfaces := #[]
  cf := some (fileOf pool1 45 #[] #[{ accessFlags := 1, nameIndex := 5, descriptorIndex := 6, attributes := #[] }, { accessFlags := 9, nameIndex := 49, descriptorIndex := 50, attributes := #[] }] 49 2 #[] #[])
  fields := #[]
  methods := #[k1m0, k1m1]
  instanceTypes := #[]
  staticTypes := #[]
  resolved := Array.replicate 56 none
  statics := none }

def pool2 : Array CpInfo := pool [(1, .methodref 2 3), (0, .class_ 4), (0, .nameAndType 5 6), (0, u "java/lang/Object"), (0, u "<init>"), (0, u "()V"), (0, .class_ 8), (0, u "java/lang/Record")] 13

def k2c0 : Code := { maxStack := 1, maxLocals := 1, code := jdk_30_method_1_code, exceptionTable := #[], attributes := #[] }
def k2m0 : Method := { name := "<init>", desc := "()V", sig := { parameters := [], returnType := none }, accessFlags := 4, code := some k2c0 }
/-- java/lang/Record -/
def k2 : Class := { plain "java/lang/Record" (some 0) with
  accessFlags := 1057
  interfaces := #[]
  cf := some (fileOf pool2 7 #[] #[{ accessFlags := 4, nameIndex := 5, descriptorIndex := 6, attributes := #[] }] 1057 2 #[] #[])
  fields := #[]
  methods := #[k2m0]
  instanceTypes := #[]
  staticTypes := #[]
  resolved := Array.replicate 22 none
  statics := none }

def pool3 : Array CpInfo := pool [(1, .methodref 2 3), (0, .class_ 4), (0, .nameAndType 5 6), (0, u "java/lang/Record"), (0, u "<init>"), (0, u "()V"), (0, .fieldref 8 9), (0, .class_ 10), (0, .nameAndType 11 12), (0, u "com/example/hantei/hantei/packs/plandice/PlanDiceCheck"), (0, u "plan"), (0, u "I"), (0, .fieldref 8 14), (0, .nameAndType 15 12), (0, u "judgement"), (0, .fieldref 8 17), (0, .nameAndType 18 12), (0, u "target"), (0, .fieldref 20 21), (0, .class_ 22), (0, .nameAndType 23 24), (0, u "com/example/hantei/hantei/engine/Special"), (0, u "NONE"), (0, u "Lcom/example/hantei/hantei/engine/Special;"), (0, .interfaceMethodref 26 27), (0, .class_ 28), (0, .nameAndType 29 30), (0, u "java/util/List"), (0, u "get"), (0, u "(I)Ljava/lang/Object;"), (0, .class_ 32), (0, u "java/lang/Integer"), (0, .methodref 31 34), (0, .nameAndType 35 36), (0, u "intValue"), (0, u "()I"), (0, .methodref 31 38), (0, .nameAndType 39 40), (0, u "valueOf"), (0, u "(I)Ljava/lang/Integer;"), (0, .interfaceMethodref 26 42), (0, .nameAndType 43 44), (0, u "of"), (0, u "(Ljava/lang/Object;Ljava/lang/Object;)Ljava/util/List;"), (0, .interfaceMethodref 26 46), (0, .nameAndType 47 48), (0, u "equals"), (0, u "(Ljava/lang/Object;)Z"), (0, .fieldref 20 50), (0, .nameAndType 51 24), (0, u "CRITICAL"), (0, .fieldref 20 53), (0, .nameAndType 54 24), (0, u "FUMBLE"), (0, .class_ 56), (0, u "com/example/hantei/hantei/packs/plandice/PlanDiceCheck$Resolution"), (0, .methodref 55 58), (0, .nameAndType 5 59), (0, u "(ILcom/example/hantei/hantei/engine/Special;IZ)V"), (2, u "DIE"), (0, u "Lcom/example/hantei/hantei/engine/Die;"), (12, u "dice"), (0, u "(I)I"), (6, u "resolve"), (0, u "(Ljava/util/List;)Lcom/example/hantei/hantei/packs/plandice/PlanDiceCheck$Resolution;"), (18, u "HIGH"), (2, u "LOW"), (1, u "CRITICAL_VALUE"), (1, u "FUMBLE_VALUE"), (1, u "MOST_DICE"), (1, u "(III)V")] 48

def k3c0 : Code := { maxStack := 2, maxLocals := 4, code := prog_69_method_1_code, exceptionTable := #[], attributes := #[] }
def k3m0 : Method := { name := "<init>", desc := "(III)V", sig := { parameters := [.int, .int, .int], returnType := none }, accessFlags := 0, code := some k3c0 }
def k3c1 : Code := { maxStack := 2, maxLocals := 1, code := prog_69_method_2_code, exceptionTable := #[], attributes := #[] }
def k3m1 : Method := { name := "dice", desc := "(I)I", sig := { parameters := [.int], returnType := some .int }, accessFlags := 8, code := some k3c1 }
def k3c2 : Code := { maxStack := 7, maxLocals := 5, code := prog_69_method_3_code, exceptionTable := #[], attributes := #[] }
def k3m2 : Method := { name := "resolve", desc := "(Ljava/util/List;)Lcom/example/hantei/hantei/packs/plandice/PlanDiceCheck$Resolution;", sig := { parameters := [(.object "java/util/List")], returnType := some (.object "com/example/hantei/hantei/packs/plandice/PlanDiceCheck$Resolution") }, accessFlags := 0, code := some k3c2 }
/-- com/example/hantei/hantei/packs/plandice/PlanDiceCheck -/
def k3 : Class := { plain "com/example/hantei/hantei/packs/plandice/PlanDiceCheck" (some 2) with
  accessFlags := 48
  interfaces := #[]
  cf := some (fileOf pool3 8 #[.nestMembers #[55]] #[{ accessFlags := 0, nameIndex := 5, descriptorIndex := 115, attributes := #[] }, { accessFlags := 8, nameIndex := 76, descriptorIndex := 77, attributes := #[] }, { accessFlags := 0, nameIndex := 84, descriptorIndex := 85, attributes := #[] }] 48 2 #[] #[{ accessFlags := 18, nameIndex := 11, descriptorIndex := 12, attributes := #[] }, { accessFlags := 18, nameIndex := 15, descriptorIndex := 12, attributes := #[] }, { accessFlags := 18, nameIndex := 18, descriptorIndex := 12, attributes := #[] }, { accessFlags := 24, nameIndex := 62, descriptorIndex := 63, attributes := #[] }, { accessFlags := 24, nameIndex := 104, descriptorIndex := 12, attributes := #[] }, { accessFlags := 24, nameIndex := 107, descriptorIndex := 12, attributes := #[] }, { accessFlags := 24, nameIndex := 109, descriptorIndex := 12, attributes := #[] }, { accessFlags := 24, nameIndex := 111, descriptorIndex := 12, attributes := #[] }, { accessFlags := 24, nameIndex := 113, descriptorIndex := 12, attributes := #[] }])
  fields := #[{ name := "plan", type := .int, accessFlags := 18, slot := 0, constantValue := 0 }, { name := "judgement", type := .int, accessFlags := 18, slot := 1, constantValue := 0 }, { name := "target", type := .int, accessFlags := 18, slot := 2, constantValue := 0 }, { name := "DIE", type := (.object "com/example/hantei/hantei/engine/Die"), accessFlags := 24, slot := 0, constantValue := 0 }, { name := "HIGH", type := .int, accessFlags := 24, slot := 1, constantValue := 0 }, { name := "LOW", type := .int, accessFlags := 24, slot := 2, constantValue := 0 }, { name := "CRITICAL_VALUE", type := .int, accessFlags := 24, slot := 3, constantValue := 0 }, { name := "FUMBLE_VALUE", type := .int, accessFlags := 24, slot := 4, constantValue := 0 }, { name := "MOST_DICE", type := .int, accessFlags := 24, slot := 5, constantValue := 0 }]
  methods := #[k3m0, k3m1, k3m2]
  instanceTypes := #[.int, .int, .int]
  staticTypes := #[(.object "com/example/hantei/hantei/engine/Die"), .int, .int, .int, .int, .int]
  resolved := Array.replicate 164 none
  statics := none }

def pool4 : Array CpInfo := pool [(8, .class_ 10), (1, u "java/lang/Iterable"), (24, .class_ 36), (0, u "java/lang/Object")] 25

/-- java/lang/Iterable -/
def k4 : Class := { plain "java/lang/Iterable" (some 0) with
  accessFlags := 1537
  interfaces := #[]
  cf := some (fileOf pool4 8 #[] #[] 1537 35 #[] #[])
  fields := #[]
  methods := #[]
  instanceTypes := #[]
  staticTypes := #[]
  resolved := Array.replicate 62 none
  statics := none }

def pool5 : Array CpInfo := pool [(10, .class_ 12), (1, u "java/util/Collection"), (47, .class_ 61), (0, u "java/lang/Object"), (0, .class_ 63), (0, u "java/lang/Iterable")] 51

/-- java/util/Collection -/
def k5 : Class := { plain "java/util/Collection" (some 0) with
  accessFlags := 1537
  interfaces := #[4]
  cf := some (fileOf pool5 10 #[] #[] 1537 60 #[62] #[])
  fields := #[]
  methods := #[]
  instanceTypes := #[]
  staticTypes := #[]
  resolved := Array.replicate 115 none
  statics := none }

def pool6 : Array CpInfo := pool [(1, .methodref 2 3), (0, .class_ 4), (0, .nameAndType 5 6), (0, u "java/lang/Object"), (0, u "<init>"), (0, u "()V"), (1, .class_ 10), (1, u "java/util/AbstractCollection"), (0, u "size"), (0, u "()I"), (64, .class_ 78), (0, u "java/util/Collection")] 81

def k6c0 : Code := { maxStack := 1, maxLocals := 1, code := jdk_22_method_1_code, exceptionTable := #[], attributes := #[] }
def k6m0 : Method := { name := "<init>", desc := "()V", sig := { parameters := [], returnType := none }, accessFlags := 4, code := some k6c0 }
def k6m1 : Method := { name := "size", desc := "()I", sig := { parameters := [], returnType := some .int }, accessFlags := 1025, code := none }
/-- java/util/AbstractCollection -/
def k6 : Class := { plain "java/util/AbstractCollection" (some 0) with
  accessFlags := 1057
  interfaces := #[5]
  cf := some (fileOf pool6 8 #[] #[{ accessFlags := 4, nameIndex := 5, descriptorIndex := 6, attributes := #[] }, { accessFlags := 1025, nameIndex := 11, descriptorIndex := 12, attributes := #[] }] 1057 2 #[77] #[])
  fields := #[]
  methods := #[k6m0, k6m1]
  instanceTypes := #[]
  staticTypes := #[]
  resolved := Array.replicate 160 none
  statics := none }

def pool7 : Array CpInfo := pool [(8, .class_ 10), (1, u "java/util/SequencedCollection"), (15, .class_ 27), (0, u "java/lang/Object"), (0, .class_ 29), (0, u "java/util/Collection")] 27

/-- java/util/SequencedCollection -/
def k7 : Class := { plain "java/util/SequencedCollection" (some 0) with
  accessFlags := 1537
  interfaces := #[5]
  cf := some (fileOf pool7 8 #[] #[] 1537 26 #[28] #[])
  fields := #[]
  methods := #[]
  instanceTypes := #[]
  staticTypes := #[]
  resolved := Array.replicate 57 none
  statics := none }

def pool8 : Array CpInfo := pool [(8, .class_ 10), (1, u "java/util/List"), (37, u "<init>"), (15, u "(Ljava/lang/Object;)Z"), (10, u "get"), (0, u "(I)Ljava/lang/Object;"), (11, u "of"), (7, .class_ 97), (0, u "java/util/ImmutableCollections$List12"), (2, .methodref 96 101), (0, .nameAndType 48 102), (0, u "(Ljava/lang/Object;Ljava/lang/Object;)V"), (0, .class_ 104), (0, u "java/lang/Object"), (15, .class_ 121), (0, u "java/util/SequencedCollection"), (1, u "iterator"), (0, u "()Ljava/util/Iterator;"), (45, u "equals"), (30, u "(Ljava/lang/Object;Ljava/lang/Object;)Ljava/util/List;")] 49

def k8m0 : Method := { name := "iterator", desc := "()Ljava/util/Iterator;", sig := { parameters := [], returnType := some (.object "java/util/Iterator") }, accessFlags := 1025, code := none }
def k8m1 : Method := { name := "equals", desc := "(Ljava/lang/Object;)Z", sig := { parameters := [(.object "java/lang/Object")], returnType := some .boolean }, accessFlags := 1025, code := none }
def k8m2 : Method := { name := "get", desc := "(I)Ljava/lang/Object;", sig := { parameters := [.int], returnType := some (.object "java/lang/Object") }, accessFlags := 1025, code := none }
def k8c3 : Code := { maxStack := 4, maxLocals := 2, code := jdk_40_method_38_code, exceptionTable := #[], attributes := #[] }
def k8m3 : Method := { name := "of", desc := "(Ljava/lang/Object;Ljava/lang/Object;)Ljava/util/List;", sig := { parameters := [(.object "java/lang/Object"), (.object "java/lang/Object")], returnType := some (.object "java/util/List") }, accessFlags := 9, code := some k8c3 }
/-- java/util/List -/
def k8 : Class := { plain "java/util/List" (some 0) with
  accessFlags := 1537
  interfaces := #[7]
  cf := some (fileOf pool8 8 #[] #[{ accessFlags := 1025, nameIndex := 123, descriptorIndex := 124, attributes := #[] }, { accessFlags := 1025, nameIndex := 170, descriptorIndex := 64, attributes := #[] }, { accessFlags := 1025, nameIndex := 75, descriptorIndex := 76, attributes := #[] }, { accessFlags := 9, nameIndex := 88, descriptorIndex := 201, attributes := #[] }] 1537 103 #[120] #[])
  fields := #[]
  methods := #[k8m0, k8m1, k8m2, k8m3]
  instanceTypes := #[]
  staticTypes := #[]
  resolved := Array.replicate 251 none
  statics := none }

def pool9 : Array CpInfo := pool [(1, .methodref 2 3), (0, .class_ 4), (0, .nameAndType 5 6), (0, u "java/util/AbstractCollection"), (0, u "<init>"), (0, u "()V"), (0, .fieldref 8 9), (0, .class_ 10), (0, .nameAndType 11 12), (0, u "java/util/AbstractList"), (0, u "modCount"), (0, u "I"), (64, .class_ 78), (0, u "java/util/AbstractList$Itr"), (3, .class_ 83), (0, u "java/util/AbstractList$ListItr"), (9, .class_ 94), (0, u "java/util/AbstractList$RandomAccessSubList"), (3, .class_ 99), (0, u "java/util/AbstractList$SubList"), (33, .class_ 134), (0, u "java/util/List"), (73, .class_ 209), (0, u "java/util/AbstractList$SubList$1"), (0, .class_ 211), (0, u "java/util/AbstractList$RandomAccessSpliterator")] 6

def k9c0 : Code := { maxStack := 2, maxLocals := 1, code := jdk_39_method_1_code, exceptionTable := #[], attributes := #[] }
def k9m0 : Method := { name := "<init>", desc := "()V", sig := { parameters := [], returnType := none }, accessFlags := 4, code := some k9c0 }
/-- java/util/AbstractList -/
def k9 : Class := { plain "java/util/AbstractList" (some 6) with
  accessFlags := 1057
  interfaces := #[8]
  cf := some (fileOf pool9 8 #[.nestMembers #[93, 98, 208, 210, 82, 77]] #[{ accessFlags := 4, nameIndex := 5, descriptorIndex := 6, attributes := #[] }] 1057 2 #[133] #[{ accessFlags := 132, nameIndex := 11, descriptorIndex := 12, attributes := #[] }])
  fields := #[{ name := "modCount", type := .int, accessFlags := 132, slot := 0, constantValue := 0 }]
  methods := #[k9m0]
  instanceTypes := #[.int]
  staticTypes := #[]
  resolved := Array.replicate 218 none
  statics := none }

def pool10 : Array CpInfo := pool [(1, .class_ 2), (0, u "java/util/RandomAccess"), (0, .class_ 4), (0, u "java/lang/Object")] 2

/-- java/util/RandomAccess -/
def k10 : Class := { plain "java/util/RandomAccess" (some 0) with
  accessFlags := 1537
  interfaces := #[]
  cf := some (fileOf pool10 1 #[] #[] 1537 3 #[] #[])
  fields := #[]
  methods := #[]
  instanceTypes := #[]
  staticTypes := #[]
  resolved := Array.replicate 7 none
  statics := none }

def pool11 : Array CpInfo := pool [(1, .class_ 2), (0, u "java/lang/Cloneable"), (0, .class_ 4), (0, u "java/lang/Object")] 2

/-- java/lang/Cloneable -/
def k11 : Class := { plain "java/lang/Cloneable" (some 0) with
  accessFlags := 1537
  interfaces := #[]
  cf := some (fileOf pool11 1 #[] #[] 1537 3 #[] #[])
  fields := #[]
  methods := #[]
  instanceTypes := #[]
  staticTypes := #[]
  resolved := Array.replicate 7 none
  statics := none }

def pool12 : Array CpInfo := pool [(1, .class_ 2), (0, u "java/io/Serializable"), (0, .class_ 4), (0, u "java/lang/Object")] 2

/-- java/io/Serializable -/
def k12 : Class := { plain "java/io/Serializable" (some 0) with
  accessFlags := 1537
  interfaces := #[]
  cf := some (fileOf pool12 1 #[] #[] 1537 3 #[] #[])
  fields := #[]
  methods := #[]
  instanceTypes := #[]
  staticTypes := #[]
  resolved := Array.replicate 7 none
  statics := none }

def pool13 : Array CpInfo := pool [(1, .methodref 2 3), (0, .class_ 4), (0, .nameAndType 5 6), (0, u "java/util/AbstractList"), (0, u "<init>"), (0, u "()V"), (0, .class_ 8), (0, u "java/lang/Object"), (0, .fieldref 10 11), (0, .class_ 12), (0, .nameAndType 13 14), (0, u "java/util/ArrayList"), (0, u "elementData"), (0, u "[Ljava/lang/Object;"), (2, u "EMPTY_ELEMENTDATA"), (21, .fieldref 10 40), (0, .nameAndType 41 14), (0, u "DEFAULTCAPACITY_EMPTY_ELEMENTDATA"), (5, u "()[Ljava/lang/Object;"), (0, .fieldref 10 49), (0, .nameAndType 50 51), (0, u "size"), (0, u "I"), (1, .nameAndType 54 55), (0, u "getClass"), (0, u "()Ljava/lang/Class;"), (7, .fieldref 10 64), (0, .nameAndType 65 51), (0, u "modCount"), (3, .methodref 10 70), (0, .nameAndType 71 72), (0, u "grow"), (0, u "(I)[Ljava/lang/Object;"), (6, .methodref 80 81), (0, .class_ 82), (0, .nameAndType 83 84), (0, u "java/lang/Math"), (0, u "max"), (0, u "(II)I"), (10, u "equals"), (0, u "(Ljava/lang/Object;)Z"), (6, u "()Ljava/lang/Object;"), (7, .methodref 7 53), (6, .methodref 119 120), (0, .class_ 121), (0, .nameAndType 122 84), (0, u "java/util/Objects"), (0, u "checkIndex"), (0, .methodref 10 124), (0, .nameAndType 13 125), (0, u "(I)Ljava/lang/Object;"), (3, .methodref 10 130), (0, .nameAndType 71 47), (0, .methodref 10 132), (0, .nameAndType 133 134), (0, u "add"), (0, u "(Ljava/lang/Object;[Ljava/lang/Object;I)V"), (3, u "(I)V"), (9, .class_ 149), (0, u "java/util/List"), (4, .methodref 10 155), (0, .nameAndType 156 157), (0, u "equalsRange"), (0, u "(Ljava/util/List;II)Z"), (0, .methodref 10 159), (0, .nameAndType 160 138), (0, u "checkForComodification"), (3, .interfaceMethodref 148 165), (0, .nameAndType 166 167), (0, u "iterator"), (0, u "()Ljava/util/Iterator;"), (0, .interfaceMethodref 169 170), (0, .class_ 171), (0, .nameAndType 172 173), (0, u "java/util/Iterator"), (0, u "hasNext"), (0, u "()Z"), (0, .interfaceMethodref 169 175), (0, .nameAndType 176 103), (0, u "next"), (0, .methodref 119 178), (0, .nameAndType 95 179), (0, u "(Ljava/lang/Object;Ljava/lang/Object;)Z"), (82, .class_ 263), (0, u "java/util/ArrayList$ListItr"), (3, .class_ 268), (0, u "java/util/ArrayList$Itr"), (7, .class_ 277), (0, u "java/util/ArrayList$SubList"), (12, .class_ 291), (0, u "java/util/ArrayList$ArrayListSpliterator"), (37, .class_ 330), (0, u "java/util/RandomAccess"), (0, .class_ 332), (0, u "java/lang/Cloneable"), (0, .class_ 334), (0, u "java/io/Serializable"), (0, u "serialVersionUID"), (0, u "J"), (3, u "DEFAULT_CAPACITY"), (40, u "get"), (118, .class_ 501), (0, u "java/util/ArrayList$SubList$2"), (0, .class_ 503), (0, u "java/util/ArrayList$SubList$1")] 5

def k13c0 : Code := { maxStack := 2, maxLocals := 1, code := jdk_38_method_2_code, exceptionTable := #[], attributes := #[] }
def k13m0 : Method := { name := "<init>", desc := "()V", sig := { parameters := [], returnType := none }, accessFlags := 1, code := some k13c0 }
def k13c1 : Code := { maxStack := 4, maxLocals := 4, code := jdk_38_method_6_code, exceptionTable := #[], attributes := #[] }
def k13m1 : Method := { name := "grow", desc := "(I)[Ljava/lang/Object;", sig := { parameters := [.int], returnType := some (.array (.object "java/lang/Object")) }, accessFlags := 2, code := some k13c1 }
def k13c2 : Code := { maxStack := 3, maxLocals := 1, code := jdk_38_method_7_code, exceptionTable := #[], attributes := #[] }
def k13m2 : Method := { name := "grow", desc := "()[Ljava/lang/Object;", sig := { parameters := [], returnType := some (.array (.object "java/lang/Object")) }, accessFlags := 2, code := some k13c2 }
def k13c3 : Code := { maxStack := 2, maxLocals := 2, code := jdk_38_method_18_code, exceptionTable := #[], attributes := #[] }
def k13m3 : Method := { name := "elementData", desc := "(I)Ljava/lang/Object;", sig := { parameters := [.int], returnType := some (.object "java/lang/Object") }, accessFlags := 0, code := some k13c3 }
def k13c4 : Code := { maxStack := 2, maxLocals := 2, code := jdk_38_method_20_code, exceptionTable := #[], attributes := #[] }
def k13m4 : Method := { name := "get", desc := "(I)Ljava/lang/Object;", sig := { parameters := [.int], returnType := some (.object "java/lang/Object") }, accessFlags := 1, code := some k13c4 }
def k13c5 : Code := { maxStack := 3, maxLocals := 4, code := jdk_38_method_24_code, exceptionTable := #[], attributes := #[] }
def k13m5 : Method := { name := "add", desc := "(Ljava/lang/Object;[Ljava/lang/Object;I)V", sig := { parameters := [(.object "java/lang/Object"), (.array (.object "java/lang/Object")), .int], returnType := none }, accessFlags := 2, code := some k13c5 }
def k13c6 : Code := { maxStack := 4, maxLocals := 2, code := jdk_38_method_25_code, exceptionTable := #[], attributes := #[] }
def k13m6 : Method := { name := "add", desc := "(Ljava/lang/Object;)Z", sig := { parameters := [(.object "java/lang/Object")], returnType := some .boolean }, accessFlags := 1, code := some k13c6 }
def k13c7 : Code := { maxStack := 4, maxLocals := 4, code := jdk_38_method_32_code, exceptionTable := #[], attributes := #[] }
def k13m7 : Method := { name := "equals", desc := "(Ljava/lang/Object;)Z", sig := { parameters := [(.object "java/lang/Object")], returnType := some .boolean }, accessFlags := 1, code := some k13c7 }
def k13c8 : Code := { maxStack := 2, maxLocals := 6, code := jdk_38_method_33_code, exceptionTable := #[], attributes := #[] }
def k13m8 : Method := { name := "equalsRange", desc := "(Ljava/util/List;II)Z", sig := { parameters := [(.object "java/util/List"), .int, .int], returnType := some .boolean }, accessFlags := 0, code := some k13c8 }
def k13c9 : Code := { maxStack := 2, maxLocals := 2, code := jdk_38_method_35_code, exceptionTable := #[], attributes := #[] }
def k13m9 : Method := { name := "checkForComodification", desc := "(I)V", sig := { parameters := [.int], returnType := none }, accessFlags := 2, code := some k13c9 }
/-- java/util/ArrayList -/
def k13 : Class := { plain "java/util/ArrayList" (some 9) with
  accessFlags := 33
  interfaces := #[8, 10, 11, 12]
  cf := some (fileOf pool13 10 #[.nestMembers #[290, 276, 500, 502, 262, 267]] #[{ accessFlags := 1, nameIndex := 5, descriptorIndex := 6, attributes := #[] }, { accessFlags := 2, nameIndex := 71, descriptorIndex := 72, attributes := #[] }, { accessFlags := 2, nameIndex := 71, descriptorIndex := 47, attributes := #[] }, { accessFlags := 0, nameIndex := 13, descriptorIndex := 125, attributes := #[] }, { accessFlags := 1, nameIndex := 381, descriptorIndex := 125, attributes := #[] }, { accessFlags := 2, nameIndex := 133, descriptorIndex := 134, attributes := #[] }, { accessFlags := 1, nameIndex := 133, descriptorIndex := 96, attributes := #[] }, { accessFlags := 1, nameIndex := 95, descriptorIndex := 96, attributes := #[] }, { accessFlags := 0, nameIndex := 156, descriptorIndex := 157, attributes := #[] }, { accessFlags := 2, nameIndex := 160, descriptorIndex := 138, attributes := #[] }] 33 2 #[148, 329, 331, 333] #[{ accessFlags := 26, nameIndex := 335, descriptorIndex := 336, attributes := #[] }, { accessFlags := 26, nameIndex := 340, descriptorIndex := 51, attributes := #[] }, { accessFlags := 26, nameIndex := 17, descriptorIndex := 14, attributes := #[] }, { accessFlags := 26, nameIndex := 41, descriptorIndex := 14, attributes := #[] }, { accessFlags := 128, nameIndex := 13, descriptorIndex := 14, attributes := #[] }, { accessFlags := 2, nameIndex := 50, descriptorIndex := 51, attributes := #[] }])
  fields := #[{ name := "serialVersionUID", type := .long, accessFlags := 26, slot := 0, constantValue := 0 }, { name := "DEFAULT_CAPACITY", type := .int, accessFlags := 26, slot := 1, constantValue := 0 }, { name := "EMPTY_ELEMENTDATA", type := (.array (.object "java/lang/Object")), accessFlags := 26, slot := 2, constantValue := 0 }, { name := "DEFAULTCAPACITY_EMPTY_ELEMENTDATA", type := (.array (.object "java/lang/Object")), accessFlags := 26, slot := 3, constantValue := 0 }, { name := "elementData", type := (.array (.object "java/lang/Object")), accessFlags := 128, slot := 1, constantValue := 0 }, { name := "size", type := .int, accessFlags := 2, slot := 2, constantValue := 0 }]
  methods := #[k13m0, k13m1, k13m2, k13m3, k13m4, k13m5, k13m6, k13m7, k13m8, k13m9]
  instanceTypes := #[.int, (.array (.object "java/lang/Object")), .int]
  staticTypes := #[.long, .int, (.array (.object "java/lang/Object")), (.array (.object "java/lang/Object"))]
  resolved := Array.replicate 509 none
  statics := some 0
  mirror := some 269 }

def pool14 : Array CpInfo := pool [(1, .methodref 2 3), (0, .class_ 4), (0, .nameAndType 5 6), (0, u "java/lang/Object"), (0, u "<init>"), (0, u "()V"), (1, .class_ 10), (1, u "java/lang/Number"), (2, .class_ 14), (0, u "java/io/Serializable"), (0, u "serialVersionUID"), (0, u "J")] 20

def k14c0 : Code := { maxStack := 1, maxLocals := 1, code := jdk_18_method_1_code, exceptionTable := #[], attributes := #[] }
def k14m0 : Method := { name := "<init>", desc := "()V", sig := { parameters := [], returnType := none }, accessFlags := 1, code := some k14c0 }
/-- java/lang/Number -/
def k14 : Class := { plain "java/lang/Number" (some 0) with
  accessFlags := 1057
  interfaces := #[12]
  cf := some (fileOf pool14 8 #[] #[{ accessFlags := 1, nameIndex := 5, descriptorIndex := 6, attributes := #[] }] 1057 2 #[13] #[{ accessFlags := 26, nameIndex := 15, descriptorIndex := 16, attributes := #[] }])
  fields := #[{ name := "serialVersionUID", type := .long, accessFlags := 26, slot := 0, constantValue := 0 }]
  methods := #[k14m0]
  instanceTypes := #[]
  staticTypes := #[.long]
  resolved := Array.replicate 37 none
  statics := none }

def pool15 : Array CpInfo := pool [(1, .class_ 2), (0, u "java/lang/Comparable"), (0, .class_ 4), (0, u "java/lang/Object")] 7

/-- java/lang/Comparable -/
def k15 : Class := { plain "java/lang/Comparable" (some 0) with
  accessFlags := 1537
  interfaces := #[]
  cf := some (fileOf pool15 1 #[] #[] 1537 3 #[] #[])
  fields := #[]
  methods := #[]
  instanceTypes := #[]
  staticTypes := #[]
  resolved := Array.replicate 12 none
  statics := none }

def pool16 : Array CpInfo := pool [(1, .class_ 2), (0, u "java/lang/constant/Constable"), (0, .class_ 4), (0, u "java/lang/Object")] 6

/-- java/lang/constant/Constable -/
def k16 : Class := { plain "java/lang/constant/Constable" (some 0) with
  accessFlags := 1537
  interfaces := #[]
  cf := some (fileOf pool16 1 #[] #[] 1537 3 #[] #[])
  fields := #[]
  methods := #[]
  instanceTypes := #[]
  staticTypes := #[]
  resolved := Array.replicate 11 none
  statics := none }

def pool17 : Array CpInfo := pool [(1, .class_ 2), (0, u "java/lang/constant/ConstantDesc"), (0, .class_ 4), (0, u "java/lang/Object")] 32

/-- java/lang/constant/ConstantDesc -/
def k17 : Class := { plain "java/lang/constant/ConstantDesc" (some 0) with
  accessFlags := 1537
  interfaces := #[]
  cf := some (fileOf pool17 1 #[] #[] 1537 3 #[] #[])
  fields := #[]
  methods := #[]
  instanceTypes := #[]
  staticTypes := #[]
  resolved := Array.replicate 37 none
  statics := none }

def pool18 : Array CpInfo := pool [(1, .class_ 2), (0, u "java/lang/Integer"), (16, u "digits"), (0, u "[C"), (46, u "<init>"), (17, u "DigitOnes"), (0, u "[B"), (2, u "DigitTens"), (10, .nameAndType 67 101), (0, u "()V"), (19, u "()I"), (65, u "valueOf"), (0, u "(I)Ljava/lang/Integer;"), (0, .class_ 190), (0, u "java/lang/Integer$IntegerCache"), (0, .fieldref 189 192), (0, .nameAndType 193 194), (0, u "high"), (0, u "I"), (0, .fieldref 189 196), (0, .nameAndType 197 198), (0, u "cache"), (0, u "[Ljava/lang/Integer;"), (0, .methodref 1 200), (0, .nameAndType 67 201), (0, u "(I)V"), (0, .methodref 203 100), (0, .class_ 204), (0, u "java/lang/Number"), (0, .fieldref 1 206), (0, .nameAndType 207 194), (0, u "value"), (3, .methodref 1 212), (0, .nameAndType 213 121), (0, u "intValue"), (88, u "TYPE"), (0, u "Ljava/lang/Class;"), (0, .class_ 305), (0, u "java/lang/Comparable"), (0, .class_ 307), (0, u "java/lang/constant/Constable"), (0, .class_ 309), (0, u "java/lang/constant/ConstantDesc"), (0, u "MIN_VALUE"), (1, u "MAX_VALUE"), (3, u "SIZE"), (1, u "BYTES"), (1, u "serialVersionUID"), (0, u "J"), (63, u "equals"), (0, u "(Ljava/lang/Object;)Z")] 66

def k18c0 : Code := { maxStack := 3, maxLocals := 1, code := jdk_33_method_22_code, exceptionTable := #[], attributes := #[] }
def k18m0 : Method := { name := "valueOf", desc := "(I)Ljava/lang/Integer;", sig := { parameters := [.int], returnType := some (.object "java/lang/Integer") }, accessFlags := 9, code := some k18c0 }
def k18c1 : Code := { maxStack := 2, maxLocals := 2, code := jdk_33_method_23_code, exceptionTable := #[], attributes := #[] }
def k18m1 : Method := { name := "<init>", desc := "(I)V", sig := { parameters := [.int], returnType := none }, accessFlags := 1, code := some k18c1 }
def k18c2 : Code := { maxStack := 1, maxLocals := 1, code := jdk_33_method_27_code, exceptionTable := #[], attributes := #[] }
def k18m2 : Method := { name := "intValue", desc := "()I", sig := { parameters := [], returnType := some .int }, accessFlags := 1, code := some k18c2 }
def k18c3 : Code := { maxStack := 2, maxLocals := 2, code := jdk_33_method_34_code, exceptionTable := #[], attributes := #[] }
def k18m3 : Method := { name := "equals", desc := "(Ljava/lang/Object;)Z", sig := { parameters := [(.object "java/lang/Object")], returnType := some .boolean }, accessFlags := 1, code := some k18c3 }
/-- java/lang/Integer -/
def k18 : Class := { plain "java/lang/Integer" (some 14) with
  accessFlags := 49
  interfaces := #[15, 16, 17]
  cf := some (fileOf pool18 1 #[.nestMembers #[189]] #[{ accessFlags := 9, nameIndex := 187, descriptorIndex := 188, attributes := #[] }, { accessFlags := 1, nameIndex := 67, descriptorIndex := 201, attributes := #[] }, { accessFlags := 1, nameIndex := 213, descriptorIndex := 121, attributes := #[] }, { accessFlags := 1, nameIndex := 385, descriptorIndex := 386, attributes := #[] }] 49 203 #[304, 306, 308] #[{ accessFlags := 25, nameIndex := 310, descriptorIndex := 194, attributes := #[] }, { accessFlags := 25, nameIndex := 312, descriptorIndex := 194, attributes := #[] }, { accessFlags := 25, nameIndex := 302, descriptorIndex := 303, attributes := #[] }, { accessFlags := 24, nameIndex := 19, descriptorIndex := 20, attributes := #[] }, { accessFlags := 24, nameIndex := 89, descriptorIndex := 86, attributes := #[] }, { accessFlags := 24, nameIndex := 85, descriptorIndex := 86, attributes := #[] }, { accessFlags := 18, nameIndex := 207, descriptorIndex := 194, attributes := #[] }, { accessFlags := 25, nameIndex := 316, descriptorIndex := 194, attributes := #[] }, { accessFlags := 25, nameIndex := 318, descriptorIndex := 194, attributes := #[] }, { accessFlags := 26, nameIndex := 320, descriptorIndex := 321, attributes := #[] }])
  fields := #[{ name := "MIN_VALUE", type := .int, accessFlags := 25, slot := 0, constantValue := 0 }, { name := "MAX_VALUE", type := .int, accessFlags := 25, slot := 1, constantValue := 0 }, { name := "TYPE", type := (.object "java/lang/Class"), accessFlags := 25, slot := 2, constantValue := 0 }, { name := "digits", type := (.array .char), accessFlags := 24, slot := 3, constantValue := 0 }, { name := "DigitTens", type := (.array .byte), accessFlags := 24, slot := 4, constantValue := 0 }, { name := "DigitOnes", type := (.array .byte), accessFlags := 24, slot := 5, constantValue := 0 }, { name := "value", type := .int, accessFlags := 18, slot := 0, constantValue := 0 }, { name := "SIZE", type := .int, accessFlags := 25, slot := 6, constantValue := 0 }, { name := "BYTES", type := .int, accessFlags := 25, slot := 7, constantValue := 0 }, { name := "serialVersionUID", type := .long, accessFlags := 26, slot := 8, constantValue := 0 }]
  methods := #[k18m0, k18m1, k18m2, k18m3]
  instanceTypes := #[.int]
  staticTypes := #[.int, .int, (.object "java/lang/Class"), (.array .char), (.array .byte), (.array .byte), .int, .int, .long]
  resolved := Array.replicate 453 none
  statics := none }

def pool19 : Array CpInfo := pool [(2, .class_ 4), (1, u "java/lang/Object"), (0, u "<init>"), (0, u "()V"), (0, .class_ 8), (0, u "java/lang/Integer"), (7, .class_ 18), (1, u "java/lang/Integer$IntegerCache"), (0, u "$assertionsDisabled"), (0, u "Z"), (26, u "high"), (0, u "I"), (8, u "archivedCache"), (0, u "[Ljava/lang/Integer;"), (12, u "cache"), (0, u "low")] 27

def k19m0 : Method := { name := "<init>", desc := "()V", sig := { parameters := [], returnType := none }, accessFlags := 2, code := none }
/-- java/lang/Integer$IntegerCache -/
def k19 : Class := { plain "java/lang/Integer$IntegerCache" (some 0) with
  accessFlags := 48
  interfaces := #[]
  cf := some (fileOf pool19 16 #[.nestHost 7] #[{ accessFlags := 2, nameIndex := 5, descriptorIndex := 6, attributes := #[] }] 48 2 #[] #[{ accessFlags := 24, nameIndex := 72, descriptorIndex := 48, attributes := #[] }, { accessFlags := 24, nameIndex := 47, descriptorIndex := 48, attributes := #[] }, { accessFlags := 24, nameIndex := 71, descriptorIndex := 58, attributes := #[] }, { accessFlags := 8, nameIndex := 57, descriptorIndex := 58, attributes := #[] }, { accessFlags := 4120, nameIndex := 19, descriptorIndex := 20, attributes := #[] }])
  fields := #[{ name := "low", type := .int, accessFlags := 24, slot := 0, constantValue := 0 }, { name := "high", type := .int, accessFlags := 24, slot := 1, constantValue := 0 }, { name := "cache", type := (.array (.object "java/lang/Integer")), accessFlags := 24, slot := 2, constantValue := 0 }, { name := "archivedCache", type := (.array (.object "java/lang/Integer")), accessFlags := 8, slot := 3, constantValue := 0 }, { name := "$assertionsDisabled", type := .boolean, accessFlags := 4120, slot := 4, constantValue := 0 }]
  methods := #[k19m0]
  instanceTypes := #[]
  staticTypes := #[.int, .int, (.array (.object "java/lang/Integer")), (.array (.object "java/lang/Integer")), .boolean]
  resolved := Array.replicate 100 none
  statics := some 1 }

def pool20 : Array CpInfo := pool [(1, .class_ 2), (0, u "java/lang/Math"), (1, .class_ 6), (1, u "java/lang/Object"), (0, u "<init>"), (0, u "()V"), (89, .class_ 100), (1, u "java/lang/Math$RandomNumberGeneratorHolder"), (71, u "negativeZeroFloatBits"), (0, u "J"), (2, u "negativeZeroDoubleBits"), (21, u "max"), (46, u "$assertionsDisabled"), (0, u "Z"), (88, u "(II)I"), (2, u "twoToTheDoubleScaleDown"), (0, u "D"), (4, u "twoToTheDoubleScaleUp"), (9, u "E"), (3, u "PI"), (2, u "TAU"), (2, u "DEGREES_TO_RADIANS"), (0, u "RADIANS_TO_DEGREES")] 94

def k20m0 : Method := { name := "<init>", desc := "()V", sig := { parameters := [], returnType := none }, accessFlags := 2, code := none }
def k20c1 : Code := { maxStack := 2, maxLocals := 2, code := jdk_29_method_65_code, exceptionTable := #[], attributes := #[] }
def k20m1 : Method := { name := "max", desc := "(II)I", sig := { parameters := [.int, .int], returnType := some .int }, accessFlags := 9, code := some k20c1 }
/-- java/lang/Math -/
def k20 : Class := { plain "java/lang/Math" (some 0) with
  accessFlags := 49
  interfaces := #[]
  cf := some (fileOf pool20 1 #[.nestMembers #[98]] #[{ accessFlags := 2, nameIndex := 7, descriptorIndex := 8, attributes := #[] }, { accessFlags := 9, nameIndex := 198, descriptorIndex := 335, attributes := #[] }] 49 4 #[] #[{ accessFlags := 25, nameIndex := 354, descriptorIndex := 339, attributes := #[] }, { accessFlags := 25, nameIndex := 358, descriptorIndex := 339, attributes := #[] }, { accessFlags := 25, nameIndex := 361, descriptorIndex := 339, attributes := #[] }, { accessFlags := 26, nameIndex := 364, descriptorIndex := 339, attributes := #[] }, { accessFlags := 26, nameIndex := 365, descriptorIndex := 339, attributes := #[] }, { accessFlags := 26, nameIndex := 172, descriptorIndex := 173, attributes := #[] }, { accessFlags := 26, nameIndex := 176, descriptorIndex := 173, attributes := #[] }, { accessFlags := 8, nameIndex := 344, descriptorIndex := 339, attributes := #[] }, { accessFlags := 8, nameIndex := 338, descriptorIndex := 339, attributes := #[] }, { accessFlags := 4120, nameIndex := 245, descriptorIndex := 246, attributes := #[] }])
  fields := #[{ name := "E", type := .double, accessFlags := 25, slot := 0, constantValue := 0 }, { name := "PI", type := .double, accessFlags := 25, slot := 1, constantValue := 0 }, { name := "TAU", type := .double, accessFlags := 25, slot := 2, constantValue := 0 }, { name := "DEGREES_TO_RADIANS", type := .double, accessFlags := 26, slot := 3, constantValue := 0 }, { name := "RADIANS_TO_DEGREES", type := .double, accessFlags := 26, slot := 4, constantValue := 0 }, { name := "negativeZeroFloatBits", type := .long, accessFlags := 26, slot := 5, constantValue := 0 }, { name := "negativeZeroDoubleBits", type := .long, accessFlags := 26, slot := 6, constantValue := 0 }, { name := "twoToTheDoubleScaleUp", type := .double, accessFlags := 8, slot := 7, constantValue := 0 }, { name := "twoToTheDoubleScaleDown", type := .double, accessFlags := 8, slot := 8, constantValue := 0 }, { name := "$assertionsDisabled", type := .boolean, accessFlags := 4120, slot := 9, constantValue := 0 }]
  methods := #[k20m0, k20m1]
  instanceTypes := #[]
  staticTypes := #[.double, .double, .double, .double, .double, .long, .long, .double, .double, .boolean]
  resolved := Array.replicate 460 none
  statics := none }

def pool21 : Array CpInfo := pool [(2, .class_ 4), (1, u "java/lang/Enum"), (0, u "name"), (0, u "Ljava/lang/String;"), (2, u "ordinal"), (0, u "I"), (1, .class_ 14), (1, u "java/lang/Object"), (4, u "hash"), (86, .class_ 108), (1, u "java/lang/Enum$EnumDesc"), (2, .class_ 112), (0, u "java/lang/constant/Constable"), (0, .class_ 114), (0, u "java/lang/Comparable"), (0, .class_ 116), (0, u "java/io/Serializable")] 87

/-- java/lang/Enum -/
def k21 : Class := { plain "java/lang/Enum" (some 0) with
  accessFlags := 1057
  interfaces := #[16, 15, 12]
  cf := some (fileOf pool21 2 #[.nestMembers #[106]] #[] 1057 12 #[111, 113, 115] #[{ accessFlags := 18, nameIndex := 5, descriptorIndex := 6, attributes := #[] }, { accessFlags := 18, nameIndex := 9, descriptorIndex := 10, attributes := #[] }, { accessFlags := 2, nameIndex := 19, descriptorIndex := 10, attributes := #[] }])
  fields := #[{ name := "name", type := (.object "java/lang/String"), accessFlags := 18, slot := 0, constantValue := 0 }, { name := "ordinal", type := .int, accessFlags := 18, slot := 1, constantValue := 0 }, { name := "hash", type := .int, accessFlags := 2, slot := 2, constantValue := 0 }]
  methods := #[]
  instanceTypes := #[(.object "java/lang/String"), .int, .int]
  staticTypes := #[]
  resolved := Array.replicate 204 none
  statics := none }

def pool22 : Array CpInfo := pool [(1, .class_ 2), (0, u "com/example/hantei/hantei/engine/Special"), (2, u "CRITICAL"), (0, u "Lcom/example/hantei/hantei/engine/Special;"), (2, u "FUMBLE"), (2, u "NONE"), (2, u "$VALUES"), (0, u "[Lcom/example/hantei/hantei/engine/Special;"), (6, .class_ 25), (1, u "java/lang/Enum")] 33

/-- com/example/hantei/hantei/engine/Special -/
def k22 : Class := { plain "com/example/hantei/hantei/engine/Special" (some 21) with
  accessFlags := 16433
  interfaces := #[]
  cf := some (fileOf pool22 1 #[] #[] 16433 23 #[] #[{ accessFlags := 16409, nameIndex := 5, descriptorIndex := 6, attributes := #[] }, { accessFlags := 16409, nameIndex := 9, descriptorIndex := 6, attributes := #[] }, { accessFlags := 16409, nameIndex := 12, descriptorIndex := 6, attributes := #[] }, { accessFlags := 4122, nameIndex := 15, descriptorIndex := 16, attributes := #[] }])
  fields := #[{ name := "CRITICAL", type := (.object "com/example/hantei/hantei/engine/Special"), accessFlags := 16409, slot := 0, constantValue := 0 }, { name := "FUMBLE", type := (.object "com/example/hantei/hantei/engine/Special"), accessFlags := 16409, slot := 1, constantValue := 0 }, { name := "NONE", type := (.object "com/example/hantei/hantei/engine/Special"), accessFlags := 16409, slot := 2, constantValue := 0 }, { name := "$VALUES", type := (.array (.object "com/example/hantei/hantei/engine/Special")), accessFlags := 4122, slot := 3, constantValue := 0 }]
  methods := #[]
  instanceTypes := #[(.object "java/lang/String"), .int, .int]
  staticTypes := #[(.object "com/example/hantei/hantei/engine/Special"), (.object "com/example/hantei/hantei/engine/Special"), (.object "com/example/hantei/hantei/engine/Special"), (.array (.object "com/example/hantei/hantei/engine/Special"))]
  resolved := Array.replicate 59 none
  statics := some 2 }

def pool23 : Array CpInfo := pool [(2, .class_ 4), (1, u "java/lang/Object"), (0, u "<init>"), (0, u "()V"), (7, .methodref 2 15), (0, .nameAndType 16 17), (0, u "equals"), (0, u "(Ljava/lang/Object;)Z"), (5, u "(Ljava/lang/Object;Ljava/lang/Object;)Z"), (18, .class_ 44), (1, u "java/util/Objects"), (0, u "requireNonNull"), (0, u "(Ljava/lang/Object;)Ljava/lang/Object;"), (58, .methodref 106 107), (0, .class_ 108), (0, .nameAndType 109 110), (0, u "jdk/internal/util/Preconditions"), (0, u "checkIndex"), (0, u "(IILjava/util/function/BiFunction;)I"), (60, u "(II)I")] 12

def k23m0 : Method := { name := "<init>", desc := "()V", sig := { parameters := [], returnType := none }, accessFlags := 2, code := none }
def k23c1 : Code := { maxStack := 2, maxLocals := 2, code := jdk_31_method_2_code, exceptionTable := #[], attributes := #[] }
def k23m1 : Method := { name := "equals", desc := "(Ljava/lang/Object;Ljava/lang/Object;)Z", sig := { parameters := [(.object "java/lang/Object"), (.object "java/lang/Object")], returnType := some .boolean }, accessFlags := 9, code := some k23c1 }
def k23c2 : Code := { maxStack := 2, maxLocals := 1, code := jdk_31_method_10_code, exceptionTable := #[], attributes := #[] }
def k23m2 : Method := { name := "requireNonNull", desc := "(Ljava/lang/Object;)Ljava/lang/Object;", sig := { parameters := [(.object "java/lang/Object")], returnType := some (.object "java/lang/Object") }, accessFlags := 9, code := some k23c2 }
def k23c3 : Code := { maxStack := 3, maxLocals := 2, code := jdk_31_method_17_code, exceptionTable := #[], attributes := #[] }
def k23m3 : Method := { name := "checkIndex", desc := "(II)I", sig := { parameters := [.int, .int], returnType := some .int }, accessFlags := 9, code := some k23c3 }
/-- java/util/Objects -/
def k23 : Class := { plain "java/util/Objects" (some 0) with
  accessFlags := 49
  interfaces := #[]
  cf := some (fileOf pool23 42 #[] #[{ accessFlags := 2, nameIndex := 5, descriptorIndex := 6, attributes := #[] }, { accessFlags := 9, nameIndex := 16, descriptorIndex := 23, attributes := #[] }, { accessFlags := 9, nameIndex := 45, descriptorIndex := 46, attributes := #[] }, { accessFlags := 9, nameIndex := 109, descriptorIndex := 171, attributes := #[] }] 49 2 #[] #[])
  fields := #[]
  methods := #[k23m0, k23m1, k23m2, k23m3]
  instanceTypes := #[]
  staticTypes := #[]
  resolved := Array.replicate 184 none
  statics := none }

def pool24 : Array CpInfo := pool [(2, .class_ 4), (1, u "java/lang/Object"), (0, u "<init>"), (0, u "()V"), (17, .class_ 26), (1, u "jdk/internal/util/Preconditions"), (6, u "checkIndex"), (21, .class_ 56), (0, u "jdk/internal/util/Preconditions$4"), (57, .class_ 115), (0, u "jdk/internal/util/Preconditions$1"), (7, u "SIOOBE_FORMATTER"), (0, u "Ljava/util/function/BiFunction;"), (0, .class_ 126), (0, u "jdk/internal/util/Preconditions$2"), (3, u "AIOOBE_FORMATTER"), (0, .class_ 132), (0, u "jdk/internal/util/Preconditions$3"), (3, u "IOOBE_FORMATTER"), (41, u "(IILjava/util/function/BiFunction;)I")] 15

def k24m0 : Method := { name := "<init>", desc := "()V", sig := { parameters := [], returnType := none }, accessFlags := 1, code := none }
def k24c1 : Code := { maxStack := 3, maxLocals := 3, code := jdk_41_method_11_code, exceptionTable := #[], attributes := #[] }
def k24m1 : Method := { name := "checkIndex", desc := "(IILjava/util/function/BiFunction;)I", sig := { parameters := [.int, .int, (.object "java/util/function/BiFunction")], returnType := some .int }, accessFlags := 9, code := some k24c1 }
/-- jdk/internal/util/Preconditions -/
def k24 : Class := { plain "jdk/internal/util/Preconditions" (some 0) with
  accessFlags := 33
  interfaces := #[]
  cf := some (fileOf pool24 24 #[.nestMembers #[55, 131, 125, 114]] #[{ accessFlags := 1, nameIndex := 5, descriptorIndex := 6, attributes := #[] }, { accessFlags := 9, nameIndex := 33, descriptorIndex := 178, attributes := #[] }] 33 2 #[] #[{ accessFlags := 25, nameIndex := 123, descriptorIndex := 124, attributes := #[] }, { accessFlags := 25, nameIndex := 130, descriptorIndex := 124, attributes := #[] }, { accessFlags := 25, nameIndex := 136, descriptorIndex := 124, attributes := #[] }])
  fields := #[{ name := "SIOOBE_FORMATTER", type := (.object "java/util/function/BiFunction"), accessFlags := 25, slot := 0, constantValue := 0 }, { name := "AIOOBE_FORMATTER", type := (.object "java/util/function/BiFunction"), accessFlags := 25, slot := 1, constantValue := 0 }, { name := "IOOBE_FORMATTER", type := (.object "java/util/function/BiFunction"), accessFlags := 25, slot := 2, constantValue := 0 }]
  methods := #[k24m0, k24m1]
  instanceTypes := #[]
  staticTypes := #[(.object "java/util/function/BiFunction"), (.object "java/util/function/BiFunction"), (.object "java/util/function/BiFunction")]
  resolved := Array.replicate 194 none
  statics := none }

def pool25 : Array CpInfo := pool [(1, .methodref 2 3), (0, .class_ 4), (0, .nameAndType 5 6), (0, u "java/util/AbstractCollection"), (0, u "<init>"), (0, u "()V"), (1, .class_ 10), (1, u "java/util/ImmutableCollections"), (2, .class_ 14), (0, u "java/util/ImmutableCollections$AbstractImmutableCollection")] 41

def k25c0 : Code := { maxStack := 1, maxLocals := 1, code := jdk_47_method_1_code, exceptionTable := #[], attributes := #[] }
def k25m0 : Method := { name := "<init>", desc := "()V", sig := { parameters := [], returnType := none }, accessFlags := 0, code := some k25c0 }
/-- java/util/ImmutableCollections$AbstractImmutableCollection -/
def k25 : Class := { plain "java/util/ImmutableCollections$AbstractImmutableCollection" (some 6) with
  accessFlags := 1056
  interfaces := #[]
  cf := some (fileOf pool25 13 #[.nestHost 8] #[{ accessFlags := 0, nameIndex := 5, descriptorIndex := 6, attributes := #[] }] 1056 2 #[] #[])
  fields := #[]
  methods := #[k25m0]
  instanceTypes := #[]
  staticTypes := #[]
  resolved := Array.replicate 56 none
  statics := none }

def pool26 : Array CpInfo := pool [(1, .methodref 2 3), (0, .class_ 4), (0, .nameAndType 5 6), (0, u "java/util/ImmutableCollections$AbstractImmutableCollection"), (0, u "<init>"), (0, u "()V"), (1, .class_ 10), (1, u "java/util/ImmutableCollections"), (2, .methodref 14 15), (0, .class_ 16), (0, .nameAndType 17 18), (0, u "java/util/ImmutableCollections$AbstractImmutableList"), (0, u "size"), (0, u "()I"), (42, .class_ 62), (0, u "java/util/ImmutableCollections$ListItr"), (0, .methodref 61 64), (0, .nameAndType 5 65), (0, u "(Ljava/util/List;I)V"), (11, .class_ 78), (0, u "java/util/List"), (2, u "iterator"), (0, u "()Ljava/util/Iterator;"), (41, .class_ 125), (0, u "java/util/RandomAccess")] 70

def k26c0 : Code := { maxStack := 1, maxLocals := 1, code := jdk_46_method_1_code, exceptionTable := #[], attributes := #[] }
def k26m0 : Method := { name := "<init>", desc := "()V", sig := { parameters := [], returnType := none }, accessFlags := 0, code := some k26c0 }
def k26c1 : Code := { maxStack := 4, maxLocals := 1, code := jdk_46_method_10_code, exceptionTable := #[], attributes := #[] }
def k26m1 : Method := { name := "iterator", desc := "()Ljava/util/Iterator;", sig := { parameters := [], returnType := some (.object "java/util/Iterator") }, accessFlags := 1, code := some k26c1 }
/-- java/util/ImmutableCollections$AbstractImmutableList -/
def k26 : Class := { plain "java/util/ImmutableCollections$AbstractImmutableList" (some 25) with
  accessFlags := 1056
  interfaces := #[8, 10]
  cf := some (fileOf pool26 14 #[.nestHost 8] #[{ accessFlags := 0, nameIndex := 5, descriptorIndex := 6, attributes := #[] }, { accessFlags := 1, nameIndex := 81, descriptorIndex := 82, attributes := #[] }] 1056 2 #[77, 124] #[])
  fields := #[]
  methods := #[k26m0, k26m1]
  instanceTypes := #[]
  staticTypes := #[]
  resolved := Array.replicate 196 none
  statics := none }

def pool27 : Array CpInfo := pool [(1, .methodref 2 3), (0, .class_ 4), (0, .nameAndType 5 6), (0, u "java/util/ImmutableCollections$AbstractImmutableList"), (0, u "<init>"), (0, u "()V"), (0, .methodref 8 9), (0, .class_ 10), (0, .nameAndType 11 12), (0, u "java/util/Objects"), (0, u "requireNonNull"), (0, u "(Ljava/lang/Object;)Ljava/lang/Object;"), (0, .fieldref 14 15), (0, .class_ 16), (0, .nameAndType 17 18), (0, u "java/util/ImmutableCollections$List12"), (0, u "e0"), (0, u "Ljava/lang/Object;"), (0, .fieldref 20 21), (0, .class_ 22), (0, .nameAndType 23 18), (0, u "java/util/ImmutableCollections"), (0, u "EMPTY"), (0, .fieldref 14 25), (0, .nameAndType 26 18), (0, u "e1"), (24, u "size"), (0, u "()I"), (17, .class_ 71), (0, u "java/io/Serializable"), (13, u "(Ljava/lang/Object;Ljava/lang/Object;)V"), (4, u "get"), (0, u "(I)Ljava/lang/Object;")] 33

def k27c0 : Code := { maxStack := 2, maxLocals := 3, code := jdk_44_method_2_code, exceptionTable := #[], attributes := #[] }
def k27m0 : Method := { name := "<init>", desc := "(Ljava/lang/Object;Ljava/lang/Object;)V", sig := { parameters := [(.object "java/lang/Object"), (.object "java/lang/Object")], returnType := none }, accessFlags := 0, code := some k27c0 }
def k27c1 : Code := { maxStack := 2, maxLocals := 1, code := jdk_44_method_3_code, exceptionTable := #[], attributes := #[] }
def k27m1 : Method := { name := "size", desc := "()I", sig := { parameters := [], returnType := some .int }, accessFlags := 1, code := some k27c1 }
def k27c2 : Code := { maxStack := 2, maxLocals := 2, code := jdk_44_method_5_code, exceptionTable := #[], attributes := #[] }
def k27m2 : Method := { name := "get", desc := "(I)Ljava/lang/Object;", sig := { parameters := [.int], returnType := some (.object "java/lang/Object") }, accessFlags := 1, code := some k27c2 }
/-- java/util/ImmutableCollections$List12 -/
def k27 : Class := { plain "java/util/ImmutableCollections$List12" (some 26) with
  accessFlags := 48
  interfaces := #[12]
  cf := some (fileOf pool27 14 #[.nestHost 20] #[{ accessFlags := 0, nameIndex := 5, descriptorIndex := 85, attributes := #[] }, { accessFlags := 1, nameIndex := 51, descriptorIndex := 52, attributes := #[] }, { accessFlags := 1, nameIndex := 90, descriptorIndex := 91, attributes := #[] }] 48 2 #[70] #[{ accessFlags := 18, nameIndex := 17, descriptorIndex := 18, attributes := #[] }, { accessFlags := 18, nameIndex := 26, descriptorIndex := 18, attributes := #[] }])
  fields := #[{ name := "e0", type := (.object "java/lang/Object"), accessFlags := 18, slot := 0, constantValue := 0 }, { name := "e1", type := (.object "java/lang/Object"), accessFlags := 18, slot := 1, constantValue := 0 }]
  methods := #[k27m0, k27m1, k27m2]
  instanceTypes := #[(.object "java/lang/Object"), (.object "java/lang/Object")]
  staticTypes := #[]
  resolved := Array.replicate 125 none
  statics := none
  mirror := some 268 }

def pool28 : Array CpInfo := pool [(16, .class_ 18), (1, u "java/util/Iterator"), (0, u "hasNext"), (0, u "()Z"), (2, u "next"), (0, u "()Ljava/lang/Object;"), (6, .class_ 32), (0, u "java/lang/Object")] 20

def k28m0 : Method := { name := "hasNext", desc := "()Z", sig := { parameters := [], returnType := some .boolean }, accessFlags := 1025, code := none }
def k28m1 : Method := { name := "next", desc := "()Ljava/lang/Object;", sig := { parameters := [], returnType := some (.object "java/lang/Object") }, accessFlags := 1025, code := none }
/-- java/util/Iterator -/
def k28 : Class := { plain "java/util/Iterator" (some 0) with
  accessFlags := 1537
  interfaces := #[]
  cf := some (fileOf pool28 16 #[] #[{ accessFlags := 1025, nameIndex := 19, descriptorIndex := 20, attributes := #[] }, { accessFlags := 1025, nameIndex := 23, descriptorIndex := 24, attributes := #[] }] 1537 31 #[] #[])
  fields := #[]
  methods := #[k28m0, k28m1]
  instanceTypes := #[]
  staticTypes := #[]
  resolved := Array.replicate 53 none
  statics := none }

def pool29 : Array CpInfo := pool [(1, .class_ 2), (0, u "java/util/ListIterator"), (0, .class_ 4), (0, u "java/lang/Object"), (0, .class_ 6), (0, u "java/util/Iterator")] 20

/-- java/util/ListIterator -/
def k29 : Class := { plain "java/util/ListIterator" (some 0) with
  accessFlags := 1537
  interfaces := #[28]
  cf := some (fileOf pool29 1 #[] #[] 1537 3 #[5] #[])
  fields := #[]
  methods := #[]
  instanceTypes := #[]
  staticTypes := #[]
  resolved := Array.replicate 27 none
  statics := none }

def pool30 : Array CpInfo := pool [(1, .methodref 2 3), (0, .class_ 4), (0, .nameAndType 5 6), (0, u "java/lang/Object"), (0, u "<init>"), (0, u "()V"), (0, .fieldref 8 9), (0, .class_ 10), (0, .nameAndType 11 12), (0, u "java/util/ImmutableCollections$ListItr"), (0, u "list"), (0, u "Ljava/util/List;"), (0, .fieldref 8 14), (0, .nameAndType 15 16), (0, u "size"), (0, u "I"), (0, .fieldref 8 18), (0, .nameAndType 19 16), (0, u "cursor"), (0, .fieldref 8 21), (0, .nameAndType 22 23), (0, u "isListIterator"), (0, u "Z"), (0, .interfaceMethodref 25 26), (0, .class_ 27), (0, .nameAndType 28 29), (0, u "java/util/List"), (0, u "get"), (0, u "(I)Ljava/lang/Object;"), (6, .class_ 38), (1, u "java/util/ImmutableCollections"), (2, .class_ 42), (0, u "java/util/ListIterator"), (4, u "(Ljava/util/List;I)V"), (11, u "hasNext"), (0, u "()Z"), (1, u "next"), (0, u "()Ljava/lang/Object;")] 22

def k30c0 : Code := { maxStack := 2, maxLocals := 3, code := jdk_53_method_1_code, exceptionTable := #[], attributes := #[] }
def k30m0 : Method := { name := "<init>", desc := "(Ljava/util/List;I)V", sig := { parameters := [(.object "java/util/List"), .int], returnType := none }, accessFlags := 0, code := some k30c0 }
def k30c1 : Code := { maxStack := 2, maxLocals := 1, code := jdk_53_method_3_code, exceptionTable := #[], attributes := #[] }
def k30m1 : Method := { name := "hasNext", desc := "()Z", sig := { parameters := [], returnType := some .boolean }, accessFlags := 1, code := some k30c1 }
def k30c2 : Code := { maxStack := 3, maxLocals := 3, code := jdk_53_method_4_code, exceptionTable := #[{ startPc := 0, endPc := 24, handlerPc := 25, catchType := 30 }], attributes := #[] }
def k30m2 : Method := { name := "next", desc := "()Ljava/lang/Object;", sig := { parameters := [], returnType := some (.object "java/lang/Object") }, accessFlags := 1, code := some k30c2 }
/-- java/util/ImmutableCollections$ListItr -/
def k30 : Class := { plain "java/util/ImmutableCollections$ListItr" (some 0) with
  accessFlags := 48
  interfaces := #[29]
  cf := some (fileOf pool30 8 #[.nestHost 36] #[{ accessFlags := 0, nameIndex := 5, descriptorIndex := 47, attributes := #[] }, { accessFlags := 1, nameIndex := 59, descriptorIndex := 60, attributes := #[] }, { accessFlags := 1, nameIndex := 62, descriptorIndex := 63, attributes := #[] }] 48 2 #[41] #[{ accessFlags := 18, nameIndex := 11, descriptorIndex := 12, attributes := #[] }, { accessFlags := 18, nameIndex := 15, descriptorIndex := 16, attributes := #[] }, { accessFlags := 18, nameIndex := 22, descriptorIndex := 23, attributes := #[] }, { accessFlags := 2, nameIndex := 19, descriptorIndex := 16, attributes := #[] }])
  fields := #[{ name := "list", type := (.object "java/util/List"), accessFlags := 18, slot := 0, constantValue := 0 }, { name := "size", type := .int, accessFlags := 18, slot := 1, constantValue := 0 }, { name := "isListIterator", type := .boolean, accessFlags := 18, slot := 2, constantValue := 0 }, { name := "cursor", type := .int, accessFlags := 2, slot := 3, constantValue := 0 }]
  methods := #[k30m0, k30m1, k30m2]
  instanceTypes := #[(.object "java/util/List"), .int, .boolean, .int]
  staticTypes := #[]
  resolved := Array.replicate 86 none
  statics := none }

def pool31 : Array CpInfo := pool [(2, .class_ 4), (1, u "java/lang/Object"), (0, u "<init>"), (0, u "()V"), (3, .class_ 11), (0, u "java/util/ImmutableCollections$List12"), (0, .class_ 13), (0, u "java/util/ImmutableCollections$ListN"), (3, u "Z"), (29, .class_ 49), (1, u "java/util/ImmutableCollections"), (0, u "$assertionsDisabled"), (5, u "[Ljava/lang/Object;"), (5, u "EMPTY_LIST"), (0, u "Ljava/util/ImmutableCollections$ListN;"), (8, u "EMPTY_LIST_NULLS"), (22, u "SALT32L"), (0, u "J"), (2, u "REVERSE"), (6, u "archivedObjects"), (2, u "EMPTY"), (0, u "Ljava/lang/Object;"), (0, .class_ 112), (0, u "java/util/ImmutableCollections$SetN"), (5, u "EMPTY_SET"), (0, u "Ljava/util/ImmutableCollections$SetN;"), (0, .class_ 121), (0, u "java/util/ImmutableCollections$MapN"), (3, u "EMPTY_MAP"), (0, u "Ljava/util/ImmutableCollections$MapN;"), (4, u "EXPAND_FACTOR"), (0, u "I"), (36, .class_ 170), (0, u "java/util/ImmutableCollections$MapN$MapNIterator"), (0, .class_ 172), (0, u "java/util/ImmutableCollections$MapN$1"), (0, .class_ 174), (0, u "java/util/ImmutableCollections$Map1"), (0, .class_ 176), (0, u "java/util/ImmutableCollections$AbstractImmutableMap"), (0, .class_ 178), (0, u "java/util/ImmutableCollections$SetN$SetNIterator"), (0, .class_ 180), (0, u "java/util/ImmutableCollections$Set12"), (0, .class_ 182), (0, u "java/util/ImmutableCollections$Set12$1"), (0, .class_ 184), (0, u "java/util/ImmutableCollections$AbstractImmutableSet"), (0, .class_ 186), (0, u "java/util/ImmutableCollections$SubList"), (0, .class_ 188), (0, u "java/util/ImmutableCollections$ListItr"), (0, .class_ 190), (0, u "java/util/ImmutableCollections$AbstractImmutableList"), (0, .class_ 192), (0, u "java/util/ImmutableCollections$AbstractImmutableCollection"), (0, .class_ 194), (0, u "java/util/ImmutableCollections$Access"), (0, .class_ 196), (0, u "java/util/ImmutableCollections$Access$1")] 16

def k31m0 : Method := { name := "<init>", desc := "()V", sig := { parameters := [], returnType := none }, accessFlags := 2, code := none }
/-- java/util/ImmutableCollections -/
def k31 : Class := { plain "java/util/ImmutableCollections" (some 0) with
  accessFlags := 32
  interfaces := #[]
  cf := some (fileOf pool31 47 #[.nestMembers #[120, 169, 171, 173, 175, 111, 177, 179, 181, 183, 12, 10, 185, 187, 189, 191, 193, 195]] #[{ accessFlags := 2, nameIndex := 5, descriptorIndex := 6, attributes := #[] }] 32 2 #[] #[{ accessFlags := 26, nameIndex := 95, descriptorIndex := 96, attributes := #[] }, { accessFlags := 26, nameIndex := 99, descriptorIndex := 17, attributes := #[] }, { accessFlags := 10, nameIndex := 106, descriptorIndex := 56, attributes := #[] }, { accessFlags := 26, nameIndex := 109, descriptorIndex := 110, attributes := #[] }, { accessFlags := 24, nameIndex := 62, descriptorIndex := 63, attributes := #[] }, { accessFlags := 24, nameIndex := 72, descriptorIndex := 63, attributes := #[] }, { accessFlags := 24, nameIndex := 118, descriptorIndex := 119, attributes := #[] }, { accessFlags := 24, nameIndex := 125, descriptorIndex := 126, attributes := #[] }, { accessFlags := 24, nameIndex := 131, descriptorIndex := 132, attributes := #[] }, { accessFlags := 4120, nameIndex := 50, descriptorIndex := 17, attributes := #[] }])
  fields := #[{ name := "SALT32L", type := .long, accessFlags := 26, slot := 0, constantValue := 0 }, { name := "REVERSE", type := .boolean, accessFlags := 26, slot := 1, constantValue := 0 }, { name := "archivedObjects", type := (.array (.object "java/lang/Object")), accessFlags := 10, slot := 2, constantValue := 0 }, { name := "EMPTY", type := (.object "java/lang/Object"), accessFlags := 26, slot := 3, constantValue := 0 }, { name := "EMPTY_LIST", type := (.object "java/util/ImmutableCollections$ListN"), accessFlags := 24, slot := 4, constantValue := 0 }, { name := "EMPTY_LIST_NULLS", type := (.object "java/util/ImmutableCollections$ListN"), accessFlags := 24, slot := 5, constantValue := 0 }, { name := "EMPTY_SET", type := (.object "java/util/ImmutableCollections$SetN"), accessFlags := 24, slot := 6, constantValue := 0 }, { name := "EMPTY_MAP", type := (.object "java/util/ImmutableCollections$MapN"), accessFlags := 24, slot := 7, constantValue := 0 }, { name := "EXPAND_FACTOR", type := .int, accessFlags := 24, slot := 8, constantValue := 0 }, { name := "$assertionsDisabled", type := .boolean, accessFlags := 4120, slot := 9, constantValue := 0 }]
  methods := #[k31m0]
  instanceTypes := #[]
  staticTypes := #[.long, .boolean, (.array (.object "java/lang/Object")), (.object "java/lang/Object"), (.object "java/util/ImmutableCollections$ListN"), (.object "java/util/ImmutableCollections$ListN"), (.object "java/util/ImmutableCollections$SetN"), (.object "java/util/ImmutableCollections$MapN"), .int, .boolean]
  resolved := Array.replicate 213 none
  statics := some 3 }

def pool32 : Array CpInfo := pool [(1, .methodref 2 3), (0, .class_ 4), (0, .nameAndType 5 6), (0, u "java/lang/Record"), (0, u "<init>"), (0, u "()V"), (0, .fieldref 8 9), (0, .class_ 10), (0, .nameAndType 11 12), (0, u "com/example/hantei/hantei/packs/plandice/PlanDiceCheck$Resolution"), (0, u "diceValue"), (0, u "I"), (0, .fieldref 8 14), (0, .nameAndType 15 16), (0, u "special"), (0, u "Lcom/example/hantei/hantei/engine/Special;"), (0, .fieldref 8 18), (0, .nameAndType 19 12), (0, u "successValue"), (0, .fieldref 8 21), (0, .nameAndType 22 23), (0, u "succeeded"), (0, u "Z"), (12, u "(ILcom/example/hantei/hantei/engine/Special;IZ)V"), (6, u "()Lcom/example/hantei/hantei/engine/Special;"), (4, .class_ 49), (0, u "com/example/hantei/hantei/packs/plandice/PlanDiceCheck")] 22

def k32c0 : Code := { maxStack := 2, maxLocals := 5, code := prog_70_method_1_code, exceptionTable := #[], attributes := #[] }
def k32m0 : Method := { name := "<init>", desc := "(ILcom/example/hantei/hantei/engine/Special;IZ)V", sig := { parameters := [.int, (.object "com/example/hantei/hantei/engine/Special"), .int, .boolean], returnType := none }, accessFlags := 0, code := some k32c0 }
def k32c1 : Code := { maxStack := 1, maxLocals := 1, code := prog_70_method_6_code, exceptionTable := #[], attributes := #[] }
def k32m1 : Method := { name := "special", desc := "()Lcom/example/hantei/hantei/engine/Special;", sig := { parameters := [], returnType := some (.object "com/example/hantei/hantei/engine/Special") }, accessFlags := 1, code := some k32c1 }
/-- com/example/hantei/hantei/packs/plandice/PlanDiceCheck$Resolution -/
def k32 : Class := { plain "com/example/hantei/hantei/packs/plandice/PlanDiceCheck$Resolution" (some 2) with
  accessFlags := 48
  interfaces := #[]
  cf := some (fileOf pool32 8 #[.nestHost 48] #[{ accessFlags := 0, nameIndex := 5, descriptorIndex := 36, attributes := #[] }, { accessFlags := 1, nameIndex := 15, descriptorIndex := 43, attributes := #[] }] 48 2 #[] #[{ accessFlags := 18, nameIndex := 11, descriptorIndex := 12, attributes := #[] }, { accessFlags := 18, nameIndex := 15, descriptorIndex := 16, attributes := #[] }, { accessFlags := 18, nameIndex := 19, descriptorIndex := 12, attributes := #[] }, { accessFlags := 18, nameIndex := 22, descriptorIndex := 23, attributes := #[] }])
  fields := #[{ name := "diceValue", type := .int, accessFlags := 18, slot := 0, constantValue := 0 }, { name := "special", type := (.object "com/example/hantei/hantei/engine/Special"), accessFlags := 18, slot := 1, constantValue := 0 }, { name := "successValue", type := .int, accessFlags := 18, slot := 2, constantValue := 0 }, { name := "succeeded", type := .boolean, accessFlags := 18, slot := 3, constantValue := 0 }]
  methods := #[k32m0, k32m1]
  instanceTypes := #[.int, (.object "com/example/hantei/hantei/engine/Special"), .int, .boolean]
  staticTypes := #[]
  resolved := Array.replicate 72 none
  statics := none }

def pool33 : Array CpInfo := pool [(2, .class_ 4), (1, u "java/util/ImmutableCollections$AbstractImmutableList"), (3, .class_ 10), (1, u "java/util/ImmutableCollections$ListN"), (0, u "elements"), (0, u "[Ljava/lang/Object;"), (2, u "allowNulls"), (0, u "Z"), (42, .class_ 60), (0, u "java/io/Serializable"), (53, .class_ 115), (0, u "java/util/ImmutableCollections")] 3

/-- java/util/ImmutableCollections$ListN -/
def k33 : Class := { plain "java/util/ImmutableCollections$ListN" (some 26) with
  accessFlags := 48
  interfaces := #[12]
  cf := some (fileOf pool33 8 #[.nestHost 114] #[] 48 2 #[59] #[{ accessFlags := 18, nameIndex := 11, descriptorIndex := 12, attributes := #[] }, { accessFlags := 18, nameIndex := 15, descriptorIndex := 16, attributes := #[] }])
  fields := #[{ name := "elements", type := (.array (.object "java/lang/Object")), accessFlags := 18, slot := 0, constantValue := 0 }, { name := "allowNulls", type := .boolean, accessFlags := 18, slot := 1, constantValue := 0 }]
  methods := #[]
  instanceTypes := #[(.array (.object "java/lang/Object")), .boolean]
  staticTypes := #[]
  resolved := Array.replicate 119 none
  statics := none }

/-- the primitive byte -/
def k34 : Class := { plain "byte" none with kind := .primitive 'B', accessFlags := 0x411 }
/-- [B -/
def k35 : Class := { plain "[B" (some 0) with kind := .array 34 .byte, interfaces := #[11, 12], accessFlags := 1041 }

/-- the primitive int -/
def k36 : Class := { plain "int" none with kind := .primitive 'I', accessFlags := 0x411 }
/-- [I -/
def k37 : Class := { plain "[I" (some 0) with kind := .array 36 .int, interfaces := #[11, 12], accessFlags := 1041 }

/-- [Ljava/lang/Integer; -/
def k38 : Class := { plain "[Ljava/lang/Integer;" (some 0) with kind := .array 18 (.object "java/lang/Integer"), interfaces := #[11, 12], accessFlags := 1041 }

/-- [Ljava/lang/Object; -/
def k39 : Class := { plain "[Ljava/lang/Object;" (some 0) with kind := .array 0 (.object "java/lang/Object"), interfaces := #[11, 12], accessFlags := 1041 }

def heap : Heap := #[{ cls := 13, slots := #[.long 0, .int 0, .ref 264, .ref 265], vm := .statics 13 },
  { cls := 19, slots := #[.int 0, .int 127, .ref 4, .null, .int 0], vm := .statics 19 },
  { cls := 22, slots := #[.ref 261, .ref 262, .ref 263, .null], vm := .statics 22 },
  { cls := 31, slots := #[.long 0, .int 0, .null, .ref 266, .ref 267, .null, .null, .null, .int 0, .int 1], vm := .statics 31 },
  { cls := 38, slots := #[.ref 5, .ref 6, .ref 7, .ref 8, .ref 9, .ref 10, .ref 11, .ref 12, .ref 13, .ref 14, .ref 15, .ref 16, .ref 17, .ref 18, .ref 19, .ref 20, .ref 21, .ref 22, .ref 23, .ref 24, .ref 25, .ref 26, .ref 27, .ref 28, .ref 29, .ref 30, .ref 31, .ref 32, .ref 33, .ref 34, .ref 35, .ref 36, .ref 37, .ref 38, .ref 39, .ref 40, .ref 41, .ref 42, .ref 43, .ref 44, .ref 45, .ref 46, .ref 47, .ref 48, .ref 49, .ref 50, .ref 51, .ref 52, .ref 53, .ref 54, .ref 55, .ref 56, .ref 57, .ref 58, .ref 59, .ref 60, .ref 61, .ref 62, .ref 63, .ref 64, .ref 65, .ref 66, .ref 67, .ref 68, .ref 69, .ref 70, .ref 71, .ref 72, .ref 73, .ref 74, .ref 75, .ref 76, .ref 77, .ref 78, .ref 79, .ref 80, .ref 81, .ref 82, .ref 83, .ref 84, .ref 85, .ref 86, .ref 87, .ref 88, .ref 89, .ref 90, .ref 91, .ref 92, .ref 93, .ref 94, .ref 95, .ref 96, .ref 97, .ref 98, .ref 99, .ref 100, .ref 101, .ref 102, .ref 103, .ref 104, .ref 105, .ref 106, .ref 107, .ref 108, .ref 109, .ref 110, .ref 111, .ref 112, .ref 113, .ref 114, .ref 115, .ref 116, .ref 117, .ref 118, .ref 119, .ref 120, .ref 121, .ref 122, .ref 123, .ref 124, .ref 125, .ref 126, .ref 127, .ref 128, .ref 129, .ref 130, .ref 131, .ref 132, .ref 133, .ref 134, .ref 135, .ref 136, .ref 137, .ref 138, .ref 139, .ref 140, .ref 141, .ref 142, .ref 143, .ref 144, .ref 145, .ref 146, .ref 147, .ref 148, .ref 149, .ref 150, .ref 151, .ref 152, .ref 153, .ref 154, .ref 155, .ref 156, .ref 157, .ref 158, .ref 159, .ref 160, .ref 161, .ref 162, .ref 163, .ref 164, .ref 165, .ref 166, .ref 167, .ref 168, .ref 169, .ref 170, .ref 171, .ref 172, .ref 173, .ref 174, .ref 175, .ref 176, .ref 177, .ref 178, .ref 179, .ref 180, .ref 181, .ref 182, .ref 183, .ref 184, .ref 185, .ref 186, .ref 187, .ref 188, .ref 189, .ref 190, .ref 191, .ref 192, .ref 193, .ref 194, .ref 195, .ref 196, .ref 197, .ref 198, .ref 199, .ref 200, .ref 201, .ref 202, .ref 203, .ref 204, .ref 205, .ref 206, .ref 207, .ref 208, .ref 209, .ref 210, .ref 211, .ref 212, .ref 213, .ref 214, .ref 215, .ref 216, .ref 217, .ref 218, .ref 219, .ref 220, .ref 221, .ref 222, .ref 223, .ref 224, .ref 225, .ref 226, .ref 227, .ref 228, .ref 229, .ref 230, .ref 231, .ref 232, .ref 233, .ref 234, .ref 235, .ref 236, .ref 237, .ref 238, .ref 239, .ref 240, .ref 241, .ref 242, .ref 243, .ref 244, .ref 245, .ref 246, .ref 247, .ref 248, .ref 249, .ref 250, .ref 251, .ref 252, .ref 253, .ref 254, .ref 255, .ref 256, .ref 257, .ref 258, .ref 259, .ref 260], vm := .none },
  { cls := 18, slots := #[.int (-128)], vm := .none },
  { cls := 18, slots := #[.int (-127)], vm := .none },
  { cls := 18, slots := #[.int (-126)], vm := .none },
  { cls := 18, slots := #[.int (-125)], vm := .none },
  { cls := 18, slots := #[.int (-124)], vm := .none },
  { cls := 18, slots := #[.int (-123)], vm := .none },
  { cls := 18, slots := #[.int (-122)], vm := .none },
  { cls := 18, slots := #[.int (-121)], vm := .none },
  { cls := 18, slots := #[.int (-120)], vm := .none },
  { cls := 18, slots := #[.int (-119)], vm := .none },
  { cls := 18, slots := #[.int (-118)], vm := .none },
  { cls := 18, slots := #[.int (-117)], vm := .none },
  { cls := 18, slots := #[.int (-116)], vm := .none },
  { cls := 18, slots := #[.int (-115)], vm := .none },
  { cls := 18, slots := #[.int (-114)], vm := .none },
  { cls := 18, slots := #[.int (-113)], vm := .none },
  { cls := 18, slots := #[.int (-112)], vm := .none },
  { cls := 18, slots := #[.int (-111)], vm := .none },
  { cls := 18, slots := #[.int (-110)], vm := .none },
  { cls := 18, slots := #[.int (-109)], vm := .none },
  { cls := 18, slots := #[.int (-108)], vm := .none },
  { cls := 18, slots := #[.int (-107)], vm := .none },
  { cls := 18, slots := #[.int (-106)], vm := .none },
  { cls := 18, slots := #[.int (-105)], vm := .none },
  { cls := 18, slots := #[.int (-104)], vm := .none },
  { cls := 18, slots := #[.int (-103)], vm := .none },
  { cls := 18, slots := #[.int (-102)], vm := .none },
  { cls := 18, slots := #[.int (-101)], vm := .none },
  { cls := 18, slots := #[.int (-100)], vm := .none },
  { cls := 18, slots := #[.int (-99)], vm := .none },
  { cls := 18, slots := #[.int (-98)], vm := .none },
  { cls := 18, slots := #[.int (-97)], vm := .none },
  { cls := 18, slots := #[.int (-96)], vm := .none },
  { cls := 18, slots := #[.int (-95)], vm := .none },
  { cls := 18, slots := #[.int (-94)], vm := .none },
  { cls := 18, slots := #[.int (-93)], vm := .none },
  { cls := 18, slots := #[.int (-92)], vm := .none },
  { cls := 18, slots := #[.int (-91)], vm := .none },
  { cls := 18, slots := #[.int (-90)], vm := .none },
  { cls := 18, slots := #[.int (-89)], vm := .none },
  { cls := 18, slots := #[.int (-88)], vm := .none },
  { cls := 18, slots := #[.int (-87)], vm := .none },
  { cls := 18, slots := #[.int (-86)], vm := .none },
  { cls := 18, slots := #[.int (-85)], vm := .none },
  { cls := 18, slots := #[.int (-84)], vm := .none },
  { cls := 18, slots := #[.int (-83)], vm := .none },
  { cls := 18, slots := #[.int (-82)], vm := .none },
  { cls := 18, slots := #[.int (-81)], vm := .none },
  { cls := 18, slots := #[.int (-80)], vm := .none },
  { cls := 18, slots := #[.int (-79)], vm := .none },
  { cls := 18, slots := #[.int (-78)], vm := .none },
  { cls := 18, slots := #[.int (-77)], vm := .none },
  { cls := 18, slots := #[.int (-76)], vm := .none },
  { cls := 18, slots := #[.int (-75)], vm := .none },
  { cls := 18, slots := #[.int (-74)], vm := .none },
  { cls := 18, slots := #[.int (-73)], vm := .none },
  { cls := 18, slots := #[.int (-72)], vm := .none },
  { cls := 18, slots := #[.int (-71)], vm := .none },
  { cls := 18, slots := #[.int (-70)], vm := .none },
  { cls := 18, slots := #[.int (-69)], vm := .none },
  { cls := 18, slots := #[.int (-68)], vm := .none },
  { cls := 18, slots := #[.int (-67)], vm := .none },
  { cls := 18, slots := #[.int (-66)], vm := .none },
  { cls := 18, slots := #[.int (-65)], vm := .none },
  { cls := 18, slots := #[.int (-64)], vm := .none },
  { cls := 18, slots := #[.int (-63)], vm := .none },
  { cls := 18, slots := #[.int (-62)], vm := .none },
  { cls := 18, slots := #[.int (-61)], vm := .none },
  { cls := 18, slots := #[.int (-60)], vm := .none },
  { cls := 18, slots := #[.int (-59)], vm := .none },
  { cls := 18, slots := #[.int (-58)], vm := .none },
  { cls := 18, slots := #[.int (-57)], vm := .none },
  { cls := 18, slots := #[.int (-56)], vm := .none },
  { cls := 18, slots := #[.int (-55)], vm := .none },
  { cls := 18, slots := #[.int (-54)], vm := .none },
  { cls := 18, slots := #[.int (-53)], vm := .none },
  { cls := 18, slots := #[.int (-52)], vm := .none },
  { cls := 18, slots := #[.int (-51)], vm := .none },
  { cls := 18, slots := #[.int (-50)], vm := .none },
  { cls := 18, slots := #[.int (-49)], vm := .none },
  { cls := 18, slots := #[.int (-48)], vm := .none },
  { cls := 18, slots := #[.int (-47)], vm := .none },
  { cls := 18, slots := #[.int (-46)], vm := .none },
  { cls := 18, slots := #[.int (-45)], vm := .none },
  { cls := 18, slots := #[.int (-44)], vm := .none },
  { cls := 18, slots := #[.int (-43)], vm := .none },
  { cls := 18, slots := #[.int (-42)], vm := .none },
  { cls := 18, slots := #[.int (-41)], vm := .none },
  { cls := 18, slots := #[.int (-40)], vm := .none },
  { cls := 18, slots := #[.int (-39)], vm := .none },
  { cls := 18, slots := #[.int (-38)], vm := .none },
  { cls := 18, slots := #[.int (-37)], vm := .none },
  { cls := 18, slots := #[.int (-36)], vm := .none },
  { cls := 18, slots := #[.int (-35)], vm := .none },
  { cls := 18, slots := #[.int (-34)], vm := .none },
  { cls := 18, slots := #[.int (-33)], vm := .none },
  { cls := 18, slots := #[.int (-32)], vm := .none },
  { cls := 18, slots := #[.int (-31)], vm := .none },
  { cls := 18, slots := #[.int (-30)], vm := .none },
  { cls := 18, slots := #[.int (-29)], vm := .none },
  { cls := 18, slots := #[.int (-28)], vm := .none },
  { cls := 18, slots := #[.int (-27)], vm := .none },
  { cls := 18, slots := #[.int (-26)], vm := .none },
  { cls := 18, slots := #[.int (-25)], vm := .none },
  { cls := 18, slots := #[.int (-24)], vm := .none },
  { cls := 18, slots := #[.int (-23)], vm := .none },
  { cls := 18, slots := #[.int (-22)], vm := .none },
  { cls := 18, slots := #[.int (-21)], vm := .none },
  { cls := 18, slots := #[.int (-20)], vm := .none },
  { cls := 18, slots := #[.int (-19)], vm := .none },
  { cls := 18, slots := #[.int (-18)], vm := .none },
  { cls := 18, slots := #[.int (-17)], vm := .none },
  { cls := 18, slots := #[.int (-16)], vm := .none },
  { cls := 18, slots := #[.int (-15)], vm := .none },
  { cls := 18, slots := #[.int (-14)], vm := .none },
  { cls := 18, slots := #[.int (-13)], vm := .none },
  { cls := 18, slots := #[.int (-12)], vm := .none },
  { cls := 18, slots := #[.int (-11)], vm := .none },
  { cls := 18, slots := #[.int (-10)], vm := .none },
  { cls := 18, slots := #[.int (-9)], vm := .none },
  { cls := 18, slots := #[.int (-8)], vm := .none },
  { cls := 18, slots := #[.int (-7)], vm := .none },
  { cls := 18, slots := #[.int (-6)], vm := .none },
  { cls := 18, slots := #[.int (-5)], vm := .none },
  { cls := 18, slots := #[.int (-4)], vm := .none },
  { cls := 18, slots := #[.int (-3)], vm := .none },
  { cls := 18, slots := #[.int (-2)], vm := .none },
  { cls := 18, slots := #[.int (-1)], vm := .none },
  { cls := 18, slots := #[.int (0)], vm := .none },
  { cls := 18, slots := #[.int (1)], vm := .none },
  { cls := 18, slots := #[.int (2)], vm := .none },
  { cls := 18, slots := #[.int (3)], vm := .none },
  { cls := 18, slots := #[.int (4)], vm := .none },
  { cls := 18, slots := #[.int (5)], vm := .none },
  { cls := 18, slots := #[.int (6)], vm := .none },
  { cls := 18, slots := #[.int (7)], vm := .none },
  { cls := 18, slots := #[.int (8)], vm := .none },
  { cls := 18, slots := #[.int (9)], vm := .none },
  { cls := 18, slots := #[.int (10)], vm := .none },
  { cls := 18, slots := #[.int (11)], vm := .none },
  { cls := 18, slots := #[.int (12)], vm := .none },
  { cls := 18, slots := #[.int (13)], vm := .none },
  { cls := 18, slots := #[.int (14)], vm := .none },
  { cls := 18, slots := #[.int (15)], vm := .none },
  { cls := 18, slots := #[.int (16)], vm := .none },
  { cls := 18, slots := #[.int (17)], vm := .none },
  { cls := 18, slots := #[.int (18)], vm := .none },
  { cls := 18, slots := #[.int (19)], vm := .none },
  { cls := 18, slots := #[.int (20)], vm := .none },
  { cls := 18, slots := #[.int (21)], vm := .none },
  { cls := 18, slots := #[.int (22)], vm := .none },
  { cls := 18, slots := #[.int (23)], vm := .none },
  { cls := 18, slots := #[.int (24)], vm := .none },
  { cls := 18, slots := #[.int (25)], vm := .none },
  { cls := 18, slots := #[.int (26)], vm := .none },
  { cls := 18, slots := #[.int (27)], vm := .none },
  { cls := 18, slots := #[.int (28)], vm := .none },
  { cls := 18, slots := #[.int (29)], vm := .none },
  { cls := 18, slots := #[.int (30)], vm := .none },
  { cls := 18, slots := #[.int (31)], vm := .none },
  { cls := 18, slots := #[.int (32)], vm := .none },
  { cls := 18, slots := #[.int (33)], vm := .none },
  { cls := 18, slots := #[.int (34)], vm := .none },
  { cls := 18, slots := #[.int (35)], vm := .none },
  { cls := 18, slots := #[.int (36)], vm := .none },
  { cls := 18, slots := #[.int (37)], vm := .none },
  { cls := 18, slots := #[.int (38)], vm := .none },
  { cls := 18, slots := #[.int (39)], vm := .none },
  { cls := 18, slots := #[.int (40)], vm := .none },
  { cls := 18, slots := #[.int (41)], vm := .none },
  { cls := 18, slots := #[.int (42)], vm := .none },
  { cls := 18, slots := #[.int (43)], vm := .none },
  { cls := 18, slots := #[.int (44)], vm := .none },
  { cls := 18, slots := #[.int (45)], vm := .none },
  { cls := 18, slots := #[.int (46)], vm := .none },
  { cls := 18, slots := #[.int (47)], vm := .none },
  { cls := 18, slots := #[.int (48)], vm := .none },
  { cls := 18, slots := #[.int (49)], vm := .none },
  { cls := 18, slots := #[.int (50)], vm := .none },
  { cls := 18, slots := #[.int (51)], vm := .none },
  { cls := 18, slots := #[.int (52)], vm := .none },
  { cls := 18, slots := #[.int (53)], vm := .none },
  { cls := 18, slots := #[.int (54)], vm := .none },
  { cls := 18, slots := #[.int (55)], vm := .none },
  { cls := 18, slots := #[.int (56)], vm := .none },
  { cls := 18, slots := #[.int (57)], vm := .none },
  { cls := 18, slots := #[.int (58)], vm := .none },
  { cls := 18, slots := #[.int (59)], vm := .none },
  { cls := 18, slots := #[.int (60)], vm := .none },
  { cls := 18, slots := #[.int (61)], vm := .none },
  { cls := 18, slots := #[.int (62)], vm := .none },
  { cls := 18, slots := #[.int (63)], vm := .none },
  { cls := 18, slots := #[.int (64)], vm := .none },
  { cls := 18, slots := #[.int (65)], vm := .none },
  { cls := 18, slots := #[.int (66)], vm := .none },
  { cls := 18, slots := #[.int (67)], vm := .none },
  { cls := 18, slots := #[.int (68)], vm := .none },
  { cls := 18, slots := #[.int (69)], vm := .none },
  { cls := 18, slots := #[.int (70)], vm := .none },
  { cls := 18, slots := #[.int (71)], vm := .none },
  { cls := 18, slots := #[.int (72)], vm := .none },
  { cls := 18, slots := #[.int (73)], vm := .none },
  { cls := 18, slots := #[.int (74)], vm := .none },
  { cls := 18, slots := #[.int (75)], vm := .none },
  { cls := 18, slots := #[.int (76)], vm := .none },
  { cls := 18, slots := #[.int (77)], vm := .none },
  { cls := 18, slots := #[.int (78)], vm := .none },
  { cls := 18, slots := #[.int (79)], vm := .none },
  { cls := 18, slots := #[.int (80)], vm := .none },
  { cls := 18, slots := #[.int (81)], vm := .none },
  { cls := 18, slots := #[.int (82)], vm := .none },
  { cls := 18, slots := #[.int (83)], vm := .none },
  { cls := 18, slots := #[.int (84)], vm := .none },
  { cls := 18, slots := #[.int (85)], vm := .none },
  { cls := 18, slots := #[.int (86)], vm := .none },
  { cls := 18, slots := #[.int (87)], vm := .none },
  { cls := 18, slots := #[.int (88)], vm := .none },
  { cls := 18, slots := #[.int (89)], vm := .none },
  { cls := 18, slots := #[.int (90)], vm := .none },
  { cls := 18, slots := #[.int (91)], vm := .none },
  { cls := 18, slots := #[.int (92)], vm := .none },
  { cls := 18, slots := #[.int (93)], vm := .none },
  { cls := 18, slots := #[.int (94)], vm := .none },
  { cls := 18, slots := #[.int (95)], vm := .none },
  { cls := 18, slots := #[.int (96)], vm := .none },
  { cls := 18, slots := #[.int (97)], vm := .none },
  { cls := 18, slots := #[.int (98)], vm := .none },
  { cls := 18, slots := #[.int (99)], vm := .none },
  { cls := 18, slots := #[.int (100)], vm := .none },
  { cls := 18, slots := #[.int (101)], vm := .none },
  { cls := 18, slots := #[.int (102)], vm := .none },
  { cls := 18, slots := #[.int (103)], vm := .none },
  { cls := 18, slots := #[.int (104)], vm := .none },
  { cls := 18, slots := #[.int (105)], vm := .none },
  { cls := 18, slots := #[.int (106)], vm := .none },
  { cls := 18, slots := #[.int (107)], vm := .none },
  { cls := 18, slots := #[.int (108)], vm := .none },
  { cls := 18, slots := #[.int (109)], vm := .none },
  { cls := 18, slots := #[.int (110)], vm := .none },
  { cls := 18, slots := #[.int (111)], vm := .none },
  { cls := 18, slots := #[.int (112)], vm := .none },
  { cls := 18, slots := #[.int (113)], vm := .none },
  { cls := 18, slots := #[.int (114)], vm := .none },
  { cls := 18, slots := #[.int (115)], vm := .none },
  { cls := 18, slots := #[.int (116)], vm := .none },
  { cls := 18, slots := #[.int (117)], vm := .none },
  { cls := 18, slots := #[.int (118)], vm := .none },
  { cls := 18, slots := #[.int (119)], vm := .none },
  { cls := 18, slots := #[.int (120)], vm := .none },
  { cls := 18, slots := #[.int (121)], vm := .none },
  { cls := 18, slots := #[.int (122)], vm := .none },
  { cls := 18, slots := #[.int (123)], vm := .none },
  { cls := 18, slots := #[.int (124)], vm := .none },
  { cls := 18, slots := #[.int (125)], vm := .none },
  { cls := 18, slots := #[.int (126)], vm := .none },
  { cls := 18, slots := #[.int (127)], vm := .none },
  { cls := 22, slots := #[.null, .int 0, .int 0], vm := .none },
  { cls := 22, slots := #[.null, .int 1, .int 0], vm := .none },
  { cls := 22, slots := #[.null, .int 2, .int 0], vm := .none },
  { cls := 39, slots := #[], vm := .none },
  { cls := 39, slots := #[], vm := .none },
  { cls := 0, slots := #[], vm := .none },
  { cls := 33, slots := #[.null, .int 0], vm := .none },
  { cls := 0, slots := #[], vm := .mirror 27 },
  { cls := 0, slots := #[], vm := .mirror 13 }]
def classes : Array Class := #[k0, k1, k2, k3, k4, k5, k6, k7, k8, k9, k10, k11, k12, k13, k14, k15, k16, k17, k18, k19, k20, k21, k22, k23, k24, k25, k26, k27, k28, k29, k30, k31, k32, k33, k34, k35, k36, k37, k38, k39]
def interned : List (Array UInt16 × Addr) := []
def slotsUsed : Nat := 546
def theMethod : MethodId := ⟨1, 1⟩
def args0 : Array Value := #[.int 5, .int 3]
def aboutOver (below : List Frame) : State where
  vm := { classes := classes, interned := interned.toArray }
  heap := heap
  slotsUsed := slotsUsed
  threads := #[{ frames := .invoking theMethod args0 :: below }]
def below0 : List Frame := [.native { method := ⟨0, 0⟩, args := #[] }]
def about1 : State := aboutOver below0
def p0 : Program := .bare "" "" ""
def e0 : Env := launch0.env 0 0 0
theorem w_frames : about1.frames = Frame.invoking theMethod args0 :: below0 := rfl
set_option maxRecDepth 65536 in
theorem w_args : argsFit about1.vm theMethod args0 = true := by decide +kernel
set_option maxRecDepth 65536 in
theorem w_heap : heapFits about1 = true := by decide +kernel
set_option maxRecDepth 65536 in
theorem w_runnable : about1.curStatus? = some .runnable := by decide +kernel
set_option maxRecDepth 65536 in
theorem w_alone : about1.alone = true := by decide +kernel
set_option maxRecDepth 65536 in
theorem w_named : about1.methodNamed? x = some theMethod := by decide +kernel
set_option maxRecDepth 65536 in
theorem w_hears : about1.hears theMethod below0 = true := by decide +kernel
set_option maxRecDepth 65536 in
theorem w_ripe : about1.ripe theMethod args0 below0 = true := by decide +kernel
theorem w_running : about1.status = .running := rfl
set_option maxRecDepth 65536 in
theorem w_room : about1.hasRoom e0.platform room_1 = true :=
  launch0.hasRoom_least _ room_1 (by decide +kernel) (by decide +kernel) (by decide +kernel) (by decide +kernel) (by decide +kernel) (by decide +kernel)
theorem allAtoms_all (ts : List Jvm.Cond) (a : Array Jvm.Value) (st : Jvm.State) : (allAtoms ts).before a st = ts.all (fun c => c.before a st) := by
  induction ts with
  | nil => rfl
  | cons c t ih =>
    show (Jvm.Cond.and c (allAtoms t)).before a st = _
    rw [Jvm.Cond.before_and, ih, List.all_cons]
def words1 : List Jvm.Cond := Jvm.Cond.code x code maxLocals ret :: tables_1
/-- a 'code' word, met by the world's own term for the bytes: nothing is compared byte by byte -/
theorem code_word {y : MethodName} {bytes : ByteArray} {mx : Nat} {rt : Option FieldType} {a : Array Value} {s : State} {m : MethodId} {meth : Method} {c : Code} (h1 : s.methodNamed? y = some m) (h2 : s.vm.method? m = some meth) (h3 : meth.code = some c) (h4 : c.code = bytes)
    (h5 : (c.maxLocals == mx && c.exceptionTable.isEmpty && decide (c.maxStack ≤ mostOperands) && decide (meth.sig.returnType = rt) && !meth.locks && decide (parseMethodDescriptor y.desc = some meth.sig)) = true) : (Jvm.Cond.code y bytes mx rt).before a s = true := by
  simp only [Bool.and_eq_true, beq_iff_eq, Bool.not_eq_true', decide_eq_true_eq] at h5
  obtain ⟨⟨⟨⟨⟨g1, g2⟩, g3⟩, g4⟩, g5⟩, g6⟩ := h5
  simp [Cond.before, Cond.holds, Cond.value, h1, h2, h3, h4, g1, g2, g3, g4, g5, g6]
def isCode : Jvm.Cond → Bool
  | .code _ _ _ _ => true
  | _ => false
theorem all_split {L : List Jvm.Cond} {P : Jvm.Cond → Bool} (h1 : L.all (fun c => isCode c || P c) = true) (h2 : ∀ c ∈ L.filter isCode, P c = true) : L.all P = true := by
  refine List.all_eq_true.mpr fun c hc => ?_
  have h := List.all_eq_true.mp h1 c hc
  rcases Bool.eq_false_or_eq_true (isCode c) with hi | hi
  · exact h2 c (List.mem_filter.mpr ⟨hc, hi⟩)
  · simpa [hi] using h
set_option maxRecDepth 65536 in
theorem w_c0 : (Jvm.Cond.code x code maxLocals ret).before args0 about1 = true := code_word (m := ⟨1, 1⟩) (meth := k1m1) (c := k1c1) (by decide +kernel) rfl rfl rfl (by decide +kernel)
set_option maxRecDepth 65536 in
theorem w_c1 : (Jvm.Cond.code ({ cls := "com/example/hantei/hantei/packs/plandice/PlanDiceCheck", name := "dice", desc := "(I)I" } : Jvm.MethodName) prog_69_method_2_code (1 : Nat) (Option.some Jvm.ClassFile.FieldType.int)).before args0 about1 = true := code_word (m := ⟨3, 1⟩) (meth := k3m1) (c := k3c1) (by decide +kernel) rfl rfl rfl (by decide +kernel)
set_option maxRecDepth 65536 in
theorem w_c2 : (Jvm.Cond.code ({ cls := "java/util/ArrayList", name := "<init>", desc := "()V" } : Jvm.MethodName) jdk_38_method_2_code (1 : Nat) (Option.none : Option Jvm.ClassFile.FieldType)).before args0 about1 = true := code_word (m := ⟨13, 0⟩) (meth := k13m0) (c := k13c0) (by decide +kernel) rfl rfl rfl (by decide +kernel)
set_option maxRecDepth 65536 in
theorem w_c3 : (Jvm.Cond.code ({ cls := "java/util/AbstractList", name := "<init>", desc := "()V" } : Jvm.MethodName) jdk_39_method_1_code (1 : Nat) (Option.none : Option Jvm.ClassFile.FieldType)).before args0 about1 = true := code_word (m := ⟨9, 0⟩) (meth := k9m0) (c := k9c0) (by decide +kernel) rfl rfl rfl (by decide +kernel)
set_option maxRecDepth 65536 in
theorem w_c4 : (Jvm.Cond.code ({ cls := "java/util/AbstractCollection", name := "<init>", desc := "()V" } : Jvm.MethodName) jdk_22_method_1_code (1 : Nat) (Option.none : Option Jvm.ClassFile.FieldType)).before args0 about1 = true := code_word (m := ⟨6, 0⟩) (meth := k6m0) (c := k6c0) (by decide +kernel) rfl rfl rfl (by decide +kernel)
set_option maxRecDepth 65536 in
theorem w_c5 : (Jvm.Cond.code ({ cls := "java/lang/Object", name := "<init>", desc := "()V" } : Jvm.MethodName) object_method_1_code (1 : Nat) (Option.none : Option Jvm.ClassFile.FieldType)).before args0 about1 = true := code_word (m := ⟨0, 0⟩) (meth := k0m0) (c := k0c0) (by decide +kernel) rfl rfl rfl (by decide +kernel)
set_option maxRecDepth 65536 in
theorem w_c6 : (Jvm.Cond.code ({ cls := "java/lang/Integer", name := "valueOf", desc := "(I)Ljava/lang/Integer;" } : Jvm.MethodName) jdk_33_method_22_code (1 : Nat) (Option.some (Jvm.ClassFile.FieldType.object "java/lang/Integer"))).before args0 about1 = true := code_word (m := ⟨18, 0⟩) (meth := k18m0) (c := k18c0) (by decide +kernel) rfl rfl rfl (by decide +kernel)
set_option maxRecDepth 65536 in
theorem w_c7 : (Jvm.Cond.code ({ cls := "java/util/ArrayList", name := "add", desc := "(Ljava/lang/Object;)Z" } : Jvm.MethodName) jdk_38_method_25_code (2 : Nat) (Option.some Jvm.ClassFile.FieldType.boolean)).before args0 about1 = true := code_word (m := ⟨13, 6⟩) (meth := k13m6) (c := k13c6) (by decide +kernel) rfl rfl rfl (by decide +kernel)
set_option maxRecDepth 65536 in
theorem w_c8 : (Jvm.Cond.code ({ cls := "java/util/ArrayList", name := "add", desc := "(Ljava/lang/Object;[Ljava/lang/Object;I)V" } : Jvm.MethodName) jdk_38_method_24_code (4 : Nat) (Option.none : Option Jvm.ClassFile.FieldType)).before args0 about1 = true := code_word (m := ⟨13, 5⟩) (meth := k13m5) (c := k13c5) (by decide +kernel) rfl rfl rfl (by decide +kernel)
set_option maxRecDepth 65536 in
theorem w_c9 : (Jvm.Cond.code ({ cls := "java/util/ArrayList", name := "grow", desc := "()[Ljava/lang/Object;" } : Jvm.MethodName) jdk_38_method_7_code (1 : Nat) (Option.some (Jvm.ClassFile.FieldType.array (Jvm.ClassFile.FieldType.object "java/lang/Object")))).before args0 about1 = true := code_word (m := ⟨13, 2⟩) (meth := k13m2) (c := k13c2) (by decide +kernel) rfl rfl rfl (by decide +kernel)
set_option maxRecDepth 65536 in
theorem w_c10 : (Jvm.Cond.code ({ cls := "java/util/ArrayList", name := "grow", desc := "(I)[Ljava/lang/Object;" } : Jvm.MethodName) jdk_38_method_6_code (4 : Nat) (Option.some (Jvm.ClassFile.FieldType.array (Jvm.ClassFile.FieldType.object "java/lang/Object")))).before args0 about1 = true := code_word (m := ⟨13, 1⟩) (meth := k13m1) (c := k13c1) (by decide +kernel) rfl rfl rfl (by decide +kernel)
set_option maxRecDepth 65536 in
theorem w_c11 : (Jvm.Cond.code ({ cls := "java/lang/Math", name := "max", desc := "(II)I" } : Jvm.MethodName) jdk_29_method_65_code (2 : Nat) (Option.some Jvm.ClassFile.FieldType.int)).before args0 about1 = true := code_word (m := ⟨20, 1⟩) (meth := k20m1) (c := k20c1) (by decide +kernel) rfl rfl rfl (by decide +kernel)
set_option maxRecDepth 65536 in
theorem w_c12 : (Jvm.Cond.code ({ cls := "com/example/hantei/hantei/packs/plandice/PlanDiceCheck", name := "<init>", desc := "(III)V" } : Jvm.MethodName) prog_69_method_1_code (4 : Nat) (Option.none : Option Jvm.ClassFile.FieldType)).before args0 about1 = true := code_word (m := ⟨3, 0⟩) (meth := k3m0) (c := k3c0) (by decide +kernel) rfl rfl rfl (by decide +kernel)
set_option maxRecDepth 65536 in
theorem w_c13 : (Jvm.Cond.code ({ cls := "java/lang/Record", name := "<init>", desc := "()V" } : Jvm.MethodName) jdk_30_method_1_code (1 : Nat) (Option.none : Option Jvm.ClassFile.FieldType)).before args0 about1 = true := code_word (m := ⟨2, 0⟩) (meth := k2m0) (c := k2c0) (by decide +kernel) rfl rfl rfl (by decide +kernel)
set_option maxRecDepth 65536 in
theorem w_c14 : (Jvm.Cond.code ({ cls := "com/example/hantei/hantei/packs/plandice/PlanDiceCheck", name := "resolve", desc := "(Ljava/util/List;)Lcom/example/hantei/hantei/packs/plandice/PlanDiceCheck$Resolution;" } : Jvm.MethodName) prog_69_method_3_code (5 : Nat) (Option.some (Jvm.ClassFile.FieldType.object "com/example/hantei/hantei/packs/plandice/PlanDiceCheck$Resolution"))).before args0 about1 = true := code_word (m := ⟨3, 2⟩) (meth := k3m2) (c := k3c2) (by decide +kernel) rfl rfl rfl (by decide +kernel)
set_option maxRecDepth 65536 in
theorem w_c15 : (Jvm.Cond.code ({ cls := "java/util/ArrayList", name := "get", desc := "(I)Ljava/lang/Object;" } : Jvm.MethodName) jdk_38_method_20_code (2 : Nat) (Option.some (Jvm.ClassFile.FieldType.object "java/lang/Object"))).before args0 about1 = true := code_word (m := ⟨13, 4⟩) (meth := k13m4) (c := k13c4) (by decide +kernel) rfl rfl rfl (by decide +kernel)
set_option maxRecDepth 65536 in
theorem w_c16 : (Jvm.Cond.code ({ cls := "java/util/Objects", name := "checkIndex", desc := "(II)I" } : Jvm.MethodName) jdk_31_method_17_code (2 : Nat) (Option.some Jvm.ClassFile.FieldType.int)).before args0 about1 = true := code_word (m := ⟨23, 3⟩) (meth := k23m3) (c := k23c3) (by decide +kernel) rfl rfl rfl (by decide +kernel)
set_option maxRecDepth 65536 in
theorem w_c17 : (Jvm.Cond.code ({ cls := "jdk/internal/util/Preconditions", name := "checkIndex", desc := "(IILjava/util/function/BiFunction;)I" } : Jvm.MethodName) jdk_41_method_11_code (3 : Nat) (Option.some Jvm.ClassFile.FieldType.int)).before args0 about1 = true := code_word (m := ⟨24, 1⟩) (meth := k24m1) (c := k24c1) (by decide +kernel) rfl rfl rfl (by decide +kernel)
set_option maxRecDepth 65536 in
theorem w_c18 : (Jvm.Cond.code ({ cls := "java/util/ArrayList", name := "elementData", desc := "(I)Ljava/lang/Object;" } : Jvm.MethodName) jdk_38_method_18_code (2 : Nat) (Option.some (Jvm.ClassFile.FieldType.object "java/lang/Object"))).before args0 about1 = true := code_word (m := ⟨13, 3⟩) (meth := k13m3) (c := k13c3) (by decide +kernel) rfl rfl rfl (by decide +kernel)
set_option maxRecDepth 65536 in
theorem w_c19 : (Jvm.Cond.code ({ cls := "java/lang/Integer", name := "intValue", desc := "()I" } : Jvm.MethodName) jdk_33_method_27_code (1 : Nat) (Option.some Jvm.ClassFile.FieldType.int)).before args0 about1 = true := code_word (m := ⟨18, 2⟩) (meth := k18m2) (c := k18c2) (by decide +kernel) rfl rfl rfl (by decide +kernel)
set_option maxRecDepth 65536 in
theorem w_c20 : (Jvm.Cond.code ({ cls := "java/util/List", name := "of", desc := "(Ljava/lang/Object;Ljava/lang/Object;)Ljava/util/List;" } : Jvm.MethodName) jdk_40_method_38_code (2 : Nat) (Option.some (Jvm.ClassFile.FieldType.object "java/util/List"))).before args0 about1 = true := code_word (m := ⟨8, 3⟩) (meth := k8m3) (c := k8c3) (by decide +kernel) rfl rfl rfl (by decide +kernel)
set_option maxRecDepth 65536 in
theorem w_c21 : (Jvm.Cond.code ({ cls := "java/util/ImmutableCollections$List12", name := "<init>", desc := "(Ljava/lang/Object;Ljava/lang/Object;)V" } : Jvm.MethodName) jdk_44_method_2_code (3 : Nat) (Option.none : Option Jvm.ClassFile.FieldType)).before args0 about1 = true := code_word (m := ⟨27, 0⟩) (meth := k27m0) (c := k27c0) (by decide +kernel) rfl rfl rfl (by decide +kernel)
set_option maxRecDepth 65536 in
theorem w_c22 : (Jvm.Cond.code ({ cls := "java/util/ImmutableCollections$AbstractImmutableList", name := "<init>", desc := "()V" } : Jvm.MethodName) jdk_46_method_1_code (1 : Nat) (Option.none : Option Jvm.ClassFile.FieldType)).before args0 about1 = true := code_word (m := ⟨26, 0⟩) (meth := k26m0) (c := k26c0) (by decide +kernel) rfl rfl rfl (by decide +kernel)
set_option maxRecDepth 65536 in
theorem w_c23 : (Jvm.Cond.code ({ cls := "java/util/ImmutableCollections$AbstractImmutableCollection", name := "<init>", desc := "()V" } : Jvm.MethodName) jdk_47_method_1_code (1 : Nat) (Option.none : Option Jvm.ClassFile.FieldType)).before args0 about1 = true := code_word (m := ⟨25, 0⟩) (meth := k25m0) (c := k25c0) (by decide +kernel) rfl rfl rfl (by decide +kernel)
set_option maxRecDepth 65536 in
theorem w_c24 : (Jvm.Cond.code ({ cls := "java/util/Objects", name := "requireNonNull", desc := "(Ljava/lang/Object;)Ljava/lang/Object;" } : Jvm.MethodName) jdk_31_method_10_code (1 : Nat) (Option.some (Jvm.ClassFile.FieldType.object "java/lang/Object"))).before args0 about1 = true := code_word (m := ⟨23, 2⟩) (meth := k23m2) (c := k23c2) (by decide +kernel) rfl rfl rfl (by decide +kernel)
set_option maxRecDepth 65536 in
theorem w_c25 : (Jvm.Cond.code ({ cls := "java/util/ArrayList", name := "equals", desc := "(Ljava/lang/Object;)Z" } : Jvm.MethodName) jdk_38_method_32_code (4 : Nat) (Option.some Jvm.ClassFile.FieldType.boolean)).before args0 about1 = true := code_word (m := ⟨13, 7⟩) (meth := k13m7) (c := k13c7) (by decide +kernel) rfl rfl rfl (by decide +kernel)
set_option maxRecDepth 65536 in
theorem w_c26 : (Jvm.Cond.code ({ cls := "java/util/ArrayList", name := "equalsRange", desc := "(Ljava/util/List;II)Z" } : Jvm.MethodName) jdk_38_method_33_code (6 : Nat) (Option.some Jvm.ClassFile.FieldType.boolean)).before args0 about1 = true := code_word (m := ⟨13, 8⟩) (meth := k13m8) (c := k13c8) (by decide +kernel) rfl rfl rfl (by decide +kernel)
set_option maxRecDepth 65536 in
theorem w_c27 : (Jvm.Cond.code ({ cls := "java/util/ImmutableCollections$AbstractImmutableList", name := "iterator", desc := "()Ljava/util/Iterator;" } : Jvm.MethodName) jdk_46_method_10_code (1 : Nat) (Option.some (Jvm.ClassFile.FieldType.object "java/util/Iterator"))).before args0 about1 = true := code_word (m := ⟨26, 1⟩) (meth := k26m1) (c := k26c1) (by decide +kernel) rfl rfl rfl (by decide +kernel)
set_option maxRecDepth 65536 in
theorem w_c28 : (Jvm.Cond.code ({ cls := "java/util/ImmutableCollections$List12", name := "size", desc := "()I" } : Jvm.MethodName) jdk_44_method_3_code (1 : Nat) (Option.some Jvm.ClassFile.FieldType.int)).before args0 about1 = true := code_word (m := ⟨27, 1⟩) (meth := k27m1) (c := k27c1) (by decide +kernel) rfl rfl rfl (by decide +kernel)
set_option maxRecDepth 65536 in
theorem w_c29 : (Jvm.Cond.code ({ cls := "java/util/ImmutableCollections$ListItr", name := "<init>", desc := "(Ljava/util/List;I)V" } : Jvm.MethodName) jdk_53_method_1_code (3 : Nat) (Option.none : Option Jvm.ClassFile.FieldType)).before args0 about1 = true := code_word (m := ⟨30, 0⟩) (meth := k30m0) (c := k30c0) (by decide +kernel) rfl rfl rfl (by decide +kernel)
set_option maxRecDepth 65536 in
theorem w_c30 : (Jvm.Cond.code ({ cls := "java/util/ImmutableCollections$ListItr", name := "hasNext", desc := "()Z" } : Jvm.MethodName) jdk_53_method_3_code (1 : Nat) (Option.some Jvm.ClassFile.FieldType.boolean)).before args0 about1 = true := code_word (m := ⟨30, 1⟩) (meth := k30m1) (c := k30c1) (by decide +kernel) rfl rfl rfl (by decide +kernel)
set_option maxRecDepth 65536 in
theorem w_c31 : (Jvm.Cond.code ({ cls := "java/util/ImmutableCollections$List12", name := "get", desc := "(I)Ljava/lang/Object;" } : Jvm.MethodName) jdk_44_method_5_code (2 : Nat) (Option.some (Jvm.ClassFile.FieldType.object "java/lang/Object"))).before args0 about1 = true := code_word (m := ⟨27, 2⟩) (meth := k27m2) (c := k27c2) (by decide +kernel) rfl rfl rfl (by decide +kernel)
set_option maxRecDepth 65536 in
theorem w_c32 : (Jvm.Cond.code ({ cls := "java/util/Objects", name := "equals", desc := "(Ljava/lang/Object;Ljava/lang/Object;)Z" } : Jvm.MethodName) jdk_31_method_2_code (2 : Nat) (Option.some Jvm.ClassFile.FieldType.boolean)).before args0 about1 = true := code_word (m := ⟨23, 1⟩) (meth := k23m1) (c := k23c1) (by decide +kernel) rfl rfl rfl (by decide +kernel)
set_option maxRecDepth 65536 in
theorem w_c33 : (Jvm.Cond.code ({ cls := "java/lang/Integer", name := "equals", desc := "(Ljava/lang/Object;)Z" } : Jvm.MethodName) jdk_33_method_34_code (2 : Nat) (Option.some Jvm.ClassFile.FieldType.boolean)).before args0 about1 = true := code_word (m := ⟨18, 3⟩) (meth := k18m3) (c := k18c3) (by decide +kernel) rfl rfl rfl (by decide +kernel)
set_option maxRecDepth 65536 in
theorem w_c34 : (Jvm.Cond.code ({ cls := "java/util/ArrayList", name := "checkForComodification", desc := "(I)V" } : Jvm.MethodName) jdk_38_method_35_code (2 : Nat) (Option.none : Option Jvm.ClassFile.FieldType)).before args0 about1 = true := code_word (m := ⟨13, 9⟩) (meth := k13m9) (c := k13c9) (by decide +kernel) rfl rfl rfl (by decide +kernel)
set_option maxRecDepth 65536 in
theorem w_c35 : (Jvm.Cond.code ({ cls := "com/example/hantei/hantei/packs/plandice/PlanDiceCheck$Resolution", name := "<init>", desc := "(ILcom/example/hantei/hantei/engine/Special;IZ)V" } : Jvm.MethodName) prog_70_method_1_code (5 : Nat) (Option.none : Option Jvm.ClassFile.FieldType)).before args0 about1 = true := code_word (m := ⟨32, 0⟩) (meth := k32m0) (c := k32c0) (by decide +kernel) rfl rfl rfl (by decide +kernel)
set_option maxRecDepth 65536 in
theorem w_c36 : (Jvm.Cond.code ({ cls := "com/example/hantei/hantei/packs/plandice/PlanDiceCheck$Resolution", name := "special", desc := "()Lcom/example/hantei/hantei/engine/Special;" } : Jvm.MethodName) prog_70_method_6_code (1 : Nat) (Option.some (Jvm.ClassFile.FieldType.object "com/example/hantei/hantei/engine/Special"))).before args0 about1 = true := code_word (m := ⟨32, 1⟩) (meth := k32m1) (c := k32c1) (by decide +kernel) rfl rfl rfl (by decide +kernel)
set_option maxRecDepth 65536 in
theorem w_c37 : (Jvm.Cond.code ({ cls := "java/lang/Integer", name := "<init>", desc := "(I)V" } : Jvm.MethodName) jdk_33_method_23_code (2 : Nat) (Option.none : Option Jvm.ClassFile.FieldType)).before args0 about1 = true := code_word (m := ⟨18, 1⟩) (meth := k18m1) (c := k18c1) (by decide +kernel) rfl rfl rfl (by decide +kernel)
set_option maxRecDepth 65536 in
theorem w_c38 : (Jvm.Cond.code ({ cls := "java/lang/Number", name := "<init>", desc := "()V" } : Jvm.MethodName) jdk_18_method_1_code (1 : Nat) (Option.none : Option Jvm.ClassFile.FieldType)).before args0 about1 = true := code_word (m := ⟨14, 0⟩) (meth := k14m0) (c := k14c0) (by decide +kernel) rfl rfl rfl (by decide +kernel)
def codes1 : List Jvm.Cond := [Jvm.Cond.code x code maxLocals ret, Jvm.Cond.code ({ cls := "com/example/hantei/hantei/packs/plandice/PlanDiceCheck", name := "dice", desc := "(I)I" } : Jvm.MethodName) prog_69_method_2_code (1 : Nat) (Option.some Jvm.ClassFile.FieldType.int), Jvm.Cond.code ({ cls := "java/util/ArrayList", name := "<init>", desc := "()V" } : Jvm.MethodName) jdk_38_method_2_code (1 : Nat) (Option.none : Option Jvm.ClassFile.FieldType), Jvm.Cond.code ({ cls := "java/util/AbstractList", name := "<init>", desc := "()V" } : Jvm.MethodName) jdk_39_method_1_code (1 : Nat) (Option.none : Option Jvm.ClassFile.FieldType), Jvm.Cond.code ({ cls := "java/util/AbstractCollection", name := "<init>", desc := "()V" } : Jvm.MethodName) jdk_22_method_1_code (1 : Nat) (Option.none : Option Jvm.ClassFile.FieldType), Jvm.Cond.code ({ cls := "java/lang/Object", name := "<init>", desc := "()V" } : Jvm.MethodName) object_method_1_code (1 : Nat) (Option.none : Option Jvm.ClassFile.FieldType), Jvm.Cond.code ({ cls := "java/lang/Integer", name := "valueOf", desc := "(I)Ljava/lang/Integer;" } : Jvm.MethodName) jdk_33_method_22_code (1 : Nat) (Option.some (Jvm.ClassFile.FieldType.object "java/lang/Integer")), Jvm.Cond.code ({ cls := "java/util/ArrayList", name := "add", desc := "(Ljava/lang/Object;)Z" } : Jvm.MethodName) jdk_38_method_25_code (2 : Nat) (Option.some Jvm.ClassFile.FieldType.boolean), Jvm.Cond.code ({ cls := "java/util/ArrayList", name := "add", desc := "(Ljava/lang/Object;[Ljava/lang/Object;I)V" } : Jvm.MethodName) jdk_38_method_24_code (4 : Nat) (Option.none : Option Jvm.ClassFile.FieldType), Jvm.Cond.code ({ cls := "java/util/ArrayList", name := "grow", desc := "()[Ljava/lang/Object;" } : Jvm.MethodName) jdk_38_method_7_code (1 : Nat) (Option.some (Jvm.ClassFile.FieldType.array (Jvm.ClassFile.FieldType.object "java/lang/Object"))), Jvm.Cond.code ({ cls := "java/util/ArrayList", name := "grow", desc := "(I)[Ljava/lang/Object;" } : Jvm.MethodName) jdk_38_method_6_code (4 : Nat) (Option.some (Jvm.ClassFile.FieldType.array (Jvm.ClassFile.FieldType.object "java/lang/Object"))), Jvm.Cond.code ({ cls := "java/lang/Math", name := "max", desc := "(II)I" } : Jvm.MethodName) jdk_29_method_65_code (2 : Nat) (Option.some Jvm.ClassFile.FieldType.int), Jvm.Cond.code ({ cls := "com/example/hantei/hantei/packs/plandice/PlanDiceCheck", name := "<init>", desc := "(III)V" } : Jvm.MethodName) prog_69_method_1_code (4 : Nat) (Option.none : Option Jvm.ClassFile.FieldType), Jvm.Cond.code ({ cls := "java/lang/Record", name := "<init>", desc := "()V" } : Jvm.MethodName) jdk_30_method_1_code (1 : Nat) (Option.none : Option Jvm.ClassFile.FieldType), Jvm.Cond.code ({ cls := "com/example/hantei/hantei/packs/plandice/PlanDiceCheck", name := "resolve", desc := "(Ljava/util/List;)Lcom/example/hantei/hantei/packs/plandice/PlanDiceCheck$Resolution;" } : Jvm.MethodName) prog_69_method_3_code (5 : Nat) (Option.some (Jvm.ClassFile.FieldType.object "com/example/hantei/hantei/packs/plandice/PlanDiceCheck$Resolution")), Jvm.Cond.code ({ cls := "java/util/ArrayList", name := "get", desc := "(I)Ljava/lang/Object;" } : Jvm.MethodName) jdk_38_method_20_code (2 : Nat) (Option.some (Jvm.ClassFile.FieldType.object "java/lang/Object")), Jvm.Cond.code ({ cls := "java/util/Objects", name := "checkIndex", desc := "(II)I" } : Jvm.MethodName) jdk_31_method_17_code (2 : Nat) (Option.some Jvm.ClassFile.FieldType.int), Jvm.Cond.code ({ cls := "jdk/internal/util/Preconditions", name := "checkIndex", desc := "(IILjava/util/function/BiFunction;)I" } : Jvm.MethodName) jdk_41_method_11_code (3 : Nat) (Option.some Jvm.ClassFile.FieldType.int), Jvm.Cond.code ({ cls := "java/util/ArrayList", name := "elementData", desc := "(I)Ljava/lang/Object;" } : Jvm.MethodName) jdk_38_method_18_code (2 : Nat) (Option.some (Jvm.ClassFile.FieldType.object "java/lang/Object")), Jvm.Cond.code ({ cls := "java/lang/Integer", name := "intValue", desc := "()I" } : Jvm.MethodName) jdk_33_method_27_code (1 : Nat) (Option.some Jvm.ClassFile.FieldType.int), Jvm.Cond.code ({ cls := "java/util/List", name := "of", desc := "(Ljava/lang/Object;Ljava/lang/Object;)Ljava/util/List;" } : Jvm.MethodName) jdk_40_method_38_code (2 : Nat) (Option.some (Jvm.ClassFile.FieldType.object "java/util/List")), Jvm.Cond.code ({ cls := "java/util/ImmutableCollections$List12", name := "<init>", desc := "(Ljava/lang/Object;Ljava/lang/Object;)V" } : Jvm.MethodName) jdk_44_method_2_code (3 : Nat) (Option.none : Option Jvm.ClassFile.FieldType), Jvm.Cond.code ({ cls := "java/util/ImmutableCollections$AbstractImmutableList", name := "<init>", desc := "()V" } : Jvm.MethodName) jdk_46_method_1_code (1 : Nat) (Option.none : Option Jvm.ClassFile.FieldType), Jvm.Cond.code ({ cls := "java/util/ImmutableCollections$AbstractImmutableCollection", name := "<init>", desc := "()V" } : Jvm.MethodName) jdk_47_method_1_code (1 : Nat) (Option.none : Option Jvm.ClassFile.FieldType), Jvm.Cond.code ({ cls := "java/util/Objects", name := "requireNonNull", desc := "(Ljava/lang/Object;)Ljava/lang/Object;" } : Jvm.MethodName) jdk_31_method_10_code (1 : Nat) (Option.some (Jvm.ClassFile.FieldType.object "java/lang/Object")), Jvm.Cond.code ({ cls := "java/util/ArrayList", name := "equals", desc := "(Ljava/lang/Object;)Z" } : Jvm.MethodName) jdk_38_method_32_code (4 : Nat) (Option.some Jvm.ClassFile.FieldType.boolean), Jvm.Cond.code ({ cls := "java/util/ArrayList", name := "equalsRange", desc := "(Ljava/util/List;II)Z" } : Jvm.MethodName) jdk_38_method_33_code (6 : Nat) (Option.some Jvm.ClassFile.FieldType.boolean), Jvm.Cond.code ({ cls := "java/util/ImmutableCollections$AbstractImmutableList", name := "iterator", desc := "()Ljava/util/Iterator;" } : Jvm.MethodName) jdk_46_method_10_code (1 : Nat) (Option.some (Jvm.ClassFile.FieldType.object "java/util/Iterator")), Jvm.Cond.code ({ cls := "java/util/ImmutableCollections$List12", name := "size", desc := "()I" } : Jvm.MethodName) jdk_44_method_3_code (1 : Nat) (Option.some Jvm.ClassFile.FieldType.int), Jvm.Cond.code ({ cls := "java/util/ImmutableCollections$ListItr", name := "<init>", desc := "(Ljava/util/List;I)V" } : Jvm.MethodName) jdk_53_method_1_code (3 : Nat) (Option.none : Option Jvm.ClassFile.FieldType), Jvm.Cond.code ({ cls := "java/util/ImmutableCollections$ListItr", name := "hasNext", desc := "()Z" } : Jvm.MethodName) jdk_53_method_3_code (1 : Nat) (Option.some Jvm.ClassFile.FieldType.boolean), Jvm.Cond.code ({ cls := "java/util/ImmutableCollections$List12", name := "get", desc := "(I)Ljava/lang/Object;" } : Jvm.MethodName) jdk_44_method_5_code (2 : Nat) (Option.some (Jvm.ClassFile.FieldType.object "java/lang/Object")), Jvm.Cond.code ({ cls := "java/util/Objects", name := "equals", desc := "(Ljava/lang/Object;Ljava/lang/Object;)Z" } : Jvm.MethodName) jdk_31_method_2_code (2 : Nat) (Option.some Jvm.ClassFile.FieldType.boolean), Jvm.Cond.code ({ cls := "java/lang/Integer", name := "equals", desc := "(Ljava/lang/Object;)Z" } : Jvm.MethodName) jdk_33_method_34_code (2 : Nat) (Option.some Jvm.ClassFile.FieldType.boolean), Jvm.Cond.code ({ cls := "java/util/ArrayList", name := "checkForComodification", desc := "(I)V" } : Jvm.MethodName) jdk_38_method_35_code (2 : Nat) (Option.none : Option Jvm.ClassFile.FieldType), Jvm.Cond.code ({ cls := "com/example/hantei/hantei/packs/plandice/PlanDiceCheck$Resolution", name := "<init>", desc := "(ILcom/example/hantei/hantei/engine/Special;IZ)V" } : Jvm.MethodName) prog_70_method_1_code (5 : Nat) (Option.none : Option Jvm.ClassFile.FieldType), Jvm.Cond.code ({ cls := "com/example/hantei/hantei/packs/plandice/PlanDiceCheck$Resolution", name := "special", desc := "()Lcom/example/hantei/hantei/engine/Special;" } : Jvm.MethodName) prog_70_method_6_code (1 : Nat) (Option.some (Jvm.ClassFile.FieldType.object "com/example/hantei/hantei/engine/Special")), Jvm.Cond.code ({ cls := "java/lang/Integer", name := "<init>", desc := "(I)V" } : Jvm.MethodName) jdk_33_method_23_code (2 : Nat) (Option.none : Option Jvm.ClassFile.FieldType), Jvm.Cond.code ({ cls := "java/lang/Number", name := "<init>", desc := "()V" } : Jvm.MethodName) jdk_18_method_1_code (1 : Nat) (Option.none : Option Jvm.ClassFile.FieldType)]
set_option maxRecDepth 65536 in
theorem codes_eq : words1.filter isCode = codes1 := rfl
theorem w_codes : ∀ c ∈ words1.filter isCode, c.before args0 about1 = true := by
  rw [codes_eq]
  intro c hc
  simp only [codes1, List.mem_cons, List.not_mem_nil, or_false] at hc
  rcases hc with rfl | rfl | rfl | rfl | rfl | rfl | rfl | rfl | rfl | rfl | rfl | rfl | rfl | rfl | rfl | rfl | rfl | rfl | rfl | rfl | rfl | rfl | rfl | rfl | rfl | rfl | rfl | rfl | rfl | rfl | rfl | rfl | rfl | rfl | rfl | rfl | rfl | rfl | rfl
  · exact w_c0
  · exact w_c1
  · exact w_c2
  · exact w_c3
  · exact w_c4
  · exact w_c5
  · exact w_c6
  · exact w_c7
  · exact w_c8
  · exact w_c9
  · exact w_c10
  · exact w_c11
  · exact w_c12
  · exact w_c13
  · exact w_c14
  · exact w_c15
  · exact w_c16
  · exact w_c17
  · exact w_c18
  · exact w_c19
  · exact w_c20
  · exact w_c21
  · exact w_c22
  · exact w_c23
  · exact w_c24
  · exact w_c25
  · exact w_c26
  · exact w_c27
  · exact w_c28
  · exact w_c29
  · exact w_c30
  · exact w_c31
  · exact w_c32
  · exact w_c33
  · exact w_c34
  · exact w_c35
  · exact w_c36
  · exact w_c37
  · exact w_c38
set_option maxRecDepth 65536 in
theorem w_t1 : (words1.take 24).all (fun c => isCode c || c.before args0 about1) = true := by decide +kernel
set_option maxRecDepth 65536 in
theorem w_t2 : ((words1.drop 24).take 24).all (fun c => isCode c || c.before args0 about1) = true := by decide +kernel
set_option maxRecDepth 65536 in
theorem w_t3 : (((words1.drop 24).drop 24).take 24).all (fun c => isCode c || c.before args0 about1) = true := by decide +kernel
set_option maxRecDepth 65536 in
theorem w_t4 : ((((words1.drop 24).drop 24).drop 24).take 24).all (fun c => isCode c || c.before args0 about1) = true := by decide +kernel
set_option maxRecDepth 65536 in
theorem w_t5 : (((((words1.drop 24).drop 24).drop 24).drop 24).take 24).all (fun c => isCode c || c.before args0 about1) = true := by decide +kernel
set_option maxRecDepth 65536 in
theorem w_t6 : ((((((words1.drop 24).drop 24).drop 24).drop 24).drop 24).take 24).all (fun c => isCode c || c.before args0 about1) = true := by decide +kernel
set_option maxRecDepth 65536 in
theorem w_t7 : (((((((words1.drop 24).drop 24).drop 24).drop 24).drop 24).drop 24).take 24).all (fun c => isCode c || c.before args0 about1) = true := by decide +kernel
set_option maxRecDepth 65536 in
theorem w_t8 : ((((((((words1.drop 24).drop 24).drop 24).drop 24).drop 24).drop 24).drop 24).take 24).all (fun c => isCode c || c.before args0 about1) = true := by decide +kernel
set_option maxRecDepth 65536 in
theorem w_t9 : (((((((((words1.drop 24).drop 24).drop 24).drop 24).drop 24).drop 24).drop 24).drop 24).take 24).all (fun c => isCode c || c.before args0 about1) = true := by decide +kernel
set_option maxRecDepth 65536 in
theorem w_t10 : ((((((((((words1.drop 24).drop 24).drop 24).drop 24).drop 24).drop 24).drop 24).drop 24).drop 24).take 24).all (fun c => isCode c || c.before args0 about1) = true := by decide +kernel
set_option maxRecDepth 65536 in
theorem w_t11 : (((((((((((words1.drop 24).drop 24).drop 24).drop 24).drop 24).drop 24).drop 24).drop 24).drop 24).drop 24).take 24).all (fun c => isCode c || c.before args0 about1) = true := by decide +kernel
set_option maxRecDepth 65536 in
theorem w_t12 : (((((((((((words1.drop 24).drop 24).drop 24).drop 24).drop 24).drop 24).drop 24).drop 24).drop 24).drop 24).drop 24).all (fun c => isCode c || c.before args0 about1) = true := by decide +kernel
theorem w_tables : (allAtoms (Jvm.Cond.code x code maxLocals ret :: tables_1)).before args0 about1 = true := by
  rw [allAtoms_all]
  show words1.all (fun c => c.before args0 about1) = true
  refine all_split ?_ w_codes
  rw [← List.take_append_drop 24 words1, List.all_append, w_t1, ← List.take_append_drop 24 (words1.drop 24), List.all_append, w_t2, ← List.take_append_drop 24 ((words1.drop 24).drop 24), List.all_append, w_t3, ← List.take_append_drop 24 (((words1.drop 24).drop 24).drop 24), List.all_append, w_t4, ← List.take_append_drop 24 ((((words1.drop 24).drop 24).drop 24).drop 24), List.all_append, w_t5, ← List.take_append_drop 24 (((((words1.drop 24).drop 24).drop 24).drop 24).drop 24), List.all_append, w_t6, ← List.take_append_drop 24 ((((((words1.drop 24).drop 24).drop 24).drop 24).drop 24).drop 24), List.all_append, w_t7, ← List.take_append_drop 24 (((((((words1.drop 24).drop 24).drop 24).drop 24).drop 24).drop 24).drop 24), List.all_append, w_t8, ← List.take_append_drop 24 ((((((((words1.drop 24).drop 24).drop 24).drop 24).drop 24).drop 24).drop 24).drop 24), List.all_append, w_t9, ← List.take_append_drop 24 (((((((((words1.drop 24).drop 24).drop 24).drop 24).drop 24).drop 24).drop 24).drop 24).drop 24), List.all_append, w_t10, ← List.take_append_drop 24 ((((((((((words1.drop 24).drop 24).drop 24).drop 24).drop 24).drop 24).drop 24).drop 24).drop 24).drop 24), List.all_append, w_t11, w_t12]
  rfl
set_option maxRecDepth 65536 in
theorem w_rest : rest_1_c.before args0 about1 = true := by decide +kernel
set_option maxRecDepth 65536 in
theorem w_case : (Jvm.Cond.and given_1 narrow_1).before args0 about1 = true := by decide +kernel
theorem w_applies : (headSpec (Jvm.Cond.code x code maxLocals ret :: tables_1) room_1).applies x e0.platform about1 = true :=
  (Spec.applies_iff w_frames).mpr ⟨w_running, w_runnable, w_alone, w_named, w_hears, w_ripe, w_room, w_tables⟩
set_option maxRecDepth 65536 in
theorem w_m0 : MirrorMade about1 "java/util/ImmutableCollections$List12" := ⟨27, k27, 268, by decide +kernel, rfl, rfl, _, rfl, rfl⟩
set_option maxRecDepth 65536 in
theorem w_m1 : MirrorMade about1 "java/util/ArrayList" := ⟨13, k13, 269, by decide +kernel, rfl, rfl, _, rfl, rfl⟩
theorem atStart : AtStart classFile x code maxLocals ret World_1 tables_1 room_1 Calls_1 rest_1 Pre_1 launch0 p0 e0 about1 theMethod args0 below0 :=
  ⟨lists_1, trivial, launch0.admits_env _ _ _, launch0.least_env, fairChoices_fair.cas, fairChoices_fair.clock, w_frames, w_args, w_heap, w_applies, ⟨w_m0, w_m1, trivial⟩, w_rest, w_case⟩
end start1
theorem witness_1 : WitnessClaimed_1 := ⟨start1.p0, start1.e0, start1.about1, start1.theMethod, start1.args0, start1.below0, start1.atStart⟩
end Jvm.Pilot.@@N@@
