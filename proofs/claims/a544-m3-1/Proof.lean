import JvmDerived
import JvmDerived.Pilot.@@N@@Statement
import JvmDerived.Pilot.@@N@@Code
set_option linter.unusedVariables false
set_option linter.unusedSimpArgs false
namespace Jvm.RoadKit
open Sem ClassFile Op Lib Jvm.Stand Jvm.Free Jvm.LawKit
section New
variable {p : Program} {l : Launch} {e : Env} {R : Room} {s : State} {m : MethodId} {args : Array Value} {below : List Frame} {meth : Method} {c : Code} {T : State} {locs : List Loc} {cells slots : Nat}
theorem retI (X : Stand p l e R s m args below meth c T locs cells slots) (hx : p.tables.exec = Jvm.exec) {pc : Nat} {Ls : Array Slot} {z : Int32} {rest : List Value} (hret : meth.sig.returnType = some .int) (hd : decode c.code pc = .ok (.ireturn, 1)) {fs : List Frame}
    (hl : ∀ (f : JFrame) (acts : List Action), f.method = m → f.locked = none → f.entered = [] → (doReturn e (T.setTop f) acts (some (.int z))).1 = T.setFrames fs) : Steps p.tables e below (T.setTop (mkF m pc Ls (.int z :: rest))) (T.setFrames fs) := by
  have hm' : T.vm.method? m = some meth := X.method'
  have hn : narrow .int (.int z) = .int z := rfl
  show Steps p.tables e below (T.setTop { method := m, pc := pc, locals := Ls, stack := _ :: rest, locked := none }) _
  jvm_step X.here [X.here.top, hx, hd, hm', hret, hn]
  first | (intro acts; rw [hl _ acts rfl rfl rfl]) | rw [hl _ _ rfl rfl rfl]
  exact Steps.refl _
end New
end Jvm.RoadKit
namespace Jvm.Pilot.@@N@@
open Jvm Jvm.ClassFile Sem Op Lib Jvm.Free Jvm.Stand Jvm.LawKit Jvm.RoadKit Bundle Jvm.Pilot.@@N@@.Jvm.D
theorem own_selP {Z : State} {a0 : Array Value} {y : MethodName} {n : Nat} (wi : (Jvm.Cond.instantiable y.cls n).before a0 Z = true) (wp : (Jvm.Cond.privateMethod y).before a0 Z = true) (wn : (Jvm.Cond.instanceMethod y).before a0 Z = true) (hy : y.cls ≠ "java/lang/invoke/MethodHandle" ∧ y.cls ≠ "java/lang/invoke/VarHandle") : (Jvm.Cond.selects y.cls y y).before a0 Z = true := by
  obtain ⟨t, k, g1, g2, g3, g4, -⟩ := Cond.instantiable_spec wi
  have g5 : k.isInterface = false := by simp only [Bool.or_eq_false_iff] at g4; exact g4.1
  exact Jvm.Stand.selects_self_of_private g1 g2 g5 (Cond.privateMethod_at wp) wn hy
def own_mi (i j : Int32) : Int32 := if j < i then j else i
def own_h (i j : Int32) : Int32 := if i < j then 1 else 0
theorem d1_0 : decode jdk_29_method_69_code 0 = .ok (.iload_n 0, 1) := by decide +kernel
theorem d1_1 : decode jdk_29_method_69_code 1 = .ok (.iload_n 1, 1) := by decide +kernel
theorem d1_2 : decode jdk_29_method_69_code 2 = .ok (.if_icmp .gt 7, 3) := by decide +kernel
theorem d1_9 : decode jdk_29_method_69_code 9 = .ok (.iload_n 1, 1) := by decide +kernel
theorem d1_10 : decode jdk_29_method_69_code 10 = .ok (.ireturn, 1) := by decide +kernel
theorem d1_5 : decode jdk_29_method_69_code 5 = .ok (.iload_n 0, 1) := by decide +kernel
theorem d1_6 : decode jdk_29_method_69_code 6 = .ok (.goto 4, 3) := by decide +kernel
theorem ef_1 (m : MethodId) (x0 : Int32) (x1 : Int32) : entryFrame m #[(.int x0), (.int x1)] 2 = mkF m 0 #[.val (.int x0), .val (.int x1)] [] := by first | (simp [entryFrame, mkF, argsToLocals, Value.category]; done) | rfl
def Q1 (Z : State) (i : Int32) (j : Int32) (h0 : Heap) (n0 : Nat) (v : Option Value) (h : Heap) (L : List Loc) : Prop := v = some (.int (own_mi i j)) ∧ Fr n0 L ∧ h = h0
set_option maxRecDepth 65536 in
set_option maxHeartbeats 40000000 in
theorem rm1 (l : Launch) (Z : State) (a0 : Array Value) (hw : ∀ d ∈ tables_1, d.before a0 Z = true) (ws : List Jvm.Cond) (i : Int32) (j : Int32) (h0 : Heap) (n0 : Nat) (O0 : Old Z n0 h0) :
    MetFree l (⟨"java/lang/Math", "min", "(II)I"⟩ : MethodName) (head1 (Jvm.Cond.code (⟨"java/lang/Math", "min", "(II)I"⟩ : MethodName) jdk_29_method_69_code 2 (some .int) :: ws) ({ frames := 0, cells := 0, slots := 0, locals := 0 } : Room)) (fun aA uU => aA = #[(.int i), (.int j)] ∧ Z.Warmed39 uU.vm ∧ uU.heap = h0) (fun _ _ _ _ _ => True) (fun _ uU oO uU' => ∃ vV lL, oO = .returned vV ∧ Q1 Z i j  h0 n0 vV uU'.heap lL ∧ FrameEnd uU oO uU' lL ({ frames := 0, cells := 0, slots := 0, locals := 0 } : Room).cells ({ frames := 0, cells := 0, slots := 0, locals := 0 } : Room).slots) := by
  refine MetFree.of_bodySF (Jvm.Free.JP.mathPlain rfl (by decide +kernel)) hisR ?_
  intro p e s m args below meth c s₁ Bd hml0 hP hK
  obtain ⟨rfl, hZ, hh⟩ := hP
  have hx := Bd.exec
  have hby := Bd.bytes
  have hml : c.maxLocals = 2 := hml0
  have hown : s.vm.findClass "java/lang/Math" = some m.cls := findClass_of_methodNamed Bd.named
  have hnm := (name_of_methodNamed Bd.named Bd.method).1
  have X0 : Stand p l e ({ frames := 0, cells := 0, slots := 0, locals := 0 } : Room) s m #[(.int i), (.int j)] below meth c s₁ [] 0 0 := Stand.of_body Bd
  have e0 : s₁.heap = h0 := by rw [← hh, Bd.state]; rfl
  have N0 := Fr.nil n0
  have O := O0
  have pre0 : ∀ t, Steps p.tables e below (s₁.setTop (mkF m 0 #[.val (.int i), .val (.int j)] [])) t → Steps p.tables e below (s₁.setTop (entryFrame m #[(.int i), (.int j)] 2)) t := fun t k => castTop (ef_1 m i j) k
  have w1 : ∀ t, Steps p.tables e below (s₁.setTop (mkF m 2 #[.val (.int i), .val (.int j)] [(.int j), (.int i)])) t → Steps p.tables e below (s₁.setTop (entryFrame m #[(.int i), (.int j)] 2)) t := fun t k => by
    refine pre0 t ?_
    refine XS.iloadN X0.here hx rfl (hb hby d1_0) rfl ?_
    show Steps p.tables e below (s₁.setTop (mkF m 1 #[.val (.int i), .val (.int j)] [(.int i)])) _
    refine XS.iloadN X0.here hx rfl (hb hby d1_1) rfl ?_
    show Steps p.tables e below (s₁.setTop (mkF m 2 #[.val (.int i), .val (.int j)] [(.int j), (.int i)])) _
    exact k
  by_cases hc2_2 : j < i
  · have w3 : ∀ t, Steps p.tables e below (s₁.setTop (mkF m 10 #[.val (.int i), .val (.int j)] [(.int j)])) t → Steps p.tables e below (s₁.setTop (entryFrame m #[(.int i), (.int j)] 2)) t := fun t k => by
      refine w1 t ?_
      refine XS.icmpYes X0.here hx rfl (pc0 := 2) (pc' := 9) rfl (hb hby d1_2) rfl (tlt hc2_2).2.2.1 (by decide) (by decide) ?_
      show Steps p.tables e below (s₁.setTop (mkF m 9 #[.val (.int i), .val (.int j)] [])) _
      refine XS.iloadN X0.here hx rfl (hb hby d1_9) rfl ?_
      show Steps p.tables e below (s₁.setTop (mkF m 10 #[.val (.int i), .val (.int j)] [(.int j)])) _
      exact k
    obtain ⟨fs, hr, hrun, hended, hW, hsame⟩ := X0.leave (v := some (.int j)) (fun h => by rw [Bd.returns] at h; cases h)
    refine ⟨_, _, w3 _ ?_, hrun, hended, _, _, rfl, ?_, ⟨_, rfl⟩, hW, hsame.mono (by decide) (by decide)⟩
    · exact retI X0 hx Bd.returns (hb hby d1_10) hr
    · show Q1 Z i j  h0 n0 _ s₁.heap _
      rw [e0]
      exact ⟨(by simp [own_mi, hc2_2]), N0, rfl⟩
  · have w4 : ∀ t, Steps p.tables e below (s₁.setTop (mkF m 10 #[.val (.int i), .val (.int j)] [(.int i)])) t → Steps p.tables e below (s₁.setTop (entryFrame m #[(.int i), (.int j)] 2)) t := fun t k => by
      refine w1 t ?_
      refine XS.icmpNo X0.here hx rfl (hb hby d1_2) rfl (flt hc2_2).2.2.1 ?_
      show Steps p.tables e below (s₁.setTop (mkF m 5 #[.val (.int i), .val (.int j)] [])) _
      refine XS.iloadN X0.here hx rfl (hb hby d1_5) rfl ?_
      show Steps p.tables e below (s₁.setTop (mkF m 6 #[.val (.int i), .val (.int j)] [(.int i)])) _
      refine XS.goto X0.here hx rfl (pc0 := 6) (pc' := 10) rfl (hb hby d1_6) (by decide) (by decide) ?_
      show Steps p.tables e below (s₁.setTop (mkF m 10 #[.val (.int i), .val (.int j)] [(.int i)])) _
      exact k
    obtain ⟨fs, hr, hrun, hended, hW, hsame⟩ := X0.leave (v := some (.int i)) (fun h => by rw [Bd.returns] at h; cases h)
    refine ⟨_, _, w4 _ ?_, hrun, hended, _, _, rfl, ?_, ⟨_, rfl⟩, hW, hsame.mono (by decide) (by decide)⟩
    · exact retI X0 hx Bd.returns (hb hby d1_10) hr
    · show Q1 Z i j  h0 n0 _ s₁.heap _
      rw [e0]
      exact ⟨(by simp [own_mi, hc2_2]), N0, rfl⟩
theorem ef_1_a (m : MethodId) (x0 : Int32) (x1 : Int32) : entryFrame m #[(.int x0), (.int x1)] 2 = mkF m 0 #[.val (.int x0), .val (.int x1)] [] := by first | (simp [entryFrame, mkF, argsToLocals, Value.category]; done) | rfl
def Q1_a (Z : State) (i : Int32) (j : Int32) (h0 : Heap) (n0 : Nat) (v : Option Value) (h : Heap) (L : List Loc) : Prop := v = some (.int i) ∧ Fr n0 L ∧ h = h0
set_option maxRecDepth 65536 in
set_option maxHeartbeats 40000000 in
theorem rm1_a (l : Launch) (Z : State) (a0 : Array Value) (hw : ∀ d ∈ tables_1, d.before a0 Z = true) (ws : List Jvm.Cond) (i : Int32) (j : Int32) (h0 : Heap) (n0 : Nat) (O0 : Old Z n0 h0) (hc : ¬ j < i) :
    MetFree l (⟨"java/lang/Math", "min", "(II)I"⟩ : MethodName) (head1 (Jvm.Cond.code (⟨"java/lang/Math", "min", "(II)I"⟩ : MethodName) jdk_29_method_69_code 2 (some .int) :: ws) ({ frames := 0, cells := 0, slots := 0, locals := 0 } : Room)) (fun aA uU => aA = #[(.int i), (.int j)] ∧ Z.Warmed39 uU.vm ∧ uU.heap = h0) (fun _ _ _ _ _ => True) (fun _ uU oO uU' => ∃ vV lL, oO = .returned vV ∧ Q1_a Z i j  h0 n0 vV uU'.heap lL ∧ FrameEnd uU oO uU' lL ({ frames := 0, cells := 0, slots := 0, locals := 0 } : Room).cells ({ frames := 0, cells := 0, slots := 0, locals := 0 } : Room).slots) := by
  refine MetFree.of_bodySF (Jvm.Free.JP.mathPlain rfl (by decide +kernel)) hisR ?_
  intro p e s m args below meth c s₁ Bd hml0 hP hK
  obtain ⟨rfl, hZ, hh⟩ := hP
  have hx := Bd.exec
  have hby := Bd.bytes
  have hml : c.maxLocals = 2 := hml0
  have hown : s.vm.findClass "java/lang/Math" = some m.cls := findClass_of_methodNamed Bd.named
  have hnm := (name_of_methodNamed Bd.named Bd.method).1
  have X0 : Stand p l e ({ frames := 0, cells := 0, slots := 0, locals := 0 } : Room) s m #[(.int i), (.int j)] below meth c s₁ [] 0 0 := Stand.of_body Bd
  have e0 : s₁.heap = h0 := by rw [← hh, Bd.state]; rfl
  have N0 := Fr.nil n0
  have O := O0
  have pre0 : ∀ t, Steps p.tables e below (s₁.setTop (mkF m 0 #[.val (.int i), .val (.int j)] [])) t → Steps p.tables e below (s₁.setTop (entryFrame m #[(.int i), (.int j)] 2)) t := fun t k => castTop (ef_1_a m i j) k
  have w1 : ∀ t, Steps p.tables e below (s₁.setTop (mkF m 10 #[.val (.int i), .val (.int j)] [(.int i)])) t → Steps p.tables e below (s₁.setTop (entryFrame m #[(.int i), (.int j)] 2)) t := fun t k => by
    refine pre0 t ?_
    refine XS.iloadN X0.here hx rfl (hb hby d1_0) rfl ?_
    show Steps p.tables e below (s₁.setTop (mkF m 1 #[.val (.int i), .val (.int j)] [(.int i)])) _
    refine XS.iloadN X0.here hx rfl (hb hby d1_1) rfl ?_
    show Steps p.tables e below (s₁.setTop (mkF m 2 #[.val (.int i), .val (.int j)] [(.int j), (.int i)])) _
    refine XS.icmpNo X0.here hx rfl (hb hby d1_2) rfl (flt (hc : ¬ (j < i))).2.2.1 ?_
    show Steps p.tables e below (s₁.setTop (mkF m 5 #[.val (.int i), .val (.int j)] [])) _
    refine XS.iloadN X0.here hx rfl (hb hby d1_5) rfl ?_
    show Steps p.tables e below (s₁.setTop (mkF m 6 #[.val (.int i), .val (.int j)] [(.int i)])) _
    refine XS.goto X0.here hx rfl (pc0 := 6) (pc' := 10) rfl (hb hby d1_6) (by decide) (by decide) ?_
    show Steps p.tables e below (s₁.setTop (mkF m 10 #[.val (.int i), .val (.int j)] [(.int i)])) _
    exact k
  obtain ⟨fs, hr, hrun, hended, hW, hsame⟩ := X0.leave (v := some (.int i)) (fun h => by rw [Bd.returns] at h; cases h)
  refine ⟨_, _, w1 _ ?_, hrun, hended, _, _, rfl, ?_, ⟨_, rfl⟩, hW, hsame.mono (by decide) (by decide)⟩
  · exact retI X0 hx Bd.returns (hb hby d1_10) hr
  · show Q1_a Z i j  h0 n0 _ s₁.heap _
    rw [e0]
    exact ⟨rfl, N0, rfl⟩
theorem ef_1_b (m : MethodId) (x0 : Int32) (x1 : Int32) : entryFrame m #[(.int x0), (.int x1)] 2 = mkF m 0 #[.val (.int x0), .val (.int x1)] [] := by first | (simp [entryFrame, mkF, argsToLocals, Value.category]; done) | rfl
def Q1_b (Z : State) (i : Int32) (j : Int32) (h0 : Heap) (n0 : Nat) (v : Option Value) (h : Heap) (L : List Loc) : Prop := v = some (.int j) ∧ Fr n0 L ∧ h = h0
set_option maxRecDepth 65536 in
set_option maxHeartbeats 40000000 in
theorem rm1_b (l : Launch) (Z : State) (a0 : Array Value) (hw : ∀ d ∈ tables_1, d.before a0 Z = true) (ws : List Jvm.Cond) (i : Int32) (j : Int32) (h0 : Heap) (n0 : Nat) (O0 : Old Z n0 h0) (hc : j < i) :
    MetFree l (⟨"java/lang/Math", "min", "(II)I"⟩ : MethodName) (head1 (Jvm.Cond.code (⟨"java/lang/Math", "min", "(II)I"⟩ : MethodName) jdk_29_method_69_code 2 (some .int) :: ws) ({ frames := 0, cells := 0, slots := 0, locals := 0 } : Room)) (fun aA uU => aA = #[(.int i), (.int j)] ∧ Z.Warmed39 uU.vm ∧ uU.heap = h0) (fun _ _ _ _ _ => True) (fun _ uU oO uU' => ∃ vV lL, oO = .returned vV ∧ Q1_b Z i j  h0 n0 vV uU'.heap lL ∧ FrameEnd uU oO uU' lL ({ frames := 0, cells := 0, slots := 0, locals := 0 } : Room).cells ({ frames := 0, cells := 0, slots := 0, locals := 0 } : Room).slots) := by
  refine MetFree.of_bodySF (Jvm.Free.JP.mathPlain rfl (by decide +kernel)) hisR ?_
  intro p e s m args below meth c s₁ Bd hml0 hP hK
  obtain ⟨rfl, hZ, hh⟩ := hP
  have hx := Bd.exec
  have hby := Bd.bytes
  have hml : c.maxLocals = 2 := hml0
  have hown : s.vm.findClass "java/lang/Math" = some m.cls := findClass_of_methodNamed Bd.named
  have hnm := (name_of_methodNamed Bd.named Bd.method).1
  have X0 : Stand p l e ({ frames := 0, cells := 0, slots := 0, locals := 0 } : Room) s m #[(.int i), (.int j)] below meth c s₁ [] 0 0 := Stand.of_body Bd
  have e0 : s₁.heap = h0 := by rw [← hh, Bd.state]; rfl
  have N0 := Fr.nil n0
  have O := O0
  have pre0 : ∀ t, Steps p.tables e below (s₁.setTop (mkF m 0 #[.val (.int i), .val (.int j)] [])) t → Steps p.tables e below (s₁.setTop (entryFrame m #[(.int i), (.int j)] 2)) t := fun t k => castTop (ef_1_b m i j) k
  have w1 : ∀ t, Steps p.tables e below (s₁.setTop (mkF m 10 #[.val (.int i), .val (.int j)] [(.int j)])) t → Steps p.tables e below (s₁.setTop (entryFrame m #[(.int i), (.int j)] 2)) t := fun t k => by
    refine pre0 t ?_
    refine XS.iloadN X0.here hx rfl (hb hby d1_0) rfl ?_
    show Steps p.tables e below (s₁.setTop (mkF m 1 #[.val (.int i), .val (.int j)] [(.int i)])) _
    refine XS.iloadN X0.here hx rfl (hb hby d1_1) rfl ?_
    show Steps p.tables e below (s₁.setTop (mkF m 2 #[.val (.int i), .val (.int j)] [(.int j), (.int i)])) _
    refine XS.icmpYes X0.here hx rfl (pc0 := 2) (pc' := 9) rfl (hb hby d1_2) rfl (tlt (hc : j < i)).2.2.1 (by decide) (by decide) ?_
    show Steps p.tables e below (s₁.setTop (mkF m 9 #[.val (.int i), .val (.int j)] [])) _
    refine XS.iloadN X0.here hx rfl (hb hby d1_9) rfl ?_
    show Steps p.tables e below (s₁.setTop (mkF m 10 #[.val (.int i), .val (.int j)] [(.int j)])) _
    exact k
  obtain ⟨fs, hr, hrun, hended, hW, hsame⟩ := X0.leave (v := some (.int j)) (fun h => by rw [Bd.returns] at h; cases h)
  refine ⟨_, _, w1 _ ?_, hrun, hended, _, _, rfl, ?_, ⟨_, rfl⟩, hW, hsame.mono (by decide) (by decide)⟩
  · exact retI X0 hx Bd.returns (hb hby d1_10) hr
  · show Q1_b Z i j  h0 n0 _ s₁.heap _
    rw [e0]
    exact ⟨rfl, N0, rfl⟩
theorem d5_0 : decode jdk_29_method_70_code 0 = .ok (.lload_n 0, 1) := by decide +kernel
theorem d5_1 : decode jdk_29_method_70_code 1 = .ok (.lload_n 2, 1) := by decide +kernel
theorem d5_2 : decode jdk_29_method_70_code 2 = .ok (.lcmp, 1) := by decide +kernel
theorem d5_3 : decode jdk_29_method_70_code 3 = .ok (.ifCond .gt 7, 3) := by decide +kernel
theorem d5_6 : decode jdk_29_method_70_code 6 = .ok (.lload_n 0, 1) := by decide +kernel
theorem d5_7 : decode jdk_29_method_70_code 7 = .ok (.goto 4, 3) := by decide +kernel
theorem d5_11 : decode jdk_29_method_70_code 11 = .ok (.lreturn, 1) := by decide +kernel
theorem ef_5_a (m : MethodId) (x0 : Int64) (x1 : Int64) : entryFrame m #[(.long x0), (.long x1)] 4 = mkF m 0 #[.val (.long x0), .second, .val (.long x1), .second] [] := by first | (simp [entryFrame, mkF, argsToLocals, Value.category]; done) | rfl
def Q5_a (Z : State) (q : Int64) (r : Int64) (h0 : Heap) (n0 : Nat) (v : Option Value) (h : Heap) (L : List Loc) : Prop := v = some (.long q) ∧ Fr n0 L ∧ h = h0
set_option maxRecDepth 65536 in
set_option maxHeartbeats 40000000 in
theorem rm5_a (l : Launch) (Z : State) (a0 : Array Value) (hw : ∀ d ∈ tables_1, d.before a0 Z = true) (ws : List Jvm.Cond) (q : Int64) (r : Int64) (h0 : Heap) (n0 : Nat) (O0 : Old Z n0 h0) (hc : ¬ (0 : Int32) < (lcmpW q r)) :
    MetFree l (⟨"java/lang/Math", "min", "(JJ)J"⟩ : MethodName) (head1 (Jvm.Cond.code (⟨"java/lang/Math", "min", "(JJ)J"⟩ : MethodName) jdk_29_method_70_code 4 (some .long) :: ws) ({ frames := 0, cells := 0, slots := 0, locals := 0 } : Room)) (fun aA uU => aA = #[(.long q), (.long r)] ∧ Z.Warmed39 uU.vm ∧ uU.heap = h0) (fun _ _ _ _ _ => True) (fun _ uU oO uU' => ∃ vV lL, oO = .returned vV ∧ Q5_a Z q r  h0 n0 vV uU'.heap lL ∧ FrameEnd uU oO uU' lL ({ frames := 0, cells := 0, slots := 0, locals := 0 } : Room).cells ({ frames := 0, cells := 0, slots := 0, locals := 0 } : Room).slots) := by
  refine MetFree.of_bodySF (Jvm.Free.JP.mathPlain rfl (by decide +kernel)) hisR ?_
  intro p e s m args below meth c s₁ Bd hml0 hP hK
  obtain ⟨rfl, hZ, hh⟩ := hP
  have hx := Bd.exec
  have hby := Bd.bytes
  have hml : c.maxLocals = 4 := hml0
  have hown : s.vm.findClass "java/lang/Math" = some m.cls := findClass_of_methodNamed Bd.named
  have hnm := (name_of_methodNamed Bd.named Bd.method).1
  have X0 : Stand p l e ({ frames := 0, cells := 0, slots := 0, locals := 0 } : Room) s m #[(.long q), (.long r)] below meth c s₁ [] 0 0 := Stand.of_body Bd
  have e0 : s₁.heap = h0 := by rw [← hh, Bd.state]; rfl
  have N0 := Fr.nil n0
  have O := O0
  have pre0 : ∀ t, Steps p.tables e below (s₁.setTop (mkF m 0 #[.val (.long q), .second, .val (.long r), .second] [])) t → Steps p.tables e below (s₁.setTop (entryFrame m #[(.long q), (.long r)] 4)) t := fun t k => castTop (ef_5_a m q r) k
  have w1 : ∀ t, Steps p.tables e below (s₁.setTop (mkF m 11 #[.val (.long q), .second, .val (.long r), .second] [(.long q)])) t → Steps p.tables e below (s₁.setTop (entryFrame m #[(.long q), (.long r)] 4)) t := fun t k => by
    refine pre0 t ?_
    refine XS.lloadN X0.here hx rfl (hb hby d5_0) rfl ?_
    show Steps p.tables e below (s₁.setTop (mkF m 1 #[.val (.long q), .second, .val (.long r), .second] [(.long q)])) _
    refine XS.lloadN X0.here hx rfl (hb hby d5_1) rfl ?_
    show Steps p.tables e below (s₁.setTop (mkF m 2 #[.val (.long q), .second, .val (.long r), .second] [(.long r), (.long q)])) _
    refine XS.lcmp X0.here hx rfl (hb hby d5_2) rfl ?_
    show Steps p.tables e below (s₁.setTop (mkF m 3 #[.val (.long q), .second, .val (.long r), .second] [(.int (lcmpW q r))])) _
    refine XS.ifNo X0.here hx rfl (hb hby d5_3) rfl ((if0 _ _).trans (flt (hc : ¬ ((0 : Int32) < (lcmpW q r)))).2.2.1) ?_
    show Steps p.tables e below (s₁.setTop (mkF m 6 #[.val (.long q), .second, .val (.long r), .second] [])) _
    refine XS.lloadN X0.here hx rfl (hb hby d5_6) rfl ?_
    show Steps p.tables e below (s₁.setTop (mkF m 7 #[.val (.long q), .second, .val (.long r), .second] [(.long q)])) _
    refine XS.goto X0.here hx rfl (pc0 := 7) (pc' := 11) rfl (hb hby d5_7) (by decide) (by decide) ?_
    show Steps p.tables e below (s₁.setTop (mkF m 11 #[.val (.long q), .second, .val (.long r), .second] [(.long q)])) _
    exact k
  obtain ⟨fs, hr, hrun, hended, hW, hsame⟩ := X0.leave (v := some (.long q)) (fun h => by rw [Bd.returns] at h; cases h)
  refine ⟨_, _, w1 _ ?_, hrun, hended, _, _, rfl, ?_, ⟨_, rfl⟩, hW, hsame.mono (by decide) (by decide)⟩
  · exact X0.lreturnOut hx Bd.returns (hb hby d5_11) hr
  · show Q5_a Z q r  h0 n0 _ s₁.heap _
    rw [e0]
    exact ⟨rfl, N0, rfl⟩
theorem d5_10 : decode jdk_29_method_70_code 10 = .ok (.lload_n 2, 1) := by decide +kernel
theorem ef_5_b (m : MethodId) (x0 : Int64) (x1 : Int64) : entryFrame m #[(.long x0), (.long x1)] 4 = mkF m 0 #[.val (.long x0), .second, .val (.long x1), .second] [] := by first | (simp [entryFrame, mkF, argsToLocals, Value.category]; done) | rfl
def Q5_b (Z : State) (q : Int64) (r : Int64) (h0 : Heap) (n0 : Nat) (v : Option Value) (h : Heap) (L : List Loc) : Prop := v = some (.long r) ∧ Fr n0 L ∧ h = h0
set_option maxRecDepth 65536 in
set_option maxHeartbeats 40000000 in
theorem rm5_b (l : Launch) (Z : State) (a0 : Array Value) (hw : ∀ d ∈ tables_1, d.before a0 Z = true) (ws : List Jvm.Cond) (q : Int64) (r : Int64) (h0 : Heap) (n0 : Nat) (O0 : Old Z n0 h0) (hc : (0 : Int32) < (lcmpW q r)) :
    MetFree l (⟨"java/lang/Math", "min", "(JJ)J"⟩ : MethodName) (head1 (Jvm.Cond.code (⟨"java/lang/Math", "min", "(JJ)J"⟩ : MethodName) jdk_29_method_70_code 4 (some .long) :: ws) ({ frames := 0, cells := 0, slots := 0, locals := 0 } : Room)) (fun aA uU => aA = #[(.long q), (.long r)] ∧ Z.Warmed39 uU.vm ∧ uU.heap = h0) (fun _ _ _ _ _ => True) (fun _ uU oO uU' => ∃ vV lL, oO = .returned vV ∧ Q5_b Z q r  h0 n0 vV uU'.heap lL ∧ FrameEnd uU oO uU' lL ({ frames := 0, cells := 0, slots := 0, locals := 0 } : Room).cells ({ frames := 0, cells := 0, slots := 0, locals := 0 } : Room).slots) := by
  refine MetFree.of_bodySF (Jvm.Free.JP.mathPlain rfl (by decide +kernel)) hisR ?_
  intro p e s m args below meth c s₁ Bd hml0 hP hK
  obtain ⟨rfl, hZ, hh⟩ := hP
  have hx := Bd.exec
  have hby := Bd.bytes
  have hml : c.maxLocals = 4 := hml0
  have hown : s.vm.findClass "java/lang/Math" = some m.cls := findClass_of_methodNamed Bd.named
  have hnm := (name_of_methodNamed Bd.named Bd.method).1
  have X0 : Stand p l e ({ frames := 0, cells := 0, slots := 0, locals := 0 } : Room) s m #[(.long q), (.long r)] below meth c s₁ [] 0 0 := Stand.of_body Bd
  have e0 : s₁.heap = h0 := by rw [← hh, Bd.state]; rfl
  have N0 := Fr.nil n0
  have O := O0
  have pre0 : ∀ t, Steps p.tables e below (s₁.setTop (mkF m 0 #[.val (.long q), .second, .val (.long r), .second] [])) t → Steps p.tables e below (s₁.setTop (entryFrame m #[(.long q), (.long r)] 4)) t := fun t k => castTop (ef_5_b m q r) k
  have w1 : ∀ t, Steps p.tables e below (s₁.setTop (mkF m 11 #[.val (.long q), .second, .val (.long r), .second] [(.long r)])) t → Steps p.tables e below (s₁.setTop (entryFrame m #[(.long q), (.long r)] 4)) t := fun t k => by
    refine pre0 t ?_
    refine XS.lloadN X0.here hx rfl (hb hby d5_0) rfl ?_
    show Steps p.tables e below (s₁.setTop (mkF m 1 #[.val (.long q), .second, .val (.long r), .second] [(.long q)])) _
    refine XS.lloadN X0.here hx rfl (hb hby d5_1) rfl ?_
    show Steps p.tables e below (s₁.setTop (mkF m 2 #[.val (.long q), .second, .val (.long r), .second] [(.long r), (.long q)])) _
    refine XS.lcmp X0.here hx rfl (hb hby d5_2) rfl ?_
    show Steps p.tables e below (s₁.setTop (mkF m 3 #[.val (.long q), .second, .val (.long r), .second] [(.int (lcmpW q r))])) _
    refine XS.ifYes X0.here hx rfl (pc0 := 3) (pc' := 10) rfl (hb hby d5_3) rfl ((if0 _ _).trans (tlt (hc : (0 : Int32) < (lcmpW q r))).2.2.1) (by decide) (by decide) ?_
    show Steps p.tables e below (s₁.setTop (mkF m 10 #[.val (.long q), .second, .val (.long r), .second] [])) _
    refine XS.lloadN X0.here hx rfl (hb hby d5_10) rfl ?_
    show Steps p.tables e below (s₁.setTop (mkF m 11 #[.val (.long q), .second, .val (.long r), .second] [(.long r)])) _
    exact k
  obtain ⟨fs, hr, hrun, hended, hW, hsame⟩ := X0.leave (v := some (.long r)) (fun h => by rw [Bd.returns] at h; cases h)
  refine ⟨_, _, w1 _ ?_, hrun, hended, _, _, rfl, ?_, ⟨_, rfl⟩, hW, hsame.mono (by decide) (by decide)⟩
  · exact X0.lreturnOut hx Bd.returns (hb hby d5_11) hr
  · show Q5_b Z q r  h0 n0 _ s₁.heap _
    rw [e0]
    exact ⟨rfl, N0, rfl⟩
theorem d6_0 : decode jdk_29_method_61_code 0 = .ok (.lload_n 0, 1) := by decide +kernel
theorem d6_1 : decode jdk_29_method_61_code 1 = .ok (.lconst 0, 1) := by decide +kernel
theorem d6_2 : decode jdk_29_method_61_code 2 = .ok (.lcmp, 1) := by decide +kernel
theorem d6_3 : decode jdk_29_method_61_code 3 = .ok (.ifCond .ge 8, 3) := by decide +kernel
theorem d6_11 : decode jdk_29_method_61_code 11 = .ok (.lload_n 0, 1) := by decide +kernel
theorem d6_12 : decode jdk_29_method_61_code 12 = .ok (.lreturn, 1) := by decide +kernel
theorem ef_6_a (m : MethodId) (x0 : Int64) : entryFrame m #[(.long x0)] 2 = mkF m 0 #[.val (.long x0), .second] [] := by first | (simp [entryFrame, mkF, argsToLocals, Value.category]; done) | rfl
def Q6_a (Z : State) (q : Int64) (h0 : Heap) (n0 : Nat) (v : Option Value) (h : Heap) (L : List Loc) : Prop := v = some (.long q) ∧ Fr n0 L ∧ h = h0
set_option maxRecDepth 65536 in
set_option maxHeartbeats 40000000 in
theorem rm6_a (l : Launch) (Z : State) (a0 : Array Value) (hw : ∀ d ∈ tables_1, d.before a0 Z = true) (ws : List Jvm.Cond) (q : Int64) (h0 : Heap) (n0 : Nat) (O0 : Old Z n0 h0) (hc : ¬ (lcmpW q (0 : Int64)) < (0 : Int32)) :
    MetFree l (⟨"java/lang/Math", "abs", "(J)J"⟩ : MethodName) (head1 (Jvm.Cond.code (⟨"java/lang/Math", "abs", "(J)J"⟩ : MethodName) jdk_29_method_61_code 2 (some .long) :: ws) ({ frames := 0, cells := 0, slots := 0, locals := 0 } : Room)) (fun aA uU => aA = #[(.long q)] ∧ Z.Warmed39 uU.vm ∧ uU.heap = h0) (fun _ _ _ _ _ => True) (fun _ uU oO uU' => ∃ vV lL, oO = .returned vV ∧ Q6_a Z q  h0 n0 vV uU'.heap lL ∧ FrameEnd uU oO uU' lL ({ frames := 0, cells := 0, slots := 0, locals := 0 } : Room).cells ({ frames := 0, cells := 0, slots := 0, locals := 0 } : Room).slots) := by
  refine MetFree.of_bodySF (Jvm.Free.JP.mathPlain rfl (by decide +kernel)) hisR ?_
  intro p e s m args below meth c s₁ Bd hml0 hP hK
  obtain ⟨rfl, hZ, hh⟩ := hP
  have hx := Bd.exec
  have hby := Bd.bytes
  have hml : c.maxLocals = 2 := hml0
  have hown : s.vm.findClass "java/lang/Math" = some m.cls := findClass_of_methodNamed Bd.named
  have hnm := (name_of_methodNamed Bd.named Bd.method).1
  have X0 : Stand p l e ({ frames := 0, cells := 0, slots := 0, locals := 0 } : Room) s m #[(.long q)] below meth c s₁ [] 0 0 := Stand.of_body Bd
  have e0 : s₁.heap = h0 := by rw [← hh, Bd.state]; rfl
  have N0 := Fr.nil n0
  have O := O0
  have pre0 : ∀ t, Steps p.tables e below (s₁.setTop (mkF m 0 #[.val (.long q), .second] [])) t → Steps p.tables e below (s₁.setTop (entryFrame m #[(.long q)] 2)) t := fun t k => castTop (ef_6_a m q) k
  have w1 : ∀ t, Steps p.tables e below (s₁.setTop (mkF m 12 #[.val (.long q), .second] [(.long q)])) t → Steps p.tables e below (s₁.setTop (entryFrame m #[(.long q)] 2)) t := fun t k => by
    refine pre0 t ?_
    refine XS.lloadN X0.here hx rfl (hb hby d6_0) rfl ?_
    show Steps p.tables e below (s₁.setTop (mkF m 1 #[.val (.long q), .second] [(.long q)])) _
    refine XS.lconst X0.here hx rfl (hb hby d6_1) ?_
    show Steps p.tables e below (s₁.setTop (mkF m 2 #[.val (.long q), .second] [(.long (0 : Int64)), (.long q)])) _
    refine XS.lcmp X0.here hx rfl (hb hby d6_2) rfl ?_
    show Steps p.tables e below (s₁.setTop (mkF m 3 #[.val (.long q), .second] [(.int (lcmpW q (0 : Int64)))])) _
    refine XS.ifYes X0.here hx rfl (pc0 := 3) (pc' := 11) rfl (hb hby d6_3) rfl ((if0 _ _).trans (flt (hc : ¬ ((lcmpW q (0 : Int64)) < (0 : Int32)))).2.1) (by decide) (by decide) ?_
    show Steps p.tables e below (s₁.setTop (mkF m 11 #[.val (.long q), .second] [])) _
    refine XS.lloadN X0.here hx rfl (hb hby d6_11) rfl ?_
    show Steps p.tables e below (s₁.setTop (mkF m 12 #[.val (.long q), .second] [(.long q)])) _
    exact k
  obtain ⟨fs, hr, hrun, hended, hW, hsame⟩ := X0.leave (v := some (.long q)) (fun h => by rw [Bd.returns] at h; cases h)
  refine ⟨_, _, w1 _ ?_, hrun, hended, _, _, rfl, ?_, ⟨_, rfl⟩, hW, hsame.mono (by decide) (by decide)⟩
  · exact X0.lreturnOut hx Bd.returns (hb hby d6_12) hr
  · show Q6_a Z q  h0 n0 _ s₁.heap _
    rw [e0]
    exact ⟨rfl, N0, rfl⟩
theorem d6_6 : decode jdk_29_method_61_code 6 = .ok (.lload_n 0, 1) := by decide +kernel
theorem d6_7 : decode jdk_29_method_61_code 7 = .ok (.lneg, 1) := by decide +kernel
theorem d6_8 : decode jdk_29_method_61_code 8 = .ok (.goto 4, 3) := by decide +kernel
theorem ef_6_b (m : MethodId) (x0 : Int64) : entryFrame m #[(.long x0)] 2 = mkF m 0 #[.val (.long x0), .second] [] := by first | (simp [entryFrame, mkF, argsToLocals, Value.category]; done) | rfl
def Q6_b (Z : State) (q : Int64) (h0 : Heap) (n0 : Nat) (v : Option Value) (h : Heap) (L : List Loc) : Prop := v = some (.long (-q)) ∧ Fr n0 L ∧ h = h0
set_option maxRecDepth 65536 in
set_option maxHeartbeats 40000000 in
theorem rm6_b (l : Launch) (Z : State) (a0 : Array Value) (hw : ∀ d ∈ tables_1, d.before a0 Z = true) (ws : List Jvm.Cond) (q : Int64) (h0 : Heap) (n0 : Nat) (O0 : Old Z n0 h0) (hc : (lcmpW q (0 : Int64)) < (0 : Int32)) :
    MetFree l (⟨"java/lang/Math", "abs", "(J)J"⟩ : MethodName) (head1 (Jvm.Cond.code (⟨"java/lang/Math", "abs", "(J)J"⟩ : MethodName) jdk_29_method_61_code 2 (some .long) :: ws) ({ frames := 0, cells := 0, slots := 0, locals := 0 } : Room)) (fun aA uU => aA = #[(.long q)] ∧ Z.Warmed39 uU.vm ∧ uU.heap = h0) (fun _ _ _ _ _ => True) (fun _ uU oO uU' => ∃ vV lL, oO = .returned vV ∧ Q6_b Z q  h0 n0 vV uU'.heap lL ∧ FrameEnd uU oO uU' lL ({ frames := 0, cells := 0, slots := 0, locals := 0 } : Room).cells ({ frames := 0, cells := 0, slots := 0, locals := 0 } : Room).slots) := by
  refine MetFree.of_bodySF (Jvm.Free.JP.mathPlain rfl (by decide +kernel)) hisR ?_
  intro p e s m args below meth c s₁ Bd hml0 hP hK
  obtain ⟨rfl, hZ, hh⟩ := hP
  have hx := Bd.exec
  have hby := Bd.bytes
  have hml : c.maxLocals = 2 := hml0
  have hown : s.vm.findClass "java/lang/Math" = some m.cls := findClass_of_methodNamed Bd.named
  have hnm := (name_of_methodNamed Bd.named Bd.method).1
  have X0 : Stand p l e ({ frames := 0, cells := 0, slots := 0, locals := 0 } : Room) s m #[(.long q)] below meth c s₁ [] 0 0 := Stand.of_body Bd
  have e0 : s₁.heap = h0 := by rw [← hh, Bd.state]; rfl
  have N0 := Fr.nil n0
  have O := O0
  have pre0 : ∀ t, Steps p.tables e below (s₁.setTop (mkF m 0 #[.val (.long q), .second] [])) t → Steps p.tables e below (s₁.setTop (entryFrame m #[(.long q)] 2)) t := fun t k => castTop (ef_6_b m q) k
  have w1 : ∀ t, Steps p.tables e below (s₁.setTop (mkF m 12 #[.val (.long q), .second] [(.long (-q))])) t → Steps p.tables e below (s₁.setTop (entryFrame m #[(.long q)] 2)) t := fun t k => by
    refine pre0 t ?_
    refine XS.lloadN X0.here hx rfl (hb hby d6_0) rfl ?_
    show Steps p.tables e below (s₁.setTop (mkF m 1 #[.val (.long q), .second] [(.long q)])) _
    refine XS.lconst X0.here hx rfl (hb hby d6_1) ?_
    show Steps p.tables e below (s₁.setTop (mkF m 2 #[.val (.long q), .second] [(.long (0 : Int64)), (.long q)])) _
    refine XS.lcmp X0.here hx rfl (hb hby d6_2) rfl ?_
    show Steps p.tables e below (s₁.setTop (mkF m 3 #[.val (.long q), .second] [(.int (lcmpW q (0 : Int64)))])) _
    refine XS.ifNo X0.here hx rfl (hb hby d6_3) rfl ((if0 _ _).trans (tlt (hc : (lcmpW q (0 : Int64)) < (0 : Int32))).2.1) ?_
    show Steps p.tables e below (s₁.setTop (mkF m 6 #[.val (.long q), .second] [])) _
    refine XS.lloadN X0.here hx rfl (hb hby d6_6) rfl ?_
    show Steps p.tables e below (s₁.setTop (mkF m 7 #[.val (.long q), .second] [(.long q)])) _
    refine XS.lneg X0.here hx rfl (hb hby d6_7) rfl ?_
    show Steps p.tables e below (s₁.setTop (mkF m 8 #[.val (.long q), .second] [(.long (-q))])) _
    refine XS.goto X0.here hx rfl (pc0 := 8) (pc' := 12) rfl (hb hby d6_8) (by decide) (by decide) ?_
    show Steps p.tables e below (s₁.setTop (mkF m 12 #[.val (.long q), .second] [(.long (-q))])) _
    exact k
  obtain ⟨fs, hr, hrun, hended, hW, hsame⟩ := X0.leave (v := some (.long (-q))) (fun h => by rw [Bd.returns] at h; cases h)
  refine ⟨_, _, w1 _ ?_, hrun, hended, _, _, rfl, ?_, ⟨_, rfl⟩, hW, hsame.mono (by decide) (by decide)⟩
  · exact X0.lreturnOut hx Bd.returns (hb hby d6_12) hr
  · show Q6_b Z q  h0 n0 _ s₁.heap _
    rw [e0]
    exact ⟨rfl, N0, rfl⟩
theorem d2_0 : decode prog_61_method_1_code 0 = .ok (.aload_n 0, 1) := by decide +kernel
theorem d2_1 : decode prog_61_method_1_code 1 = .ok (.invokespecial 1, 3) := by decide +kernel
theorem d2_4 : decode prog_61_method_1_code 4 = .ok (.aload_n 0, 1) := by decide +kernel
theorem d2_5 : decode prog_61_method_1_code 5 = .ok (.ldc2_w 9, 3) := by decide +kernel
theorem d2_8 : decode prog_61_method_1_code 8 = .ok (.putfield 11, 3) := by decide +kernel
theorem d2_11 : decode prog_61_method_1_code 11 = .ok (.aload_n 0, 1) := by decide +kernel
theorem d2_12 : decode prog_61_method_1_code 12 = .ok (.ldc2_w 17, 3) := by decide +kernel
theorem d2_15 : decode prog_61_method_1_code 15 = .ok (.putfield 19, 3) := by decide +kernel
theorem d2_18 : decode prog_61_method_1_code 18 = .ok (.aload_n 0, 1) := by decide +kernel
theorem d2_19 : decode prog_61_method_1_code 19 = .ok (.ldc2_w 24, 3) := by decide +kernel
theorem d2_22 : decode prog_61_method_1_code 22 = .ok (.putfield 26, 3) := by decide +kernel
theorem d2_25 : decode prog_61_method_1_code 25 = .ok (.aload_n 0, 1) := by decide +kernel
theorem d2_26 : decode prog_61_method_1_code 26 = .ok (.ldc2_w 29, 3) := by decide +kernel
theorem d2_29 : decode prog_61_method_1_code 29 = .ok (.putfield 31, 3) := by decide +kernel
theorem d2_32 : decode prog_61_method_1_code 32 = .ok (.aload_n 0, 1) := by decide +kernel
theorem d2_33 : decode prog_61_method_1_code 33 = .ok (.ldc2_w 37, 3) := by decide +kernel
theorem d2_36 : decode prog_61_method_1_code 36 = .ok (.putfield 39, 3) := by decide +kernel
theorem d2_39 : decode prog_61_method_1_code 39 = .ok (.aload_n 0, 1) := by decide +kernel
theorem d2_40 : decode prog_61_method_1_code 40 = .ok (.iconst 4, 1) := by decide +kernel
theorem d2_41 : decode prog_61_method_1_code 41 = .ok (.newarray .long, 2) := by decide +kernel
theorem d2_43 : decode prog_61_method_1_code 43 = .ok (.putfield 42, 3) := by decide +kernel
theorem d2_46 : decode prog_61_method_1_code 46 = .ok (.return_, 1) := by decide +kernel
theorem pn_com_example_hashmesh_hashmesh_mesh_Congestion : plainName "com/example/hashmesh/hashmesh/mesh/Congestion" = true := by first | (simp [plainName, overriddenIn]; done) | decide +kernel
theorem ef_2 (m : MethodId) (x0 : Addr) : entryFrame m #[(.ref x0)] 1 = mkF m 0 #[.val (.ref x0)] [] := by first | (simp [entryFrame, mkF, argsToLocals, Value.category]; done) | rfl
def Q2 (Z : State) (a : Addr) (h0 : Heap) (n0 : Nat) (v : Option Value) (h : Heap) (L : List Loc) : Prop := ∃ t1 : Addr, ∃ kt : ClassId, v = none ∧ Fr n0 L ∧ Keep h0 h [a] ∧ Fld Z h a "com/example/hashmesh/hashmesh/mesh/Congestion" "window" "D" (.double (4621819117588971520 : UInt64)) ∧ Fld Z h a "com/example/hashmesh/hashmesh/mesh/Congestion" "threshold" "D" (.double (4634204016564240384 : UInt64)) ∧ Fld Z h a "com/example/hashmesh/hashmesh/mesh/Congestion" "paceAt" "D" (.double (18442240474082181120 : UInt64)) ∧ Fld Z h a "com/example/hashmesh/hashmesh/mesh/Congestion" "smoothedRtt" "J" (.long (-1 : Int64)) ∧ Fld Z h a "com/example/hashmesh/hashmesh/mesh/Congestion" "leastRtt" "J" (.long (9223372036854775807 : Int64)) ∧ Fld Z h a "com/example/hashmesh/hashmesh/mesh/Congestion" "latestRtts" "[J" (.ref t1) ∧ Fld Z h a "com/example/hashmesh/hashmesh/mesh/Congestion" "nextLatest" "I" (.int (0 : Int32)) ∧ Fld Z h a "com/example/hashmesh/hashmesh/mesh/Congestion" "latestCount" "I" (.int (0 : Int32)) ∧ Fld Z h a "com/example/hashmesh/hashmesh/mesh/Congestion" "rttVariation" "J" (.long (0 : Int64)) ∧ Fld Z h a "com/example/hashmesh/hashmesh/mesh/Congestion" "onTheWay" "I" (.int (0 : Int32)) ∧ Fld Z h a "com/example/hashmesh/hashmesh/mesh/Congestion" "sent" "J" (.long (0 : Int64)) ∧ Fld Z h a "com/example/hashmesh/hashmesh/mesh/Congestion" "shrunkAfter" "J" (.long (0 : Int64)) ∧ Arv Z h t1 kt .long (4 : Int32) [(.long (0 : Int64)), (.long (0 : Int64)), (.long (0 : Int64)), (.long (0 : Int64))] (.long (0 : Int64)) ∧ h0.size ≤ t1 ∧ n0 ≤ t1
set_option maxRecDepth 65536 in
set_option maxHeartbeats 40000000 in
theorem rm2 (l : Launch) (Z : State) (a0 : Array Value) (hw : ∀ d ∈ tables_1, d.before a0 Z = true) (ws : List Jvm.Cond) (a : Addr) (h0 : Heap) (n0 : Nat) (O0 : Old Z n0 h0) (E_a : Exa Z h0 a "com/example/hashmesh/hashmesh/mesh/Congestion") (F_window_a : Fld Z h0 a "com/example/hashmesh/hashmesh/mesh/Congestion" "window" "D" (.double (0 : UInt64))) (F_threshold_a : Fld Z h0 a "com/example/hashmesh/hashmesh/mesh/Congestion" "threshold" "D" (.double (0 : UInt64))) (F_paceAt_a : Fld Z h0 a "com/example/hashmesh/hashmesh/mesh/Congestion" "paceAt" "D" (.double (0 : UInt64))) (F_smoothedRtt_a : Fld Z h0 a "com/example/hashmesh/hashmesh/mesh/Congestion" "smoothedRtt" "J" (.long (0 : Int64))) (F_leastRtt_a : Fld Z h0 a "com/example/hashmesh/hashmesh/mesh/Congestion" "leastRtt" "J" (.long (0 : Int64))) (F_latestRtts_a : Fld Z h0 a "com/example/hashmesh/hashmesh/mesh/Congestion" "latestRtts" "[J" .null) (F_nextLatest_a : Fld Z h0 a "com/example/hashmesh/hashmesh/mesh/Congestion" "nextLatest" "I" (.int (0 : Int32))) (F_latestCount_a : Fld Z h0 a "com/example/hashmesh/hashmesh/mesh/Congestion" "latestCount" "I" (.int (0 : Int32))) (F_rttVariation_a : Fld Z h0 a "com/example/hashmesh/hashmesh/mesh/Congestion" "rttVariation" "J" (.long (0 : Int64))) (F_onTheWay_a : Fld Z h0 a "com/example/hashmesh/hashmesh/mesh/Congestion" "onTheWay" "I" (.int (0 : Int32))) (F_sent_a : Fld Z h0 a "com/example/hashmesh/hashmesh/mesh/Congestion" "sent" "J" (.long (0 : Int64))) (F_shrunkAfter_a : Fld Z h0 a "com/example/hashmesh/hashmesh/mesh/Congestion" "shrunkAfter" "J" (.long (0 : Int64))) (g_a : n0 ≤ a) :
    MetFree l (⟨"com/example/hashmesh/hashmesh/mesh/Congestion", "<init>", "()V"⟩ : MethodName) (head1 (Jvm.Cond.code (⟨"com/example/hashmesh/hashmesh/mesh/Congestion", "<init>", "()V"⟩ : MethodName) prog_61_method_1_code 1 none :: ws) ({ frames := 1, cells := 1, slots := 4, locals := 12 } : Room)) (fun aA uU => aA = #[(.ref a)] ∧ Z.Warmed39 uU.vm ∧ uU.heap = h0) (fun _ _ _ _ _ => True) (fun _ uU oO uU' => ∃ vV lL, oO = .returned vV ∧ Q2 Z a  h0 n0 vV uU'.heap lL ∧ FrameEnd uU oO uU' lL ({ frames := 1, cells := 1, slots := 4, locals := 12 } : Room).cells ({ frames := 1, cells := 1, slots := 4, locals := 12 } : Room).slots) := by
  refine MetFree.of_bodySF (plainFor_of_name pn_com_example_hashmesh_hashmesh_mesh_Congestion) hisR ?_
  intro p e s m args below meth c s₁ Bd hml0 hP hK
  obtain ⟨rfl, hZ, hh⟩ := hP
  have hx := Bd.exec
  have hby := Bd.bytes
  have hml : c.maxLocals = 1 := hml0
  have hown : s.vm.findClass "com/example/hashmesh/hashmesh/mesh/Congestion" = some m.cls := findClass_of_methodNamed Bd.named
  have hnm := (name_of_methodNamed Bd.named Bd.method).1
  have X0 : Stand p l e ({ frames := 1, cells := 1, slots := 4, locals := 12 } : Room) s m #[(.ref a)] below meth c s₁ [] 0 0 := Stand.of_body Bd
  have e0 : s₁.heap = h0 := by rw [← hh, Bd.state]; rfl
  have N0 := Fr.nil n0
  have O := O0
  have K := Keep.refl h0 [a]
  have pre0 : ∀ t, Steps p.tables e below (s₁.setTop (mkF m 0 #[.val (.ref a)] [])) t → Steps p.tables e below (s₁.setTop (entryFrame m #[(.ref a)] 1)) t := fun t k => castTop (ef_2 m a) k
  obtain ⟨T1, X1, e1, st1⟩ := initO X0 hx hZ hown (hw _ (List.mem_of_getElem? (i := 10) rfl)) (hw _ (List.mem_of_getElem? (i := 11) rfl)) (hw _ (List.mem_of_getElem? (i := 12) rfl)) e0 (g := (mkF m 1 #[.val (.ref a)] [(.ref a)])) rfl (by rw [hml]; rfl) rfl (hb hby d2_1) (by decide) (W := 0) (by show 2 * 0 + _ ≤ _; exact Nat.le_of_eq rfl) (by decide)
  obtain ⟨T2, h2, X2, e2, W2, st2⟩ := putF X1 hx hZ hown (host := "") (Or.inl (hw _ (List.mem_of_getElem? (i := 14) rfl))) Via.refl e1 F_window_a E_a (Or.inl (hw _ (List.mem_of_getElem? (i := 15) rfl))) (hw _ (List.mem_of_getElem? (i := 5) rfl)) (ty := .double) (by decide) rfl rfl (g := (mkF m 8 #[.val (.ref a)] [(.double (4621819117588971520 : UInt64)), (.ref a)])) rfl rfl (hb hby d2_8)
  have F_window_a := F_window_a.same W2
  have E_a := E_a.wr W2
  have F_threshold_a := F_threshold_a.other W2 (Or.inr (slot_ne (Or.inl (hw _ (List.mem_of_getElem? (i := 18) rfl))) (Or.inl (hw _ (List.mem_of_getElem? (i := 15) rfl))) (by decide) (t := .double) (t' := .double) (by decide) (by decide)))
  have F_paceAt_a := F_paceAt_a.other W2 (Or.inr (slot_ne (Or.inl (hw _ (List.mem_of_getElem? (i := 21) rfl))) (Or.inl (hw _ (List.mem_of_getElem? (i := 15) rfl))) (by decide) (t := .double) (t' := .double) (by decide) (by decide)))
  have F_smoothedRtt_a := F_smoothedRtt_a.other W2 (Or.inr (slot_ne (Or.inl (hw _ (List.mem_of_getElem? (i := 24) rfl))) (Or.inl (hw _ (List.mem_of_getElem? (i := 15) rfl))) (by decide) (t := .long) (t' := .double) (by decide) (by decide)))
  have F_leastRtt_a := F_leastRtt_a.other W2 (Or.inr (slot_ne (Or.inl (hw _ (List.mem_of_getElem? (i := 27) rfl))) (Or.inl (hw _ (List.mem_of_getElem? (i := 15) rfl))) (by decide) (t := .long) (t' := .double) (by decide) (by decide)))
  have F_latestRtts_a := F_latestRtts_a.other W2 (Or.inr (slot_ne (Or.inr (hw _ (List.mem_of_getElem? (i := 30) rfl))) (Or.inl (hw _ (List.mem_of_getElem? (i := 15) rfl))) (by decide) (t := (.array .long)) (t' := .double) (by decide) (by decide)))
  have F_nextLatest_a := F_nextLatest_a.other W2 (Or.inr (slot_ne (Or.inl (hw _ (List.mem_of_getElem? (i := 40) rfl))) (Or.inl (hw _ (List.mem_of_getElem? (i := 15) rfl))) (by decide) (t := .int) (t' := .double) (by decide) (by decide)))
  have F_latestCount_a := F_latestCount_a.other W2 (Or.inr (slot_ne (Or.inl (hw _ (List.mem_of_getElem? (i := 42) rfl))) (Or.inl (hw _ (List.mem_of_getElem? (i := 15) rfl))) (by decide) (t := .int) (t' := .double) (by decide) (by decide)))
  have F_rttVariation_a := F_rttVariation_a.other W2 (Or.inr (slot_ne (Or.inl (hw _ (List.mem_of_getElem? (i := 46) rfl))) (Or.inl (hw _ (List.mem_of_getElem? (i := 15) rfl))) (by decide) (t := .long) (t' := .double) (by decide) (by decide)))
  have F_onTheWay_a := F_onTheWay_a.other W2 (Or.inr (slot_ne (Or.inl (hw _ (List.mem_of_getElem? (i := 79) rfl))) (Or.inl (hw _ (List.mem_of_getElem? (i := 15) rfl))) (by decide) (t := .int) (t' := .double) (by decide) (by decide)))
  have F_sent_a := F_sent_a.other W2 (Or.inr (slot_ne (Or.inl (hw _ (List.mem_of_getElem? (i := 70) rfl))) (Or.inl (hw _ (List.mem_of_getElem? (i := 15) rfl))) (by decide) (t := .long) (t' := .double) (by decide) (by decide)))
  have F_shrunkAfter_a := F_shrunkAfter_a.other W2 (Or.inr (slot_ne (Or.inl (hw _ (List.mem_of_getElem? (i := 72) rfl))) (Or.inl (hw _ (List.mem_of_getElem? (i := 15) rfl))) (by decide) (t := .long) (t' := .double) (by decide) (by decide)))
  have O := O.wr W2 g_a
  have K := K.wr W2 (Or.inl (List.mem_of_getElem? (i := 0) rfl))
  have N2 := Fr.snoc X2 N0 g_a
  obtain ⟨T3, h3, X3, e3, W3, st3⟩ := putF X2 hx hZ hown (host := "") (Or.inl (hw _ (List.mem_of_getElem? (i := 17) rfl))) Via.refl e2 F_threshold_a E_a (Or.inl (hw _ (List.mem_of_getElem? (i := 18) rfl))) (hw _ (List.mem_of_getElem? (i := 5) rfl)) (ty := .double) (by decide) rfl rfl (g := (mkF m 15 #[.val (.ref a)] [(.double (4634204016564240384 : UInt64)), (.ref a)])) rfl rfl (hb hby d2_15)
  have F_threshold_a := F_threshold_a.same W3
  have E_a := E_a.wr W3
  have F_window_a := F_window_a.other W3 (Or.inr (slot_ne (Or.inl (hw _ (List.mem_of_getElem? (i := 15) rfl))) (Or.inl (hw _ (List.mem_of_getElem? (i := 18) rfl))) (by decide) (t := .double) (t' := .double) (by decide) (by decide)))
  have F_paceAt_a := F_paceAt_a.other W3 (Or.inr (slot_ne (Or.inl (hw _ (List.mem_of_getElem? (i := 21) rfl))) (Or.inl (hw _ (List.mem_of_getElem? (i := 18) rfl))) (by decide) (t := .double) (t' := .double) (by decide) (by decide)))
  have F_smoothedRtt_a := F_smoothedRtt_a.other W3 (Or.inr (slot_ne (Or.inl (hw _ (List.mem_of_getElem? (i := 24) rfl))) (Or.inl (hw _ (List.mem_of_getElem? (i := 18) rfl))) (by decide) (t := .long) (t' := .double) (by decide) (by decide)))
  have F_leastRtt_a := F_leastRtt_a.other W3 (Or.inr (slot_ne (Or.inl (hw _ (List.mem_of_getElem? (i := 27) rfl))) (Or.inl (hw _ (List.mem_of_getElem? (i := 18) rfl))) (by decide) (t := .long) (t' := .double) (by decide) (by decide)))
  have F_latestRtts_a := F_latestRtts_a.other W3 (Or.inr (slot_ne (Or.inr (hw _ (List.mem_of_getElem? (i := 30) rfl))) (Or.inl (hw _ (List.mem_of_getElem? (i := 18) rfl))) (by decide) (t := (.array .long)) (t' := .double) (by decide) (by decide)))
  have F_nextLatest_a := F_nextLatest_a.other W3 (Or.inr (slot_ne (Or.inl (hw _ (List.mem_of_getElem? (i := 40) rfl))) (Or.inl (hw _ (List.mem_of_getElem? (i := 18) rfl))) (by decide) (t := .int) (t' := .double) (by decide) (by decide)))
  have F_latestCount_a := F_latestCount_a.other W3 (Or.inr (slot_ne (Or.inl (hw _ (List.mem_of_getElem? (i := 42) rfl))) (Or.inl (hw _ (List.mem_of_getElem? (i := 18) rfl))) (by decide) (t := .int) (t' := .double) (by decide) (by decide)))
  have F_rttVariation_a := F_rttVariation_a.other W3 (Or.inr (slot_ne (Or.inl (hw _ (List.mem_of_getElem? (i := 46) rfl))) (Or.inl (hw _ (List.mem_of_getElem? (i := 18) rfl))) (by decide) (t := .long) (t' := .double) (by decide) (by decide)))
  have F_onTheWay_a := F_onTheWay_a.other W3 (Or.inr (slot_ne (Or.inl (hw _ (List.mem_of_getElem? (i := 79) rfl))) (Or.inl (hw _ (List.mem_of_getElem? (i := 18) rfl))) (by decide) (t := .int) (t' := .double) (by decide) (by decide)))
  have F_sent_a := F_sent_a.other W3 (Or.inr (slot_ne (Or.inl (hw _ (List.mem_of_getElem? (i := 70) rfl))) (Or.inl (hw _ (List.mem_of_getElem? (i := 18) rfl))) (by decide) (t := .long) (t' := .double) (by decide) (by decide)))
  have F_shrunkAfter_a := F_shrunkAfter_a.other W3 (Or.inr (slot_ne (Or.inl (hw _ (List.mem_of_getElem? (i := 72) rfl))) (Or.inl (hw _ (List.mem_of_getElem? (i := 18) rfl))) (by decide) (t := .long) (t' := .double) (by decide) (by decide)))
  have O := O.wr W3 g_a
  have K := K.wr W3 (Or.inl (List.mem_of_getElem? (i := 0) rfl))
  have N3 := Fr.snoc X3 N2 g_a
  obtain ⟨T4, h4, X4, e4, W4, st4⟩ := putF X3 hx hZ hown (host := "") (Or.inl (hw _ (List.mem_of_getElem? (i := 20) rfl))) Via.refl e3 F_paceAt_a E_a (Or.inl (hw _ (List.mem_of_getElem? (i := 21) rfl))) (hw _ (List.mem_of_getElem? (i := 5) rfl)) (ty := .double) (by decide) rfl rfl (g := (mkF m 22 #[.val (.ref a)] [(.double (18442240474082181120 : UInt64)), (.ref a)])) rfl rfl (hb hby d2_22)
  have F_paceAt_a := F_paceAt_a.same W4
  have E_a := E_a.wr W4
  have F_window_a := F_window_a.other W4 (Or.inr (slot_ne (Or.inl (hw _ (List.mem_of_getElem? (i := 15) rfl))) (Or.inl (hw _ (List.mem_of_getElem? (i := 21) rfl))) (by decide) (t := .double) (t' := .double) (by decide) (by decide)))
  have F_threshold_a := F_threshold_a.other W4 (Or.inr (slot_ne (Or.inl (hw _ (List.mem_of_getElem? (i := 18) rfl))) (Or.inl (hw _ (List.mem_of_getElem? (i := 21) rfl))) (by decide) (t := .double) (t' := .double) (by decide) (by decide)))
  have F_smoothedRtt_a := F_smoothedRtt_a.other W4 (Or.inr (slot_ne (Or.inl (hw _ (List.mem_of_getElem? (i := 24) rfl))) (Or.inl (hw _ (List.mem_of_getElem? (i := 21) rfl))) (by decide) (t := .long) (t' := .double) (by decide) (by decide)))
  have F_leastRtt_a := F_leastRtt_a.other W4 (Or.inr (slot_ne (Or.inl (hw _ (List.mem_of_getElem? (i := 27) rfl))) (Or.inl (hw _ (List.mem_of_getElem? (i := 21) rfl))) (by decide) (t := .long) (t' := .double) (by decide) (by decide)))
  have F_latestRtts_a := F_latestRtts_a.other W4 (Or.inr (slot_ne (Or.inr (hw _ (List.mem_of_getElem? (i := 30) rfl))) (Or.inl (hw _ (List.mem_of_getElem? (i := 21) rfl))) (by decide) (t := (.array .long)) (t' := .double) (by decide) (by decide)))
  have F_nextLatest_a := F_nextLatest_a.other W4 (Or.inr (slot_ne (Or.inl (hw _ (List.mem_of_getElem? (i := 40) rfl))) (Or.inl (hw _ (List.mem_of_getElem? (i := 21) rfl))) (by decide) (t := .int) (t' := .double) (by decide) (by decide)))
  have F_latestCount_a := F_latestCount_a.other W4 (Or.inr (slot_ne (Or.inl (hw _ (List.mem_of_getElem? (i := 42) rfl))) (Or.inl (hw _ (List.mem_of_getElem? (i := 21) rfl))) (by decide) (t := .int) (t' := .double) (by decide) (by decide)))
  have F_rttVariation_a := F_rttVariation_a.other W4 (Or.inr (slot_ne (Or.inl (hw _ (List.mem_of_getElem? (i := 46) rfl))) (Or.inl (hw _ (List.mem_of_getElem? (i := 21) rfl))) (by decide) (t := .long) (t' := .double) (by decide) (by decide)))
  have F_onTheWay_a := F_onTheWay_a.other W4 (Or.inr (slot_ne (Or.inl (hw _ (List.mem_of_getElem? (i := 79) rfl))) (Or.inl (hw _ (List.mem_of_getElem? (i := 21) rfl))) (by decide) (t := .int) (t' := .double) (by decide) (by decide)))
  have F_sent_a := F_sent_a.other W4 (Or.inr (slot_ne (Or.inl (hw _ (List.mem_of_getElem? (i := 70) rfl))) (Or.inl (hw _ (List.mem_of_getElem? (i := 21) rfl))) (by decide) (t := .long) (t' := .double) (by decide) (by decide)))
  have F_shrunkAfter_a := F_shrunkAfter_a.other W4 (Or.inr (slot_ne (Or.inl (hw _ (List.mem_of_getElem? (i := 72) rfl))) (Or.inl (hw _ (List.mem_of_getElem? (i := 21) rfl))) (by decide) (t := .long) (t' := .double) (by decide) (by decide)))
  have O := O.wr W4 g_a
  have K := K.wr W4 (Or.inl (List.mem_of_getElem? (i := 0) rfl))
  have N4 := Fr.snoc X4 N3 g_a
  obtain ⟨T5, h5, X5, e5, W5, st5⟩ := putF X4 hx hZ hown (host := "") (Or.inl (hw _ (List.mem_of_getElem? (i := 23) rfl))) Via.refl e4 F_smoothedRtt_a E_a (Or.inl (hw _ (List.mem_of_getElem? (i := 24) rfl))) (hw _ (List.mem_of_getElem? (i := 5) rfl)) (ty := .long) (by decide) rfl rfl (g := (mkF m 29 #[.val (.ref a)] [(.long (-1 : Int64)), (.ref a)])) rfl rfl (hb hby d2_29)
  have F_smoothedRtt_a := F_smoothedRtt_a.same W5
  have E_a := E_a.wr W5
  have F_window_a := F_window_a.other W5 (Or.inr (slot_ne (Or.inl (hw _ (List.mem_of_getElem? (i := 15) rfl))) (Or.inl (hw _ (List.mem_of_getElem? (i := 24) rfl))) (by decide) (t := .double) (t' := .long) (by decide) (by decide)))
  have F_threshold_a := F_threshold_a.other W5 (Or.inr (slot_ne (Or.inl (hw _ (List.mem_of_getElem? (i := 18) rfl))) (Or.inl (hw _ (List.mem_of_getElem? (i := 24) rfl))) (by decide) (t := .double) (t' := .long) (by decide) (by decide)))
  have F_paceAt_a := F_paceAt_a.other W5 (Or.inr (slot_ne (Or.inl (hw _ (List.mem_of_getElem? (i := 21) rfl))) (Or.inl (hw _ (List.mem_of_getElem? (i := 24) rfl))) (by decide) (t := .double) (t' := .long) (by decide) (by decide)))
  have F_leastRtt_a := F_leastRtt_a.other W5 (Or.inr (slot_ne (Or.inl (hw _ (List.mem_of_getElem? (i := 27) rfl))) (Or.inl (hw _ (List.mem_of_getElem? (i := 24) rfl))) (by decide) (t := .long) (t' := .long) (by decide) (by decide)))
  have F_latestRtts_a := F_latestRtts_a.other W5 (Or.inr (slot_ne (Or.inr (hw _ (List.mem_of_getElem? (i := 30) rfl))) (Or.inl (hw _ (List.mem_of_getElem? (i := 24) rfl))) (by decide) (t := (.array .long)) (t' := .long) (by decide) (by decide)))
  have F_nextLatest_a := F_nextLatest_a.other W5 (Or.inr (slot_ne (Or.inl (hw _ (List.mem_of_getElem? (i := 40) rfl))) (Or.inl (hw _ (List.mem_of_getElem? (i := 24) rfl))) (by decide) (t := .int) (t' := .long) (by decide) (by decide)))
  have F_latestCount_a := F_latestCount_a.other W5 (Or.inr (slot_ne (Or.inl (hw _ (List.mem_of_getElem? (i := 42) rfl))) (Or.inl (hw _ (List.mem_of_getElem? (i := 24) rfl))) (by decide) (t := .int) (t' := .long) (by decide) (by decide)))
  have F_rttVariation_a := F_rttVariation_a.other W5 (Or.inr (slot_ne (Or.inl (hw _ (List.mem_of_getElem? (i := 46) rfl))) (Or.inl (hw _ (List.mem_of_getElem? (i := 24) rfl))) (by decide) (t := .long) (t' := .long) (by decide) (by decide)))
  have F_onTheWay_a := F_onTheWay_a.other W5 (Or.inr (slot_ne (Or.inl (hw _ (List.mem_of_getElem? (i := 79) rfl))) (Or.inl (hw _ (List.mem_of_getElem? (i := 24) rfl))) (by decide) (t := .int) (t' := .long) (by decide) (by decide)))
  have F_sent_a := F_sent_a.other W5 (Or.inr (slot_ne (Or.inl (hw _ (List.mem_of_getElem? (i := 70) rfl))) (Or.inl (hw _ (List.mem_of_getElem? (i := 24) rfl))) (by decide) (t := .long) (t' := .long) (by decide) (by decide)))
  have F_shrunkAfter_a := F_shrunkAfter_a.other W5 (Or.inr (slot_ne (Or.inl (hw _ (List.mem_of_getElem? (i := 72) rfl))) (Or.inl (hw _ (List.mem_of_getElem? (i := 24) rfl))) (by decide) (t := .long) (t' := .long) (by decide) (by decide)))
  have O := O.wr W5 g_a
  have K := K.wr W5 (Or.inl (List.mem_of_getElem? (i := 0) rfl))
  have N5 := Fr.snoc X5 N4 g_a
  obtain ⟨T6, h6, X6, e6, W6, st6⟩ := putF X5 hx hZ hown (host := "") (Or.inl (hw _ (List.mem_of_getElem? (i := 26) rfl))) Via.refl e5 F_leastRtt_a E_a (Or.inl (hw _ (List.mem_of_getElem? (i := 27) rfl))) (hw _ (List.mem_of_getElem? (i := 5) rfl)) (ty := .long) (by decide) rfl rfl (g := (mkF m 36 #[.val (.ref a)] [(.long (9223372036854775807 : Int64)), (.ref a)])) rfl rfl (hb hby d2_36)
  have F_leastRtt_a := F_leastRtt_a.same W6
  have E_a := E_a.wr W6
  have F_window_a := F_window_a.other W6 (Or.inr (slot_ne (Or.inl (hw _ (List.mem_of_getElem? (i := 15) rfl))) (Or.inl (hw _ (List.mem_of_getElem? (i := 27) rfl))) (by decide) (t := .double) (t' := .long) (by decide) (by decide)))
  have F_threshold_a := F_threshold_a.other W6 (Or.inr (slot_ne (Or.inl (hw _ (List.mem_of_getElem? (i := 18) rfl))) (Or.inl (hw _ (List.mem_of_getElem? (i := 27) rfl))) (by decide) (t := .double) (t' := .long) (by decide) (by decide)))
  have F_paceAt_a := F_paceAt_a.other W6 (Or.inr (slot_ne (Or.inl (hw _ (List.mem_of_getElem? (i := 21) rfl))) (Or.inl (hw _ (List.mem_of_getElem? (i := 27) rfl))) (by decide) (t := .double) (t' := .long) (by decide) (by decide)))
  have F_smoothedRtt_a := F_smoothedRtt_a.other W6 (Or.inr (slot_ne (Or.inl (hw _ (List.mem_of_getElem? (i := 24) rfl))) (Or.inl (hw _ (List.mem_of_getElem? (i := 27) rfl))) (by decide) (t := .long) (t' := .long) (by decide) (by decide)))
  have F_latestRtts_a := F_latestRtts_a.other W6 (Or.inr (slot_ne (Or.inr (hw _ (List.mem_of_getElem? (i := 30) rfl))) (Or.inl (hw _ (List.mem_of_getElem? (i := 27) rfl))) (by decide) (t := (.array .long)) (t' := .long) (by decide) (by decide)))
  have F_nextLatest_a := F_nextLatest_a.other W6 (Or.inr (slot_ne (Or.inl (hw _ (List.mem_of_getElem? (i := 40) rfl))) (Or.inl (hw _ (List.mem_of_getElem? (i := 27) rfl))) (by decide) (t := .int) (t' := .long) (by decide) (by decide)))
  have F_latestCount_a := F_latestCount_a.other W6 (Or.inr (slot_ne (Or.inl (hw _ (List.mem_of_getElem? (i := 42) rfl))) (Or.inl (hw _ (List.mem_of_getElem? (i := 27) rfl))) (by decide) (t := .int) (t' := .long) (by decide) (by decide)))
  have F_rttVariation_a := F_rttVariation_a.other W6 (Or.inr (slot_ne (Or.inl (hw _ (List.mem_of_getElem? (i := 46) rfl))) (Or.inl (hw _ (List.mem_of_getElem? (i := 27) rfl))) (by decide) (t := .long) (t' := .long) (by decide) (by decide)))
  have F_onTheWay_a := F_onTheWay_a.other W6 (Or.inr (slot_ne (Or.inl (hw _ (List.mem_of_getElem? (i := 79) rfl))) (Or.inl (hw _ (List.mem_of_getElem? (i := 27) rfl))) (by decide) (t := .int) (t' := .long) (by decide) (by decide)))
  have F_sent_a := F_sent_a.other W6 (Or.inr (slot_ne (Or.inl (hw _ (List.mem_of_getElem? (i := 70) rfl))) (Or.inl (hw _ (List.mem_of_getElem? (i := 27) rfl))) (by decide) (t := .long) (t' := .long) (by decide) (by decide)))
  have F_shrunkAfter_a := F_shrunkAfter_a.other W6 (Or.inr (slot_ne (Or.inl (hw _ (List.mem_of_getElem? (i := 72) rfl))) (Or.inl (hw _ (List.mem_of_getElem? (i := 27) rfl))) (by decide) (t := .long) (t' := .long) (by decide) (by decide)))
  have O := O.wr W6 g_a
  have K := K.wr W6 (Or.inl (List.mem_of_getElem? (i := 0) rfl))
  have N6 := Fr.snoc X6 N5 g_a
  obtain ⟨T7, h7, k7, X7, e7, E7, A7, st7⟩ := newP X6 hx hZ (hw _ (List.mem_of_getElem? (i := 28) rfl)) e6 (g := (mkF m 41 #[.val (.ref a)] [(.int (4 : Int32)), (.ref a)])) rfl (hb hby d2_41) rfl (by decide) (cap := 4) (by decide) (by decide) (by decide) (by decide)
  obtain ⟨b7, gq7⟩ : ∃ z, z = Array.size h6 := ⟨_, rfl⟩
  rw [← gq7] at A7 st7
  have ne_a_b7 : a ≠ b7 := Nat.ne_of_lt (Nat.lt_of_lt_of_le E_a.lt (Nat.le_of_eq gq7.symm))
  have g_b7 : n0 ≤ b7 := Nat.le_trans (O.1 ▸ O.2.1) (Nat.le_of_eq gq7.symm)
  have z_b7 : h0.size ≤ b7 := Nat.le_trans K.1 (Nat.le_of_eq gq7.symm)
  have E_a := E_a.ext E7
  have F_window_a := F_window_a.ext E7
  have F_threshold_a := F_threshold_a.ext E7
  have F_paceAt_a := F_paceAt_a.ext E7
  have F_smoothedRtt_a := F_smoothedRtt_a.ext E7
  have F_leastRtt_a := F_leastRtt_a.ext E7
  have F_latestRtts_a := F_latestRtts_a.ext E7
  have F_nextLatest_a := F_nextLatest_a.ext E7
  have F_latestCount_a := F_latestCount_a.ext E7
  have F_rttVariation_a := F_rttVariation_a.ext E7
  have F_onTheWay_a := F_onTheWay_a.ext E7
  have F_sent_a := F_sent_a.ext E7
  have F_shrunkAfter_a := F_shrunkAfter_a.ext E7
  have O := O.ext E7
  have K := K.ext E7
  have V_b7 : Arv Z h7 b7 k7 .long (4 : Int32) [(.long (0 : Int64)), (.long (0 : Int64)), (.long (0 : Int64)), (.long (0 : Int64))] (.long (0 : Int64)) := (Arv.new A7 (by decide)).pad (pad_rep [] (.long (0 : Int64)) 4)
  obtain ⟨T8, h8, X8, e8, W8, st8⟩ := putF X7 hx hZ hown (host := "") (Or.inl (hw _ (List.mem_of_getElem? (i := 29) rfl))) Via.refl e7 F_latestRtts_a E_a (Or.inr ⟨(hw _ (List.mem_of_getElem? (i := 30) rfl)), rfl, hnm⟩) (hw _ (List.mem_of_getElem? (i := 5) rfl)) (ty := (.array .long)) (by decide) rfl rfl (g := (mkF m 43 #[.val (.ref a)] [(.ref b7), (.ref a)])) rfl rfl (hb hby d2_43)
  have F_latestRtts_a := F_latestRtts_a.same W8
  have E_a := E_a.wr W8
  have F_window_a := F_window_a.other W8 (Or.inr (slot_ne (Or.inl (hw _ (List.mem_of_getElem? (i := 15) rfl))) (Or.inr (hw _ (List.mem_of_getElem? (i := 30) rfl))) (by decide) (t := .double) (t' := (.array .long)) (by decide) (by decide)))
  have F_threshold_a := F_threshold_a.other W8 (Or.inr (slot_ne (Or.inl (hw _ (List.mem_of_getElem? (i := 18) rfl))) (Or.inr (hw _ (List.mem_of_getElem? (i := 30) rfl))) (by decide) (t := .double) (t' := (.array .long)) (by decide) (by decide)))
  have F_paceAt_a := F_paceAt_a.other W8 (Or.inr (slot_ne (Or.inl (hw _ (List.mem_of_getElem? (i := 21) rfl))) (Or.inr (hw _ (List.mem_of_getElem? (i := 30) rfl))) (by decide) (t := .double) (t' := (.array .long)) (by decide) (by decide)))
  have F_smoothedRtt_a := F_smoothedRtt_a.other W8 (Or.inr (slot_ne (Or.inl (hw _ (List.mem_of_getElem? (i := 24) rfl))) (Or.inr (hw _ (List.mem_of_getElem? (i := 30) rfl))) (by decide) (t := .long) (t' := (.array .long)) (by decide) (by decide)))
  have F_leastRtt_a := F_leastRtt_a.other W8 (Or.inr (slot_ne (Or.inl (hw _ (List.mem_of_getElem? (i := 27) rfl))) (Or.inr (hw _ (List.mem_of_getElem? (i := 30) rfl))) (by decide) (t := .long) (t' := (.array .long)) (by decide) (by decide)))
  have F_nextLatest_a := F_nextLatest_a.other W8 (Or.inr (slot_ne (Or.inl (hw _ (List.mem_of_getElem? (i := 40) rfl))) (Or.inr (hw _ (List.mem_of_getElem? (i := 30) rfl))) (by decide) (t := .int) (t' := (.array .long)) (by decide) (by decide)))
  have F_latestCount_a := F_latestCount_a.other W8 (Or.inr (slot_ne (Or.inl (hw _ (List.mem_of_getElem? (i := 42) rfl))) (Or.inr (hw _ (List.mem_of_getElem? (i := 30) rfl))) (by decide) (t := .int) (t' := (.array .long)) (by decide) (by decide)))
  have F_rttVariation_a := F_rttVariation_a.other W8 (Or.inr (slot_ne (Or.inl (hw _ (List.mem_of_getElem? (i := 46) rfl))) (Or.inr (hw _ (List.mem_of_getElem? (i := 30) rfl))) (by decide) (t := .long) (t' := (.array .long)) (by decide) (by decide)))
  have F_onTheWay_a := F_onTheWay_a.other W8 (Or.inr (slot_ne (Or.inl (hw _ (List.mem_of_getElem? (i := 79) rfl))) (Or.inr (hw _ (List.mem_of_getElem? (i := 30) rfl))) (by decide) (t := .int) (t' := (.array .long)) (by decide) (by decide)))
  have F_sent_a := F_sent_a.other W8 (Or.inr (slot_ne (Or.inl (hw _ (List.mem_of_getElem? (i := 70) rfl))) (Or.inr (hw _ (List.mem_of_getElem? (i := 30) rfl))) (by decide) (t := .long) (t' := (.array .long)) (by decide) (by decide)))
  have F_shrunkAfter_a := F_shrunkAfter_a.other W8 (Or.inr (slot_ne (Or.inl (hw _ (List.mem_of_getElem? (i := 72) rfl))) (Or.inr (hw _ (List.mem_of_getElem? (i := 30) rfl))) (by decide) (t := .long) (t' := (.array .long)) (by decide) (by decide)))
  have V_b7 := V_b7.other W8 (Ne.symm ne_a_b7)
  have O := O.wr W8 g_a
  have K := K.wr W8 (Or.inl (List.mem_of_getElem? (i := 0) rfl))
  have N8 := Fr.snoc X8 N6 g_a
  have w9 : ∀ t, Steps p.tables e below (T8.setTop (mkF m 46 #[.val (.ref a)] [])) t → Steps p.tables e below (s₁.setTop (entryFrame m #[(.ref a)] 1)) t := fun t k => by
    refine pre0 t ?_
    refine XS.aloadN X0.here hx rfl (hb hby d2_0) rfl rfl ?_
    show Steps p.tables e below (s₁.setTop (mkF m 1 #[.val (.ref a)] [(.ref a)])) _
    refine st1 _ ?_
    show Steps p.tables e below (T1.setTop (mkF m 4 #[.val (.ref a)] [])) _
    refine XS.aloadN X1.here hx rfl (hb hby d2_4) rfl rfl ?_
    show Steps p.tables e below (T1.setTop (mkF m 5 #[.val (.ref a)] [(.ref a)])) _
    refine X1.ldc2DoubleC hx hown (mvT hZ (hw _ (List.mem_of_getElem? (i := 13) rfl))) (g := (mkF m 5 #[.val (.ref a)] [(.ref a)])) rfl (hb hby d2_5) _ ?_
    show Steps p.tables e below (T1.setTop (mkF m 8 #[.val (.ref a)] [(.double (4621819117588971520 : UInt64)), (.ref a)])) _
    refine st2 _ ?_
    show Steps p.tables e below (T2.setTop (mkF m 11 #[.val (.ref a)] [])) _
    refine XS.aloadN X2.here hx rfl (hb hby d2_11) rfl rfl ?_
    show Steps p.tables e below (T2.setTop (mkF m 12 #[.val (.ref a)] [(.ref a)])) _
    refine X2.ldc2DoubleC hx hown (mvT hZ (hw _ (List.mem_of_getElem? (i := 16) rfl))) (g := (mkF m 12 #[.val (.ref a)] [(.ref a)])) rfl (hb hby d2_12) _ ?_
    show Steps p.tables e below (T2.setTop (mkF m 15 #[.val (.ref a)] [(.double (4634204016564240384 : UInt64)), (.ref a)])) _
    refine st3 _ ?_
    show Steps p.tables e below (T3.setTop (mkF m 18 #[.val (.ref a)] [])) _
    refine XS.aloadN X3.here hx rfl (hb hby d2_18) rfl rfl ?_
    show Steps p.tables e below (T3.setTop (mkF m 19 #[.val (.ref a)] [(.ref a)])) _
    refine X3.ldc2DoubleC hx hown (mvT hZ (hw _ (List.mem_of_getElem? (i := 19) rfl))) (g := (mkF m 19 #[.val (.ref a)] [(.ref a)])) rfl (hb hby d2_19) _ ?_
    show Steps p.tables e below (T3.setTop (mkF m 22 #[.val (.ref a)] [(.double (18442240474082181120 : UInt64)), (.ref a)])) _
    refine st4 _ ?_
    show Steps p.tables e below (T4.setTop (mkF m 25 #[.val (.ref a)] [])) _
    refine XS.aloadN X4.here hx rfl (hb hby d2_25) rfl rfl ?_
    show Steps p.tables e below (T4.setTop (mkF m 26 #[.val (.ref a)] [(.ref a)])) _
    refine X4.ldc2Long hx hown (mvT hZ (hw _ (List.mem_of_getElem? (i := 22) rfl))) (g := (mkF m 26 #[.val (.ref a)] [(.ref a)])) rfl (hb hby d2_26) _ ?_
    show Steps p.tables e below (T4.setTop (mkF m 29 #[.val (.ref a)] [(.long (-1 : Int64)), (.ref a)])) _
    refine st5 _ ?_
    show Steps p.tables e below (T5.setTop (mkF m 32 #[.val (.ref a)] [])) _
    refine XS.aloadN X5.here hx rfl (hb hby d2_32) rfl rfl ?_
    show Steps p.tables e below (T5.setTop (mkF m 33 #[.val (.ref a)] [(.ref a)])) _
    refine X5.ldc2Long hx hown (mvT hZ (hw _ (List.mem_of_getElem? (i := 25) rfl))) (g := (mkF m 33 #[.val (.ref a)] [(.ref a)])) rfl (hb hby d2_33) _ ?_
    show Steps p.tables e below (T5.setTop (mkF m 36 #[.val (.ref a)] [(.long (9223372036854775807 : Int64)), (.ref a)])) _
    refine st6 _ ?_
    show Steps p.tables e below (T6.setTop (mkF m 39 #[.val (.ref a)] [])) _
    refine XS.aloadN X6.here hx rfl (hb hby d2_39) rfl rfl ?_
    show Steps p.tables e below (T6.setTop (mkF m 40 #[.val (.ref a)] [(.ref a)])) _
    refine XS.iconst X6.here hx rfl (hb hby d2_40) ?_
    show Steps p.tables e below (T6.setTop (mkF m 41 #[.val (.ref a)] [(.int (4 : Int32)), (.ref a)])) _
    refine st7 _ ?_
    show Steps p.tables e below (T7.setTop (mkF m 43 #[.val (.ref a)] [(.ref b7), (.ref a)])) _
    refine st8 _ ?_
    show Steps p.tables e below (T8.setTop (mkF m 46 #[.val (.ref a)] [])) _
    exact k
  obtain ⟨fs, hr, hrun, hended, hW, hsame⟩ := X8.leave (v := none) (fun _ => rfl)
  refine ⟨_, _, w9 _ ?_, hrun, hended, _, _, rfl, ?_, ⟨_, rfl⟩, hW, hsame.mono (by decide) (by decide)⟩
  · exact X8.returnOut hx Bd.returns (hb hby d2_46) hr
  · show Q2 Z a  h0 n0 _ T8.heap _
    rw [e8]
    exact ⟨b7, k7, rfl, N8, K, F_window_a, F_threshold_a, F_paceAt_a, F_smoothedRtt_a, F_leastRtt_a, F_latestRtts_a, F_nextLatest_a, F_latestCount_a, F_rttVariation_a, F_onTheWay_a, F_sent_a, F_shrunkAfter_a, V_b7, z_b7, g_b7⟩
theorem d4_0 : decode prog_61_method_8_code 0 = .ok (.aload_n 0, 1) := by decide +kernel
theorem d4_1 : decode prog_61_method_8_code 1 = .ok (.aload_n 0, 1) := by decide +kernel
theorem d4_2 : decode prog_61_method_8_code 2 = .ok (.getfield 39, 3) := by decide +kernel
theorem d4_5 : decode prog_61_method_8_code 5 = .ok (.lload_n 1, 1) := by decide +kernel
theorem d4_6 : decode prog_61_method_8_code 6 = .ok (.invokestatic 79, 3) := by decide +kernel
theorem pd__40JJ_41J : parseMethodDescriptor "(JJ)J" = some ⟨[.long, .long], some .long⟩ := by decide +kernel
theorem d4_9 : decode prog_61_method_8_code 9 = .ok (.putfield 39, 3) := by decide +kernel
theorem d4_12 : decode prog_61_method_8_code 12 = .ok (.aload_n 0, 1) := by decide +kernel
theorem d4_13 : decode prog_61_method_8_code 13 = .ok (.getfield 42, 3) := by decide +kernel
theorem d4_16 : decode prog_61_method_8_code 16 = .ok (.aload_n 0, 1) := by decide +kernel
theorem d4_17 : decode prog_61_method_8_code 17 = .ok (.getfield 82, 3) := by decide +kernel
theorem d4_20 : decode prog_61_method_8_code 20 = .ok (.lload_n 1, 1) := by decide +kernel
theorem d4_21 : decode prog_61_method_8_code 21 = .ok (.lastore, 1) := by decide +kernel
theorem d4_22 : decode prog_61_method_8_code 22 = .ok (.aload_n 0, 1) := by decide +kernel
theorem d4_23 : decode prog_61_method_8_code 23 = .ok (.aload_n 0, 1) := by decide +kernel
theorem d4_24 : decode prog_61_method_8_code 24 = .ok (.getfield 82, 3) := by decide +kernel
theorem d4_27 : decode prog_61_method_8_code 27 = .ok (.iconst 1, 1) := by decide +kernel
theorem d4_28 : decode prog_61_method_8_code 28 = .ok (.iadd, 1) := by decide +kernel
theorem d4_29 : decode prog_61_method_8_code 29 = .ok (.iconst 4, 1) := by decide +kernel
theorem d4_30 : decode prog_61_method_8_code 30 = .ok (.irem, 1) := by decide +kernel
theorem d4_31 : decode prog_61_method_8_code 31 = .ok (.putfield 82, 3) := by decide +kernel
theorem d4_34 : decode prog_61_method_8_code 34 = .ok (.aload_n 0, 1) := by decide +kernel
theorem d4_35 : decode prog_61_method_8_code 35 = .ok (.aload_n 0, 1) := by decide +kernel
theorem d4_36 : decode prog_61_method_8_code 36 = .ok (.getfield 85, 3) := by decide +kernel
theorem d4_39 : decode prog_61_method_8_code 39 = .ok (.iconst 1, 1) := by decide +kernel
theorem d4_40 : decode prog_61_method_8_code 40 = .ok (.iadd, 1) := by decide +kernel
theorem d4_41 : decode prog_61_method_8_code 41 = .ok (.iconst 4, 1) := by decide +kernel
theorem d4_42 : decode prog_61_method_8_code 42 = .ok (.invokestatic 88, 3) := by decide +kernel
theorem pd__40II_41I : parseMethodDescriptor "(II)I" = some ⟨[.int, .int], some .int⟩ := by decide +kernel
theorem d4_45 : decode prog_61_method_8_code 45 = .ok (.putfield 85, 3) := by decide +kernel
theorem d4_48 : decode prog_61_method_8_code 48 = .ok (.aload_n 0, 1) := by decide +kernel
theorem d4_49 : decode prog_61_method_8_code 49 = .ok (.getfield 31, 3) := by decide +kernel
theorem d4_52 : decode prog_61_method_8_code 52 = .ok (.lconst 0, 1) := by decide +kernel
theorem d4_53 : decode prog_61_method_8_code 53 = .ok (.lcmp, 1) := by decide +kernel
theorem d4_54 : decode prog_61_method_8_code 54 = .ok (.ifCond .ge 20, 3) := by decide +kernel
theorem d4_57 : decode prog_61_method_8_code 57 = .ok (.aload_n 0, 1) := by decide +kernel
theorem d4_58 : decode prog_61_method_8_code 58 = .ok (.lload_n 1, 1) := by decide +kernel
theorem d4_59 : decode prog_61_method_8_code 59 = .ok (.putfield 31, 3) := by decide +kernel
theorem d4_62 : decode prog_61_method_8_code 62 = .ok (.aload_n 0, 1) := by decide +kernel
theorem d4_63 : decode prog_61_method_8_code 63 = .ok (.lload_n 1, 1) := by decide +kernel
theorem d4_64 : decode prog_61_method_8_code 64 = .ok (.ldc2_w 91, 3) := by decide +kernel
theorem d4_67 : decode prog_61_method_8_code 67 = .ok (.ldiv, 1) := by decide +kernel
theorem d4_68 : decode prog_61_method_8_code 68 = .ok (.putfield 93, 3) := by decide +kernel
theorem d4_71 : decode prog_61_method_8_code 71 = .ok (.goto 47, 3) := by decide +kernel
theorem d4_118 : decode prog_61_method_8_code 118 = .ok (.return_, 1) := by decide +kernel
theorem ef_4_0 (m : MethodId) (x0 : Addr) : entryFrame m #[(.ref x0), (.long (0 : Int64))] 3 = mkF m 0 #[.val (.ref x0), .val (.long (0 : Int64)), .second] [] := by first | (simp [entryFrame, mkF, argsToLocals, Value.category]; done) | rfl
def Q4_0 (Z : State) (a : Addr) (t1 : Addr) (kt : ClassId) (h0 : Heap) (n0 : Nat) (v : Option Value) (h : Heap) (L : List Loc) : Prop := v = none ∧ Fr n0 L ∧ Keep h0 h [a, t1] ∧ Fld Z h a "com/example/hashmesh/hashmesh/mesh/Congestion" "window" "D" (.double (4621819117588971520 : UInt64)) ∧ Fld Z h a "com/example/hashmesh/hashmesh/mesh/Congestion" "threshold" "D" (.double (4634204016564240384 : UInt64)) ∧ Fld Z h a "com/example/hashmesh/hashmesh/mesh/Congestion" "paceAt" "D" (.double (18442240474082181120 : UInt64)) ∧ Fld Z h a "com/example/hashmesh/hashmesh/mesh/Congestion" "smoothedRtt" "J" (.long (0 : Int64)) ∧ Fld Z h a "com/example/hashmesh/hashmesh/mesh/Congestion" "leastRtt" "J" (.long (0 : Int64)) ∧ Fld Z h a "com/example/hashmesh/hashmesh/mesh/Congestion" "latestRtts" "[J" (.ref t1) ∧ Fld Z h a "com/example/hashmesh/hashmesh/mesh/Congestion" "nextLatest" "I" (.int (1 : Int32)) ∧ Fld Z h a "com/example/hashmesh/hashmesh/mesh/Congestion" "latestCount" "I" (.int (1 : Int32)) ∧ Fld Z h a "com/example/hashmesh/hashmesh/mesh/Congestion" "rttVariation" "J" (.long (0 : Int64)) ∧ Fld Z h a "com/example/hashmesh/hashmesh/mesh/Congestion" "onTheWay" "I" (.int (0 : Int32)) ∧ Fld Z h a "com/example/hashmesh/hashmesh/mesh/Congestion" "sent" "J" (.long (0 : Int64)) ∧ Fld Z h a "com/example/hashmesh/hashmesh/mesh/Congestion" "shrunkAfter" "J" (.long (0 : Int64)) ∧ Arv Z h t1 kt .long (4 : Int32) [(.long (0 : Int64)), (.long (0 : Int64)), (.long (0 : Int64)), (.long (0 : Int64))] (.long (0 : Int64))
set_option maxRecDepth 65536 in
set_option maxHeartbeats 40000000 in
theorem rm4_0 (l : Launch) (Z : State) (a0 : Array Value) (hw : ∀ d ∈ tables_1, d.before a0 Z = true) (ws : List Jvm.Cond) (a : Addr) (t1 : Addr) (kt : ClassId) (h0 : Heap) (n0 : Nat) (O0 : Old Z n0 h0) (E_a : Exa Z h0 a "com/example/hashmesh/hashmesh/mesh/Congestion") (F_window_a : Fld Z h0 a "com/example/hashmesh/hashmesh/mesh/Congestion" "window" "D" (.double (4621819117588971520 : UInt64))) (F_threshold_a : Fld Z h0 a "com/example/hashmesh/hashmesh/mesh/Congestion" "threshold" "D" (.double (4634204016564240384 : UInt64))) (F_paceAt_a : Fld Z h0 a "com/example/hashmesh/hashmesh/mesh/Congestion" "paceAt" "D" (.double (18442240474082181120 : UInt64))) (F_smoothedRtt_a : Fld Z h0 a "com/example/hashmesh/hashmesh/mesh/Congestion" "smoothedRtt" "J" (.long (-1 : Int64))) (F_leastRtt_a : Fld Z h0 a "com/example/hashmesh/hashmesh/mesh/Congestion" "leastRtt" "J" (.long (9223372036854775807 : Int64))) (F_latestRtts_a : Fld Z h0 a "com/example/hashmesh/hashmesh/mesh/Congestion" "latestRtts" "[J" (.ref t1)) (F_nextLatest_a : Fld Z h0 a "com/example/hashmesh/hashmesh/mesh/Congestion" "nextLatest" "I" (.int (0 : Int32))) (F_latestCount_a : Fld Z h0 a "com/example/hashmesh/hashmesh/mesh/Congestion" "latestCount" "I" (.int (0 : Int32))) (F_rttVariation_a : Fld Z h0 a "com/example/hashmesh/hashmesh/mesh/Congestion" "rttVariation" "J" (.long (0 : Int64))) (F_onTheWay_a : Fld Z h0 a "com/example/hashmesh/hashmesh/mesh/Congestion" "onTheWay" "I" (.int (0 : Int32))) (F_sent_a : Fld Z h0 a "com/example/hashmesh/hashmesh/mesh/Congestion" "sent" "J" (.long (0 : Int64))) (F_shrunkAfter_a : Fld Z h0 a "com/example/hashmesh/hashmesh/mesh/Congestion" "shrunkAfter" "J" (.long (0 : Int64))) (V_t1 : Arv Z h0 t1 kt .long (4 : Int32) [(.long (0 : Int64)), (.long (0 : Int64)), (.long (0 : Int64)), (.long (0 : Int64))] (.long (0 : Int64))) (g_a : n0 ≤ a) (g_t1 : n0 ≤ t1) :
    MetFree l (⟨"com/example/hashmesh/hashmesh/mesh/Congestion", "measured", "(J)V"⟩ : MethodName) (head1 (Jvm.Cond.code (⟨"com/example/hashmesh/hashmesh/mesh/Congestion", "measured", "(J)V"⟩ : MethodName) prog_61_method_8_code 3 none :: ws) ({ frames := 1, cells := 0, slots := 0, locals := 16 } : Room)) (fun aA uU => aA = #[(.ref a), (.long (0 : Int64))] ∧ Z.Warmed39 uU.vm ∧ uU.heap = h0) (fun _ _ _ _ _ => True) (fun _ uU oO uU' => ∃ vV lL, oO = .returned vV ∧ Q4_0 Z a t1 kt  h0 n0 vV uU'.heap lL ∧ FrameEnd uU oO uU' lL ({ frames := 1, cells := 0, slots := 0, locals := 16 } : Room).cells ({ frames := 1, cells := 0, slots := 0, locals := 16 } : Room).slots) := by
  refine MetFree.of_bodySF (plainFor_of_name pn_com_example_hashmesh_hashmesh_mesh_Congestion) hisR ?_
  intro p e s m args below meth c s₁ Bd hml0 hP hK
  obtain ⟨rfl, hZ, hh⟩ := hP
  have hx := Bd.exec
  have hby := Bd.bytes
  have hml : c.maxLocals = 3 := hml0
  have hown : s.vm.findClass "com/example/hashmesh/hashmesh/mesh/Congestion" = some m.cls := findClass_of_methodNamed Bd.named
  have hnm := (name_of_methodNamed Bd.named Bd.method).1
  have X0 : Stand p l e ({ frames := 1, cells := 0, slots := 0, locals := 16 } : Room) s m #[(.ref a), (.long (0 : Int64))] below meth c s₁ [] 0 0 := Stand.of_body Bd
  have e0 : s₁.heap = h0 := by rw [← hh, Bd.state]; rfl
  have N0 := Fr.nil n0
  have O := O0
  have K := Keep.refl h0 [a, t1]
  have pre0 : ∀ t, Steps p.tables e below (s₁.setTop (mkF m 0 #[.val (.ref a), .val (.long (0 : Int64)), .second] [])) t → Steps p.tables e below (s₁.setTop (entryFrame m #[(.ref a), (.long (0 : Int64))] 3)) t := fun t k => castTop (ef_4_0 m a) k
  obtain ⟨T1, X1, e1, st1⟩ := getF X0 hx hZ hown (host := "") (Or.inl (hw _ (List.mem_of_getElem? (i := 26) rfl))) Via.refl e0 F_leastRtt_a (g := (mkF m 2 #[.val (.ref a), .val (.long (0 : Int64)), .second] [(.ref a), (.ref a)])) rfl rfl (hb hby d4_2)
  obtain ⟨_, _, ⟨T2, L2, k2, n2⟩, -, X2, ⟨Lc2, hQ2, l2, y2, z2⟩, st2⟩ := Jvm.LawKit.callS X1 hx (y := (⟨"java/lang/Math", "min", "(JJ)J"⟩ : MethodName)) hown (mvT hZ (hw _ (List.mem_of_getElem? (i := 36) rfl))) (mvT hZ (hw _ (List.mem_of_getElem? (i := 37) rfl))) (mvT hZ (hw _ (List.mem_of_getElem? (i := 2) rfl))) (mvT hZ (hw _ (List.mem_of_getElem? (i := 38) rfl))) (by decide) (backOf (W := 1) (rm5_b l Z a0 hw [] (9223372036854775807 : Int64) (0 : Int64) h0 n0 O (by decide)) hZ (hw _ (List.mem_of_getElem? (i := 38) rfl)) (hw _ (List.mem_of_getElem? (i := 2) rfl)) (by decide) (by decide)) (g := (mkF m 6 #[.val (.ref a), .val (.long (0 : Int64)), .second] [(.long (0 : Int64)), (.long (9223372036854775807 : Int64)), (.ref a)])) rfl (by rw [hml]; rfl) (argsL := [(.long (9223372036854775807 : Int64)), (.long (0 : Int64))]) (rest := [(.ref a)]) (lenOf pd__40JJ_41J rfl) rfl (by show 2 * 0 + _ ≤ _; exact Nat.le_of_eq rfl) (hb hby d4_6) (fun _ _ => ⟨rfl, e1, (by decide : 0 + 0 ≤ _), (by decide : 0 + 0 ≤ _)⟩)
  dsimp only [Pt.U, Pt.locs, Pt.cells, Pt.slots] at X2 l2 y2 z2 st2 hQ2
  subst l2 y2 z2
  obtain ⟨rfl, N2q, eh2⟩ := hQ2
  have N2 := Fr.app N0 N2q
  have ne_t1_a : t1 ≠ a := (Ne.symm (Exa.neArv E_a V_t1 (hw _ (List.mem_of_getElem? (i := 5) rfl))))
  obtain ⟨T3, h3, X3, e3, W3, st3⟩ := putF X2 hx hZ hown (host := "") (Or.inl (hw _ (List.mem_of_getElem? (i := 26) rfl))) Via.refl eh2 F_leastRtt_a E_a (Or.inl (hw _ (List.mem_of_getElem? (i := 27) rfl))) (hw _ (List.mem_of_getElem? (i := 5) rfl)) (ty := .long) (by decide) rfl rfl (g := (mkF m 9 #[.val (.ref a), .val (.long (0 : Int64)), .second] [(.long (0 : Int64)), (.ref a)])) rfl rfl (hb hby d4_9)
  have F_leastRtt_a := F_leastRtt_a.same W3
  have E_a := E_a.wr W3
  have F_window_a := F_window_a.other W3 (Or.inr (slot_ne (Or.inl (hw _ (List.mem_of_getElem? (i := 15) rfl))) (Or.inl (hw _ (List.mem_of_getElem? (i := 27) rfl))) (by decide) (t := .double) (t' := .long) (by decide) (by decide)))
  have F_threshold_a := F_threshold_a.other W3 (Or.inr (slot_ne (Or.inl (hw _ (List.mem_of_getElem? (i := 18) rfl))) (Or.inl (hw _ (List.mem_of_getElem? (i := 27) rfl))) (by decide) (t := .double) (t' := .long) (by decide) (by decide)))
  have F_paceAt_a := F_paceAt_a.other W3 (Or.inr (slot_ne (Or.inl (hw _ (List.mem_of_getElem? (i := 21) rfl))) (Or.inl (hw _ (List.mem_of_getElem? (i := 27) rfl))) (by decide) (t := .double) (t' := .long) (by decide) (by decide)))
  have F_smoothedRtt_a := F_smoothedRtt_a.other W3 (Or.inr (slot_ne (Or.inl (hw _ (List.mem_of_getElem? (i := 24) rfl))) (Or.inl (hw _ (List.mem_of_getElem? (i := 27) rfl))) (by decide) (t := .long) (t' := .long) (by decide) (by decide)))
  have F_latestRtts_a := F_latestRtts_a.other W3 (Or.inr (slot_ne (Or.inr (hw _ (List.mem_of_getElem? (i := 30) rfl))) (Or.inl (hw _ (List.mem_of_getElem? (i := 27) rfl))) (by decide) (t := (.array .long)) (t' := .long) (by decide) (by decide)))
  have F_nextLatest_a := F_nextLatest_a.other W3 (Or.inr (slot_ne (Or.inl (hw _ (List.mem_of_getElem? (i := 40) rfl))) (Or.inl (hw _ (List.mem_of_getElem? (i := 27) rfl))) (by decide) (t := .int) (t' := .long) (by decide) (by decide)))
  have F_latestCount_a := F_latestCount_a.other W3 (Or.inr (slot_ne (Or.inl (hw _ (List.mem_of_getElem? (i := 42) rfl))) (Or.inl (hw _ (List.mem_of_getElem? (i := 27) rfl))) (by decide) (t := .int) (t' := .long) (by decide) (by decide)))
  have F_rttVariation_a := F_rttVariation_a.other W3 (Or.inr (slot_ne (Or.inl (hw _ (List.mem_of_getElem? (i := 46) rfl))) (Or.inl (hw _ (List.mem_of_getElem? (i := 27) rfl))) (by decide) (t := .long) (t' := .long) (by decide) (by decide)))
  have F_onTheWay_a := F_onTheWay_a.other W3 (Or.inr (slot_ne (Or.inl (hw _ (List.mem_of_getElem? (i := 79) rfl))) (Or.inl (hw _ (List.mem_of_getElem? (i := 27) rfl))) (by decide) (t := .int) (t' := .long) (by decide) (by decide)))
  have F_sent_a := F_sent_a.other W3 (Or.inr (slot_ne (Or.inl (hw _ (List.mem_of_getElem? (i := 70) rfl))) (Or.inl (hw _ (List.mem_of_getElem? (i := 27) rfl))) (by decide) (t := .long) (t' := .long) (by decide) (by decide)))
  have F_shrunkAfter_a := F_shrunkAfter_a.other W3 (Or.inr (slot_ne (Or.inl (hw _ (List.mem_of_getElem? (i := 72) rfl))) (Or.inl (hw _ (List.mem_of_getElem? (i := 27) rfl))) (by decide) (t := .long) (t' := .long) (by decide) (by decide)))
  have V_t1 := V_t1.other W3 ne_t1_a
  have O := O.wr W3 g_a
  have K := K.wr W3 (Or.inl (List.mem_of_getElem? (i := 0) rfl))
  have N3 := Fr.snoc X3 N2 g_a
  obtain ⟨T4, X4, e4, st4⟩ := getF X3 hx hZ hown (host := "") (Or.inl (hw _ (List.mem_of_getElem? (i := 29) rfl))) Via.refl e3 F_latestRtts_a (g := (mkF m 13 #[.val (.ref a), .val (.long (0 : Int64)), .second] [(.ref a)])) rfl rfl (hb hby d4_13)
  obtain ⟨T5, X5, e5, st5⟩ := getF X4 hx hZ hown (host := "") (Or.inl (hw _ (List.mem_of_getElem? (i := 39) rfl))) Via.refl e4 F_nextLatest_a (g := (mkF m 17 #[.val (.ref a), .val (.long (0 : Int64)), .second] [(.ref a), (.ref t1)])) rfl rfl (hb hby d4_17)
  obtain ⟨cl6, Ar6, q6, Z6, N6, H6, G6⟩ := id V_t1
  have hin6 : ¬ ((0 : Int32) < 0 ∨ cl6.slots.size ≤ ((0 : Int32)).toNatClampNeg) := inb_of Z6 ⟨by decide, by decide⟩
  obtain ⟨T7, h7, X7, e7, W7, st7⟩ := stJ X5 hx hZ e5 Ar6 (j := (0 : Int32)) hin6 (g := (mkF m 21 #[.val (.ref a), .val (.long (0 : Int64)), .second] [(.long (0 : Int64)), (.int (0 : Int32)), (.ref t1)])) rfl rfl (hb hby d4_21)
  have V_t1 : Arv Z h7 t1 kt .long (4 : Int32) [(.long (0 : Int64)), (.long (0 : Int64)), (.long (0 : Int64)), (.long (0 : Int64))] (.long (0 : Int64)) := Arv.set Ar6 q6 Z6 N6 H6 G6 rfl W7 0 rfl (Nat.le_of_ble_eq_true rfl)
  have E_a := E_a.wr W7
  have F_window_a := F_window_a.other W7 (Or.inl (Ne.symm ne_t1_a))
  have F_threshold_a := F_threshold_a.other W7 (Or.inl (Ne.symm ne_t1_a))
  have F_paceAt_a := F_paceAt_a.other W7 (Or.inl (Ne.symm ne_t1_a))
  have F_smoothedRtt_a := F_smoothedRtt_a.other W7 (Or.inl (Ne.symm ne_t1_a))
  have F_leastRtt_a := F_leastRtt_a.other W7 (Or.inl (Ne.symm ne_t1_a))
  have F_latestRtts_a := F_latestRtts_a.other W7 (Or.inl (Ne.symm ne_t1_a))
  have F_nextLatest_a := F_nextLatest_a.other W7 (Or.inl (Ne.symm ne_t1_a))
  have F_latestCount_a := F_latestCount_a.other W7 (Or.inl (Ne.symm ne_t1_a))
  have F_rttVariation_a := F_rttVariation_a.other W7 (Or.inl (Ne.symm ne_t1_a))
  have F_onTheWay_a := F_onTheWay_a.other W7 (Or.inl (Ne.symm ne_t1_a))
  have F_sent_a := F_sent_a.other W7 (Or.inl (Ne.symm ne_t1_a))
  have F_shrunkAfter_a := F_shrunkAfter_a.other W7 (Or.inl (Ne.symm ne_t1_a))
  have O := O.wr W7 g_t1
  have K := K.wr W7 (Or.inl (List.mem_of_getElem? (i := 1) rfl))
  have N7 := Fr.snoc X7 N3 g_t1
  obtain ⟨T8, X8, e8, st8⟩ := getF X7 hx hZ hown (host := "") (Or.inl (hw _ (List.mem_of_getElem? (i := 39) rfl))) Via.refl e7 F_nextLatest_a (g := (mkF m 24 #[.val (.ref a), .val (.long (0 : Int64)), .second] [(.ref a), (.ref a)])) rfl rfl (hb hby d4_24)
  obtain ⟨T9, h9, X9, e9, W9, st9⟩ := putF X8 hx hZ hown (host := "") (Or.inl (hw _ (List.mem_of_getElem? (i := 39) rfl))) Via.refl e8 F_nextLatest_a E_a (Or.inl (hw _ (List.mem_of_getElem? (i := 40) rfl))) (hw _ (List.mem_of_getElem? (i := 5) rfl)) (ty := .int) (by decide) rfl rfl (g := (mkF m 31 #[.val (.ref a), .val (.long (0 : Int64)), .second] [(.int (1 : Int32)), (.ref a)])) rfl rfl (hb hby d4_31)
  have F_nextLatest_a := F_nextLatest_a.same W9
  have E_a := E_a.wr W9
  have F_window_a := F_window_a.other W9 (Or.inr (slot_ne (Or.inl (hw _ (List.mem_of_getElem? (i := 15) rfl))) (Or.inl (hw _ (List.mem_of_getElem? (i := 40) rfl))) (by decide) (t := .double) (t' := .int) (by decide) (by decide)))
  have F_threshold_a := F_threshold_a.other W9 (Or.inr (slot_ne (Or.inl (hw _ (List.mem_of_getElem? (i := 18) rfl))) (Or.inl (hw _ (List.mem_of_getElem? (i := 40) rfl))) (by decide) (t := .double) (t' := .int) (by decide) (by decide)))
  have F_paceAt_a := F_paceAt_a.other W9 (Or.inr (slot_ne (Or.inl (hw _ (List.mem_of_getElem? (i := 21) rfl))) (Or.inl (hw _ (List.mem_of_getElem? (i := 40) rfl))) (by decide) (t := .double) (t' := .int) (by decide) (by decide)))
  have F_smoothedRtt_a := F_smoothedRtt_a.other W9 (Or.inr (slot_ne (Or.inl (hw _ (List.mem_of_getElem? (i := 24) rfl))) (Or.inl (hw _ (List.mem_of_getElem? (i := 40) rfl))) (by decide) (t := .long) (t' := .int) (by decide) (by decide)))
  have F_leastRtt_a := F_leastRtt_a.other W9 (Or.inr (slot_ne (Or.inl (hw _ (List.mem_of_getElem? (i := 27) rfl))) (Or.inl (hw _ (List.mem_of_getElem? (i := 40) rfl))) (by decide) (t := .long) (t' := .int) (by decide) (by decide)))
  have F_latestRtts_a := F_latestRtts_a.other W9 (Or.inr (slot_ne (Or.inr (hw _ (List.mem_of_getElem? (i := 30) rfl))) (Or.inl (hw _ (List.mem_of_getElem? (i := 40) rfl))) (by decide) (t := (.array .long)) (t' := .int) (by decide) (by decide)))
  have F_latestCount_a := F_latestCount_a.other W9 (Or.inr (slot_ne (Or.inl (hw _ (List.mem_of_getElem? (i := 42) rfl))) (Or.inl (hw _ (List.mem_of_getElem? (i := 40) rfl))) (by decide) (t := .int) (t' := .int) (by decide) (by decide)))
  have F_rttVariation_a := F_rttVariation_a.other W9 (Or.inr (slot_ne (Or.inl (hw _ (List.mem_of_getElem? (i := 46) rfl))) (Or.inl (hw _ (List.mem_of_getElem? (i := 40) rfl))) (by decide) (t := .long) (t' := .int) (by decide) (by decide)))
  have F_onTheWay_a := F_onTheWay_a.other W9 (Or.inr (slot_ne (Or.inl (hw _ (List.mem_of_getElem? (i := 79) rfl))) (Or.inl (hw _ (List.mem_of_getElem? (i := 40) rfl))) (by decide) (t := .int) (t' := .int) (by decide) (by decide)))
  have F_sent_a := F_sent_a.other W9 (Or.inr (slot_ne (Or.inl (hw _ (List.mem_of_getElem? (i := 70) rfl))) (Or.inl (hw _ (List.mem_of_getElem? (i := 40) rfl))) (by decide) (t := .long) (t' := .int) (by decide) (by decide)))
  have F_shrunkAfter_a := F_shrunkAfter_a.other W9 (Or.inr (slot_ne (Or.inl (hw _ (List.mem_of_getElem? (i := 72) rfl))) (Or.inl (hw _ (List.mem_of_getElem? (i := 40) rfl))) (by decide) (t := .long) (t' := .int) (by decide) (by decide)))
  have V_t1 := V_t1.other W9 ne_t1_a
  have O := O.wr W9 g_a
  have K := K.wr W9 (Or.inl (List.mem_of_getElem? (i := 0) rfl))
  have N9 := Fr.snoc X9 N7 g_a
  obtain ⟨T10, X10, e10, st10⟩ := getF X9 hx hZ hown (host := "") (Or.inl (hw _ (List.mem_of_getElem? (i := 41) rfl))) Via.refl e9 F_latestCount_a (g := (mkF m 36 #[.val (.ref a), .val (.long (0 : Int64)), .second] [(.ref a), (.ref a)])) rfl rfl (hb hby d4_36)
  obtain ⟨_, _, ⟨T11, L11, k11, n11⟩, -, X11, ⟨Lc11, hQ11, l11, y11, z11⟩, st11⟩ := Jvm.LawKit.callS X10 hx (y := (⟨"java/lang/Math", "min", "(II)I"⟩ : MethodName)) hown (mvT hZ (hw _ (List.mem_of_getElem? (i := 43) rfl))) (mvT hZ (hw _ (List.mem_of_getElem? (i := 1) rfl))) (mvT hZ (hw _ (List.mem_of_getElem? (i := 2) rfl))) (mvT hZ (hw _ (List.mem_of_getElem? (i := 3) rfl))) (by decide) (backOf (W := 1) (rm1_a l Z a0 hw [] (1 : Int32) (4 : Int32) h9 n0 O (by decide)) hZ (hw _ (List.mem_of_getElem? (i := 3) rfl)) (hw _ (List.mem_of_getElem? (i := 2) rfl)) (by decide) (by decide)) (g := (mkF m 42 #[.val (.ref a), .val (.long (0 : Int64)), .second] [(.int (4 : Int32)), (.int (1 : Int32)), (.ref a)])) rfl (by rw [hml]; rfl) (argsL := [(.int (1 : Int32)), (.int (4 : Int32))]) (rest := [(.ref a)]) (lenOf pd__40II_41I rfl) rfl (by show 2 * 0 + _ ≤ _; exact Nat.le_of_eq rfl) (hb hby d4_42) (fun _ _ => ⟨rfl, e10, (by decide : 0 + 0 ≤ _), (by decide : 0 + 0 ≤ _)⟩)
  dsimp only [Pt.U, Pt.locs, Pt.cells, Pt.slots] at X11 l11 y11 z11 st11 hQ11
  subst l11 y11 z11
  obtain ⟨rfl, N11q, eh11⟩ := hQ11
  have N11 := Fr.app N9 N11q
  obtain ⟨T12, h12, X12, e12, W12, st12⟩ := putF X11 hx hZ hown (host := "") (Or.inl (hw _ (List.mem_of_getElem? (i := 41) rfl))) Via.refl eh11 F_latestCount_a E_a (Or.inl (hw _ (List.mem_of_getElem? (i := 42) rfl))) (hw _ (List.mem_of_getElem? (i := 5) rfl)) (ty := .int) (by decide) rfl rfl (g := (mkF m 45 #[.val (.ref a), .val (.long (0 : Int64)), .second] [(.int (1 : Int32)), (.ref a)])) rfl rfl (hb hby d4_45)
  have F_latestCount_a := F_latestCount_a.same W12
  have E_a := E_a.wr W12
  have F_window_a := F_window_a.other W12 (Or.inr (slot_ne (Or.inl (hw _ (List.mem_of_getElem? (i := 15) rfl))) (Or.inl (hw _ (List.mem_of_getElem? (i := 42) rfl))) (by decide) (t := .double) (t' := .int) (by decide) (by decide)))
  have F_threshold_a := F_threshold_a.other W12 (Or.inr (slot_ne (Or.inl (hw _ (List.mem_of_getElem? (i := 18) rfl))) (Or.inl (hw _ (List.mem_of_getElem? (i := 42) rfl))) (by decide) (t := .double) (t' := .int) (by decide) (by decide)))
  have F_paceAt_a := F_paceAt_a.other W12 (Or.inr (slot_ne (Or.inl (hw _ (List.mem_of_getElem? (i := 21) rfl))) (Or.inl (hw _ (List.mem_of_getElem? (i := 42) rfl))) (by decide) (t := .double) (t' := .int) (by decide) (by decide)))
  have F_smoothedRtt_a := F_smoothedRtt_a.other W12 (Or.inr (slot_ne (Or.inl (hw _ (List.mem_of_getElem? (i := 24) rfl))) (Or.inl (hw _ (List.mem_of_getElem? (i := 42) rfl))) (by decide) (t := .long) (t' := .int) (by decide) (by decide)))
  have F_leastRtt_a := F_leastRtt_a.other W12 (Or.inr (slot_ne (Or.inl (hw _ (List.mem_of_getElem? (i := 27) rfl))) (Or.inl (hw _ (List.mem_of_getElem? (i := 42) rfl))) (by decide) (t := .long) (t' := .int) (by decide) (by decide)))
  have F_latestRtts_a := F_latestRtts_a.other W12 (Or.inr (slot_ne (Or.inr (hw _ (List.mem_of_getElem? (i := 30) rfl))) (Or.inl (hw _ (List.mem_of_getElem? (i := 42) rfl))) (by decide) (t := (.array .long)) (t' := .int) (by decide) (by decide)))
  have F_nextLatest_a := F_nextLatest_a.other W12 (Or.inr (slot_ne (Or.inl (hw _ (List.mem_of_getElem? (i := 40) rfl))) (Or.inl (hw _ (List.mem_of_getElem? (i := 42) rfl))) (by decide) (t := .int) (t' := .int) (by decide) (by decide)))
  have F_rttVariation_a := F_rttVariation_a.other W12 (Or.inr (slot_ne (Or.inl (hw _ (List.mem_of_getElem? (i := 46) rfl))) (Or.inl (hw _ (List.mem_of_getElem? (i := 42) rfl))) (by decide) (t := .long) (t' := .int) (by decide) (by decide)))
  have F_onTheWay_a := F_onTheWay_a.other W12 (Or.inr (slot_ne (Or.inl (hw _ (List.mem_of_getElem? (i := 79) rfl))) (Or.inl (hw _ (List.mem_of_getElem? (i := 42) rfl))) (by decide) (t := .int) (t' := .int) (by decide) (by decide)))
  have F_sent_a := F_sent_a.other W12 (Or.inr (slot_ne (Or.inl (hw _ (List.mem_of_getElem? (i := 70) rfl))) (Or.inl (hw _ (List.mem_of_getElem? (i := 42) rfl))) (by decide) (t := .long) (t' := .int) (by decide) (by decide)))
  have F_shrunkAfter_a := F_shrunkAfter_a.other W12 (Or.inr (slot_ne (Or.inl (hw _ (List.mem_of_getElem? (i := 72) rfl))) (Or.inl (hw _ (List.mem_of_getElem? (i := 42) rfl))) (by decide) (t := .long) (t' := .int) (by decide) (by decide)))
  have V_t1 := V_t1.other W12 ne_t1_a
  have O := O.wr W12 g_a
  have K := K.wr W12 (Or.inl (List.mem_of_getElem? (i := 0) rfl))
  have N12 := Fr.snoc X12 N11 g_a
  obtain ⟨T13, X13, e13, st13⟩ := getF X12 hx hZ hown (host := "") (Or.inl (hw _ (List.mem_of_getElem? (i := 23) rfl))) Via.refl e12 F_smoothedRtt_a (g := (mkF m 49 #[.val (.ref a), .val (.long (0 : Int64)), .second] [(.ref a)])) rfl rfl (hb hby d4_49)
  obtain ⟨T14, h14, X14, e14, W14, st14⟩ := putF X13 hx hZ hown (host := "") (Or.inl (hw _ (List.mem_of_getElem? (i := 23) rfl))) Via.refl e13 F_smoothedRtt_a E_a (Or.inl (hw _ (List.mem_of_getElem? (i := 24) rfl))) (hw _ (List.mem_of_getElem? (i := 5) rfl)) (ty := .long) (by decide) rfl rfl (g := (mkF m 59 #[.val (.ref a), .val (.long (0 : Int64)), .second] [(.long (0 : Int64)), (.ref a)])) rfl rfl (hb hby d4_59)
  have F_smoothedRtt_a := F_smoothedRtt_a.same W14
  have E_a := E_a.wr W14
  have F_window_a := F_window_a.other W14 (Or.inr (slot_ne (Or.inl (hw _ (List.mem_of_getElem? (i := 15) rfl))) (Or.inl (hw _ (List.mem_of_getElem? (i := 24) rfl))) (by decide) (t := .double) (t' := .long) (by decide) (by decide)))
  have F_threshold_a := F_threshold_a.other W14 (Or.inr (slot_ne (Or.inl (hw _ (List.mem_of_getElem? (i := 18) rfl))) (Or.inl (hw _ (List.mem_of_getElem? (i := 24) rfl))) (by decide) (t := .double) (t' := .long) (by decide) (by decide)))
  have F_paceAt_a := F_paceAt_a.other W14 (Or.inr (slot_ne (Or.inl (hw _ (List.mem_of_getElem? (i := 21) rfl))) (Or.inl (hw _ (List.mem_of_getElem? (i := 24) rfl))) (by decide) (t := .double) (t' := .long) (by decide) (by decide)))
  have F_leastRtt_a := F_leastRtt_a.other W14 (Or.inr (slot_ne (Or.inl (hw _ (List.mem_of_getElem? (i := 27) rfl))) (Or.inl (hw _ (List.mem_of_getElem? (i := 24) rfl))) (by decide) (t := .long) (t' := .long) (by decide) (by decide)))
  have F_latestRtts_a := F_latestRtts_a.other W14 (Or.inr (slot_ne (Or.inr (hw _ (List.mem_of_getElem? (i := 30) rfl))) (Or.inl (hw _ (List.mem_of_getElem? (i := 24) rfl))) (by decide) (t := (.array .long)) (t' := .long) (by decide) (by decide)))
  have F_nextLatest_a := F_nextLatest_a.other W14 (Or.inr (slot_ne (Or.inl (hw _ (List.mem_of_getElem? (i := 40) rfl))) (Or.inl (hw _ (List.mem_of_getElem? (i := 24) rfl))) (by decide) (t := .int) (t' := .long) (by decide) (by decide)))
  have F_latestCount_a := F_latestCount_a.other W14 (Or.inr (slot_ne (Or.inl (hw _ (List.mem_of_getElem? (i := 42) rfl))) (Or.inl (hw _ (List.mem_of_getElem? (i := 24) rfl))) (by decide) (t := .int) (t' := .long) (by decide) (by decide)))
  have F_rttVariation_a := F_rttVariation_a.other W14 (Or.inr (slot_ne (Or.inl (hw _ (List.mem_of_getElem? (i := 46) rfl))) (Or.inl (hw _ (List.mem_of_getElem? (i := 24) rfl))) (by decide) (t := .long) (t' := .long) (by decide) (by decide)))
  have F_onTheWay_a := F_onTheWay_a.other W14 (Or.inr (slot_ne (Or.inl (hw _ (List.mem_of_getElem? (i := 79) rfl))) (Or.inl (hw _ (List.mem_of_getElem? (i := 24) rfl))) (by decide) (t := .int) (t' := .long) (by decide) (by decide)))
  have F_sent_a := F_sent_a.other W14 (Or.inr (slot_ne (Or.inl (hw _ (List.mem_of_getElem? (i := 70) rfl))) (Or.inl (hw _ (List.mem_of_getElem? (i := 24) rfl))) (by decide) (t := .long) (t' := .long) (by decide) (by decide)))
  have F_shrunkAfter_a := F_shrunkAfter_a.other W14 (Or.inr (slot_ne (Or.inl (hw _ (List.mem_of_getElem? (i := 72) rfl))) (Or.inl (hw _ (List.mem_of_getElem? (i := 24) rfl))) (by decide) (t := .long) (t' := .long) (by decide) (by decide)))
  have V_t1 := V_t1.other W14 ne_t1_a
  have O := O.wr W14 g_a
  have K := K.wr W14 (Or.inl (List.mem_of_getElem? (i := 0) rfl))
  have N14 := Fr.snoc X14 N12 g_a
  obtain ⟨T15, h15, X15, e15, W15, st15⟩ := putF X14 hx hZ hown (host := "") (Or.inl (hw _ (List.mem_of_getElem? (i := 45) rfl))) Via.refl e14 F_rttVariation_a E_a (Or.inl (hw _ (List.mem_of_getElem? (i := 46) rfl))) (hw _ (List.mem_of_getElem? (i := 5) rfl)) (ty := .long) (by decide) rfl rfl (g := (mkF m 68 #[.val (.ref a), .val (.long (0 : Int64)), .second] [(.long (0 : Int64)), (.ref a)])) rfl rfl (hb hby d4_68)
  have F_rttVariation_a := F_rttVariation_a.same W15
  have E_a := E_a.wr W15
  have F_window_a := F_window_a.other W15 (Or.inr (slot_ne (Or.inl (hw _ (List.mem_of_getElem? (i := 15) rfl))) (Or.inl (hw _ (List.mem_of_getElem? (i := 46) rfl))) (by decide) (t := .double) (t' := .long) (by decide) (by decide)))
  have F_threshold_a := F_threshold_a.other W15 (Or.inr (slot_ne (Or.inl (hw _ (List.mem_of_getElem? (i := 18) rfl))) (Or.inl (hw _ (List.mem_of_getElem? (i := 46) rfl))) (by decide) (t := .double) (t' := .long) (by decide) (by decide)))
  have F_paceAt_a := F_paceAt_a.other W15 (Or.inr (slot_ne (Or.inl (hw _ (List.mem_of_getElem? (i := 21) rfl))) (Or.inl (hw _ (List.mem_of_getElem? (i := 46) rfl))) (by decide) (t := .double) (t' := .long) (by decide) (by decide)))
  have F_smoothedRtt_a := F_smoothedRtt_a.other W15 (Or.inr (slot_ne (Or.inl (hw _ (List.mem_of_getElem? (i := 24) rfl))) (Or.inl (hw _ (List.mem_of_getElem? (i := 46) rfl))) (by decide) (t := .long) (t' := .long) (by decide) (by decide)))
  have F_leastRtt_a := F_leastRtt_a.other W15 (Or.inr (slot_ne (Or.inl (hw _ (List.mem_of_getElem? (i := 27) rfl))) (Or.inl (hw _ (List.mem_of_getElem? (i := 46) rfl))) (by decide) (t := .long) (t' := .long) (by decide) (by decide)))
  have F_latestRtts_a := F_latestRtts_a.other W15 (Or.inr (slot_ne (Or.inr (hw _ (List.mem_of_getElem? (i := 30) rfl))) (Or.inl (hw _ (List.mem_of_getElem? (i := 46) rfl))) (by decide) (t := (.array .long)) (t' := .long) (by decide) (by decide)))
  have F_nextLatest_a := F_nextLatest_a.other W15 (Or.inr (slot_ne (Or.inl (hw _ (List.mem_of_getElem? (i := 40) rfl))) (Or.inl (hw _ (List.mem_of_getElem? (i := 46) rfl))) (by decide) (t := .int) (t' := .long) (by decide) (by decide)))
  have F_latestCount_a := F_latestCount_a.other W15 (Or.inr (slot_ne (Or.inl (hw _ (List.mem_of_getElem? (i := 42) rfl))) (Or.inl (hw _ (List.mem_of_getElem? (i := 46) rfl))) (by decide) (t := .int) (t' := .long) (by decide) (by decide)))
  have F_onTheWay_a := F_onTheWay_a.other W15 (Or.inr (slot_ne (Or.inl (hw _ (List.mem_of_getElem? (i := 79) rfl))) (Or.inl (hw _ (List.mem_of_getElem? (i := 46) rfl))) (by decide) (t := .int) (t' := .long) (by decide) (by decide)))
  have F_sent_a := F_sent_a.other W15 (Or.inr (slot_ne (Or.inl (hw _ (List.mem_of_getElem? (i := 70) rfl))) (Or.inl (hw _ (List.mem_of_getElem? (i := 46) rfl))) (by decide) (t := .long) (t' := .long) (by decide) (by decide)))
  have F_shrunkAfter_a := F_shrunkAfter_a.other W15 (Or.inr (slot_ne (Or.inl (hw _ (List.mem_of_getElem? (i := 72) rfl))) (Or.inl (hw _ (List.mem_of_getElem? (i := 46) rfl))) (by decide) (t := .long) (t' := .long) (by decide) (by decide)))
  have V_t1 := V_t1.other W15 ne_t1_a
  have O := O.wr W15 g_a
  have K := K.wr W15 (Or.inl (List.mem_of_getElem? (i := 0) rfl))
  have N15 := Fr.snoc X15 N14 g_a
  have w16 : ∀ t, Steps p.tables e below (T15.setTop (mkF m 118 #[.val (.ref a), .val (.long (0 : Int64)), .second] [])) t → Steps p.tables e below (s₁.setTop (entryFrame m #[(.ref a), (.long (0 : Int64))] 3)) t := fun t k => by
    refine pre0 t ?_
    refine XS.aloadN X0.here hx rfl (hb hby d4_0) rfl rfl ?_
    show Steps p.tables e below (s₁.setTop (mkF m 1 #[.val (.ref a), .val (.long (0 : Int64)), .second] [(.ref a)])) _
    refine XS.aloadN X0.here hx rfl (hb hby d4_1) rfl rfl ?_
    show Steps p.tables e below (s₁.setTop (mkF m 2 #[.val (.ref a), .val (.long (0 : Int64)), .second] [(.ref a), (.ref a)])) _
    refine st1 _ ?_
    show Steps p.tables e below (T1.setTop (mkF m 5 #[.val (.ref a), .val (.long (0 : Int64)), .second] [(.long (9223372036854775807 : Int64)), (.ref a)])) _
    refine XS.lloadN X1.here hx rfl (hb hby d4_5) rfl ?_
    show Steps p.tables e below (T1.setTop (mkF m 6 #[.val (.ref a), .val (.long (0 : Int64)), .second] [(.long (0 : Int64)), (.long (9223372036854775807 : Int64)), (.ref a)])) _
    refine st2 _ ?_
    show Steps p.tables e below (T2.setTop (mkF m 9 #[.val (.ref a), .val (.long (0 : Int64)), .second] [(.long (0 : Int64)), (.ref a)])) _
    refine st3 _ ?_
    show Steps p.tables e below (T3.setTop (mkF m 12 #[.val (.ref a), .val (.long (0 : Int64)), .second] [])) _
    refine XS.aloadN X3.here hx rfl (hb hby d4_12) rfl rfl ?_
    show Steps p.tables e below (T3.setTop (mkF m 13 #[.val (.ref a), .val (.long (0 : Int64)), .second] [(.ref a)])) _
    refine st4 _ ?_
    show Steps p.tables e below (T4.setTop (mkF m 16 #[.val (.ref a), .val (.long (0 : Int64)), .second] [(.ref t1)])) _
    refine XS.aloadN X4.here hx rfl (hb hby d4_16) rfl rfl ?_
    show Steps p.tables e below (T4.setTop (mkF m 17 #[.val (.ref a), .val (.long (0 : Int64)), .second] [(.ref a), (.ref t1)])) _
    refine st5 _ ?_
    show Steps p.tables e below (T5.setTop (mkF m 20 #[.val (.ref a), .val (.long (0 : Int64)), .second] [(.int (0 : Int32)), (.ref t1)])) _
    refine XS.lloadN X5.here hx rfl (hb hby d4_20) rfl ?_
    show Steps p.tables e below (T5.setTop (mkF m 21 #[.val (.ref a), .val (.long (0 : Int64)), .second] [(.long (0 : Int64)), (.int (0 : Int32)), (.ref t1)])) _
    refine st7 _ ?_
    show Steps p.tables e below (T7.setTop (mkF m 22 #[.val (.ref a), .val (.long (0 : Int64)), .second] [])) _
    refine XS.aloadN X7.here hx rfl (hb hby d4_22) rfl rfl ?_
    show Steps p.tables e below (T7.setTop (mkF m 23 #[.val (.ref a), .val (.long (0 : Int64)), .second] [(.ref a)])) _
    refine XS.aloadN X7.here hx rfl (hb hby d4_23) rfl rfl ?_
    show Steps p.tables e below (T7.setTop (mkF m 24 #[.val (.ref a), .val (.long (0 : Int64)), .second] [(.ref a), (.ref a)])) _
    refine st8 _ ?_
    show Steps p.tables e below (T8.setTop (mkF m 27 #[.val (.ref a), .val (.long (0 : Int64)), .second] [(.int (0 : Int32)), (.ref a)])) _
    refine XS.iconst X8.here hx rfl (hb hby d4_27) ?_
    show Steps p.tables e below (T8.setTop (mkF m 28 #[.val (.ref a), .val (.long (0 : Int64)), .second] [(.int (1 : Int32)), (.int (0 : Int32)), (.ref a)])) _
    refine XS.iadd X8.here hx rfl (hb hby d4_28) rfl ?_
    show Steps p.tables e below (T8.setTop (mkF m 29 #[.val (.ref a), .val (.long (0 : Int64)), .second] [(.int (1 : Int32)), (.ref a)])) _
    refine XS.iconst X8.here hx rfl (hb hby d4_29) ?_
    show Steps p.tables e below (T8.setTop (mkF m 30 #[.val (.ref a), .val (.long (0 : Int64)), .second] [(.int (4 : Int32)), (.int (1 : Int32)), (.ref a)])) _
    refine XS.irem X8.here hx rfl (hb hby d4_30) rfl (by decide) ?_
    show Steps p.tables e below (T8.setTop (mkF m 31 #[.val (.ref a), .val (.long (0 : Int64)), .second] [(.int (1 : Int32)), (.ref a)])) _
    refine st9 _ ?_
    show Steps p.tables e below (T9.setTop (mkF m 34 #[.val (.ref a), .val (.long (0 : Int64)), .second] [])) _
    refine XS.aloadN X9.here hx rfl (hb hby d4_34) rfl rfl ?_
    show Steps p.tables e below (T9.setTop (mkF m 35 #[.val (.ref a), .val (.long (0 : Int64)), .second] [(.ref a)])) _
    refine XS.aloadN X9.here hx rfl (hb hby d4_35) rfl rfl ?_
    show Steps p.tables e below (T9.setTop (mkF m 36 #[.val (.ref a), .val (.long (0 : Int64)), .second] [(.ref a), (.ref a)])) _
    refine st10 _ ?_
    show Steps p.tables e below (T10.setTop (mkF m 39 #[.val (.ref a), .val (.long (0 : Int64)), .second] [(.int (0 : Int32)), (.ref a)])) _
    refine XS.iconst X10.here hx rfl (hb hby d4_39) ?_
    show Steps p.tables e below (T10.setTop (mkF m 40 #[.val (.ref a), .val (.long (0 : Int64)), .second] [(.int (1 : Int32)), (.int (0 : Int32)), (.ref a)])) _
    refine XS.iadd X10.here hx rfl (hb hby d4_40) rfl ?_
    show Steps p.tables e below (T10.setTop (mkF m 41 #[.val (.ref a), .val (.long (0 : Int64)), .second] [(.int (1 : Int32)), (.ref a)])) _
    refine XS.iconst X10.here hx rfl (hb hby d4_41) ?_
    show Steps p.tables e below (T10.setTop (mkF m 42 #[.val (.ref a), .val (.long (0 : Int64)), .second] [(.int (4 : Int32)), (.int (1 : Int32)), (.ref a)])) _
    refine st11 _ ?_
    show Steps p.tables e below (T11.setTop (mkF m 45 #[.val (.ref a), .val (.long (0 : Int64)), .second] [(.int (1 : Int32)), (.ref a)])) _
    refine st12 _ ?_
    show Steps p.tables e below (T12.setTop (mkF m 48 #[.val (.ref a), .val (.long (0 : Int64)), .second] [])) _
    refine XS.aloadN X12.here hx rfl (hb hby d4_48) rfl rfl ?_
    show Steps p.tables e below (T12.setTop (mkF m 49 #[.val (.ref a), .val (.long (0 : Int64)), .second] [(.ref a)])) _
    refine st13 _ ?_
    show Steps p.tables e below (T13.setTop (mkF m 52 #[.val (.ref a), .val (.long (0 : Int64)), .second] [(.long (-1 : Int64))])) _
    refine XS.lconst X13.here hx rfl (hb hby d4_52) ?_
    show Steps p.tables e below (T13.setTop (mkF m 53 #[.val (.ref a), .val (.long (0 : Int64)), .second] [(.long (0 : Int64)), (.long (-1 : Int64))])) _
    refine XS.lcmp X13.here hx rfl (hb hby d4_53) rfl ?_
    show Steps p.tables e below (T13.setTop (mkF m 54 #[.val (.ref a), .val (.long (0 : Int64)), .second] [(.int (-1 : Int32))])) _
    refine XS.ifNo X13.here hx rfl (hb hby d4_54) rfl ((if0 _ _).trans (tlt ((by decide) : (-1 : Int32) < (0 : Int32))).2.1) ?_
    show Steps p.tables e below (T13.setTop (mkF m 57 #[.val (.ref a), .val (.long (0 : Int64)), .second] [])) _
    refine XS.aloadN X13.here hx rfl (hb hby d4_57) rfl rfl ?_
    show Steps p.tables e below (T13.setTop (mkF m 58 #[.val (.ref a), .val (.long (0 : Int64)), .second] [(.ref a)])) _
    refine XS.lloadN X13.here hx rfl (hb hby d4_58) rfl ?_
    show Steps p.tables e below (T13.setTop (mkF m 59 #[.val (.ref a), .val (.long (0 : Int64)), .second] [(.long (0 : Int64)), (.ref a)])) _
    refine st14 _ ?_
    show Steps p.tables e below (T14.setTop (mkF m 62 #[.val (.ref a), .val (.long (0 : Int64)), .second] [])) _
    refine XS.aloadN X14.here hx rfl (hb hby d4_62) rfl rfl ?_
    show Steps p.tables e below (T14.setTop (mkF m 63 #[.val (.ref a), .val (.long (0 : Int64)), .second] [(.ref a)])) _
    refine XS.lloadN X14.here hx rfl (hb hby d4_63) rfl ?_
    show Steps p.tables e below (T14.setTop (mkF m 64 #[.val (.ref a), .val (.long (0 : Int64)), .second] [(.long (0 : Int64)), (.ref a)])) _
    refine X14.ldc2Long hx hown (mvT hZ (hw _ (List.mem_of_getElem? (i := 44) rfl))) (g := (mkF m 64 #[.val (.ref a), .val (.long (0 : Int64)), .second] [(.long (0 : Int64)), (.ref a)])) rfl (hb hby d4_64) _ ?_
    show Steps p.tables e below (T14.setTop (mkF m 67 #[.val (.ref a), .val (.long (0 : Int64)), .second] [(.long (2 : Int64)), (.long (0 : Int64)), (.ref a)])) _
    refine XS.ldiv X14.here hx rfl (hb hby d4_67) rfl (by decide) ?_
    show Steps p.tables e below (T14.setTop (mkF m 68 #[.val (.ref a), .val (.long (0 : Int64)), .second] [(.long (0 : Int64)), (.ref a)])) _
    refine st15 _ ?_
    show Steps p.tables e below (T15.setTop (mkF m 71 #[.val (.ref a), .val (.long (0 : Int64)), .second] [])) _
    refine XS.goto X15.here hx rfl (pc0 := 71) (pc' := 118) rfl (hb hby d4_71) (by decide) (by decide) ?_
    show Steps p.tables e below (T15.setTop (mkF m 118 #[.val (.ref a), .val (.long (0 : Int64)), .second] [])) _
    exact k
  obtain ⟨fs, hr, hrun, hended, hW, hsame⟩ := X15.leave (v := none) (fun _ => rfl)
  refine ⟨_, _, w16 _ ?_, hrun, hended, _, _, rfl, ?_, ⟨_, rfl⟩, hW, hsame.mono (by decide) (by decide)⟩
  · exact X15.returnOut hx Bd.returns (hb hby d4_118) hr
  · show Q4_0 Z a t1 kt  h0 n0 _ T15.heap _
    rw [e15]
    exact ⟨rfl, N15, K, F_window_a, F_threshold_a, F_paceAt_a, F_smoothedRtt_a, F_leastRtt_a, F_latestRtts_a, F_nextLatest_a, F_latestCount_a, F_rttVariation_a, F_onTheWay_a, F_sent_a, F_shrunkAfter_a, V_t1⟩
theorem d4_74 : decode prog_61_method_8_code 74 = .ok (.aload_n 0, 1) := by decide +kernel
theorem d4_75 : decode prog_61_method_8_code 75 = .ok (.ldc2_w 96, 3) := by decide +kernel
theorem d4_78 : decode prog_61_method_8_code 78 = .ok (.aload_n 0, 1) := by decide +kernel
theorem d4_79 : decode prog_61_method_8_code 79 = .ok (.getfield 93, 3) := by decide +kernel
theorem d4_82 : decode prog_61_method_8_code 82 = .ok (.lmul, 1) := by decide +kernel
theorem d4_83 : decode prog_61_method_8_code 83 = .ok (.aload_n 0, 1) := by decide +kernel
theorem d4_84 : decode prog_61_method_8_code 84 = .ok (.getfield 31, 3) := by decide +kernel
theorem d4_87 : decode prog_61_method_8_code 87 = .ok (.lload_n 1, 1) := by decide +kernel
theorem d4_88 : decode prog_61_method_8_code 88 = .ok (.lsub, 1) := by decide +kernel
theorem d4_89 : decode prog_61_method_8_code 89 = .ok (.invokestatic 98, 3) := by decide +kernel
theorem pd__40J_41J : parseMethodDescriptor "(J)J" = some ⟨[.long], some .long⟩ := by decide +kernel
theorem d4_92 : decode prog_61_method_8_code 92 = .ok (.ladd, 1) := by decide +kernel
theorem d4_93 : decode prog_61_method_8_code 93 = .ok (.ldc2_w 102, 3) := by decide +kernel
theorem d4_96 : decode prog_61_method_8_code 96 = .ok (.ldiv, 1) := by decide +kernel
theorem d4_97 : decode prog_61_method_8_code 97 = .ok (.putfield 93, 3) := by decide +kernel
theorem d4_100 : decode prog_61_method_8_code 100 = .ok (.aload_n 0, 1) := by decide +kernel
theorem d4_101 : decode prog_61_method_8_code 101 = .ok (.ldc2_w 104, 3) := by decide +kernel
theorem d4_104 : decode prog_61_method_8_code 104 = .ok (.aload_n 0, 1) := by decide +kernel
theorem d4_105 : decode prog_61_method_8_code 105 = .ok (.getfield 31, 3) := by decide +kernel
theorem d4_108 : decode prog_61_method_8_code 108 = .ok (.lmul, 1) := by decide +kernel
theorem d4_109 : decode prog_61_method_8_code 109 = .ok (.lload_n 1, 1) := by decide +kernel
theorem d4_110 : decode prog_61_method_8_code 110 = .ok (.ladd, 1) := by decide +kernel
theorem d4_111 : decode prog_61_method_8_code 111 = .ok (.ldc2_w 106, 3) := by decide +kernel
theorem d4_114 : decode prog_61_method_8_code 114 = .ok (.ldiv, 1) := by decide +kernel
theorem d4_115 : decode prog_61_method_8_code 115 = .ok (.putfield 31, 3) := by decide +kernel
theorem ef_4_1 (m : MethodId) (x0 : Addr) : entryFrame m #[(.ref x0), (.long (50 : Int64))] 3 = mkF m 0 #[.val (.ref x0), .val (.long (50 : Int64)), .second] [] := by first | (simp [entryFrame, mkF, argsToLocals, Value.category]; done) | rfl
def Q4_1 (Z : State) (a : Addr) (t1 : Addr) (kt : ClassId) (h0 : Heap) (n0 : Nat) (v : Option Value) (h : Heap) (L : List Loc) : Prop := v = none ∧ Fr n0 L ∧ Keep h0 h [a, t1] ∧ Fld Z h a "com/example/hashmesh/hashmesh/mesh/Congestion" "window" "D" (.double (4621819117588971520 : UInt64)) ∧ Fld Z h a "com/example/hashmesh/hashmesh/mesh/Congestion" "threshold" "D" (.double (4634204016564240384 : UInt64)) ∧ Fld Z h a "com/example/hashmesh/hashmesh/mesh/Congestion" "paceAt" "D" (.double (18442240474082181120 : UInt64)) ∧ Fld Z h a "com/example/hashmesh/hashmesh/mesh/Congestion" "smoothedRtt" "J" (.long (6 : Int64)) ∧ Fld Z h a "com/example/hashmesh/hashmesh/mesh/Congestion" "leastRtt" "J" (.long (0 : Int64)) ∧ Fld Z h a "com/example/hashmesh/hashmesh/mesh/Congestion" "latestRtts" "[J" (.ref t1) ∧ Fld Z h a "com/example/hashmesh/hashmesh/mesh/Congestion" "nextLatest" "I" (.int (2 : Int32)) ∧ Fld Z h a "com/example/hashmesh/hashmesh/mesh/Congestion" "latestCount" "I" (.int (2 : Int32)) ∧ Fld Z h a "com/example/hashmesh/hashmesh/mesh/Congestion" "rttVariation" "J" (.long (12 : Int64)) ∧ Fld Z h a "com/example/hashmesh/hashmesh/mesh/Congestion" "onTheWay" "I" (.int (0 : Int32)) ∧ Fld Z h a "com/example/hashmesh/hashmesh/mesh/Congestion" "sent" "J" (.long (0 : Int64)) ∧ Fld Z h a "com/example/hashmesh/hashmesh/mesh/Congestion" "shrunkAfter" "J" (.long (0 : Int64)) ∧ Arv Z h t1 kt .long (4 : Int32) [(.long (0 : Int64)), (.long (50 : Int64)), (.long (0 : Int64)), (.long (0 : Int64))] (.long (0 : Int64))
set_option maxRecDepth 65536 in
set_option maxHeartbeats 40000000 in
theorem rm4_1 (l : Launch) (Z : State) (a0 : Array Value) (hw : ∀ d ∈ tables_1, d.before a0 Z = true) (ws : List Jvm.Cond) (a : Addr) (t1 : Addr) (kt : ClassId) (h0 : Heap) (n0 : Nat) (O0 : Old Z n0 h0) (E_a : Exa Z h0 a "com/example/hashmesh/hashmesh/mesh/Congestion") (F_window_a : Fld Z h0 a "com/example/hashmesh/hashmesh/mesh/Congestion" "window" "D" (.double (4621819117588971520 : UInt64))) (F_threshold_a : Fld Z h0 a "com/example/hashmesh/hashmesh/mesh/Congestion" "threshold" "D" (.double (4634204016564240384 : UInt64))) (F_paceAt_a : Fld Z h0 a "com/example/hashmesh/hashmesh/mesh/Congestion" "paceAt" "D" (.double (18442240474082181120 : UInt64))) (F_smoothedRtt_a : Fld Z h0 a "com/example/hashmesh/hashmesh/mesh/Congestion" "smoothedRtt" "J" (.long (0 : Int64))) (F_leastRtt_a : Fld Z h0 a "com/example/hashmesh/hashmesh/mesh/Congestion" "leastRtt" "J" (.long (0 : Int64))) (F_latestRtts_a : Fld Z h0 a "com/example/hashmesh/hashmesh/mesh/Congestion" "latestRtts" "[J" (.ref t1)) (F_nextLatest_a : Fld Z h0 a "com/example/hashmesh/hashmesh/mesh/Congestion" "nextLatest" "I" (.int (1 : Int32))) (F_latestCount_a : Fld Z h0 a "com/example/hashmesh/hashmesh/mesh/Congestion" "latestCount" "I" (.int (1 : Int32))) (F_rttVariation_a : Fld Z h0 a "com/example/hashmesh/hashmesh/mesh/Congestion" "rttVariation" "J" (.long (0 : Int64))) (F_onTheWay_a : Fld Z h0 a "com/example/hashmesh/hashmesh/mesh/Congestion" "onTheWay" "I" (.int (0 : Int32))) (F_sent_a : Fld Z h0 a "com/example/hashmesh/hashmesh/mesh/Congestion" "sent" "J" (.long (0 : Int64))) (F_shrunkAfter_a : Fld Z h0 a "com/example/hashmesh/hashmesh/mesh/Congestion" "shrunkAfter" "J" (.long (0 : Int64))) (V_t1 : Arv Z h0 t1 kt .long (4 : Int32) [(.long (0 : Int64)), (.long (0 : Int64)), (.long (0 : Int64)), (.long (0 : Int64))] (.long (0 : Int64))) (g_a : n0 ≤ a) (g_t1 : n0 ≤ t1) :
    MetFree l (⟨"com/example/hashmesh/hashmesh/mesh/Congestion", "measured", "(J)V"⟩ : MethodName) (head1 (Jvm.Cond.code (⟨"com/example/hashmesh/hashmesh/mesh/Congestion", "measured", "(J)V"⟩ : MethodName) prog_61_method_8_code 3 none :: ws) ({ frames := 1, cells := 0, slots := 0, locals := 16 } : Room)) (fun aA uU => aA = #[(.ref a), (.long (50 : Int64))] ∧ Z.Warmed39 uU.vm ∧ uU.heap = h0) (fun _ _ _ _ _ => True) (fun _ uU oO uU' => ∃ vV lL, oO = .returned vV ∧ Q4_1 Z a t1 kt  h0 n0 vV uU'.heap lL ∧ FrameEnd uU oO uU' lL ({ frames := 1, cells := 0, slots := 0, locals := 16 } : Room).cells ({ frames := 1, cells := 0, slots := 0, locals := 16 } : Room).slots) := by
  refine MetFree.of_bodySF (plainFor_of_name pn_com_example_hashmesh_hashmesh_mesh_Congestion) hisR ?_
  intro p e s m args below meth c s₁ Bd hml0 hP hK
  obtain ⟨rfl, hZ, hh⟩ := hP
  have hx := Bd.exec
  have hby := Bd.bytes
  have hml : c.maxLocals = 3 := hml0
  have hown : s.vm.findClass "com/example/hashmesh/hashmesh/mesh/Congestion" = some m.cls := findClass_of_methodNamed Bd.named
  have hnm := (name_of_methodNamed Bd.named Bd.method).1
  have X0 : Stand p l e ({ frames := 1, cells := 0, slots := 0, locals := 16 } : Room) s m #[(.ref a), (.long (50 : Int64))] below meth c s₁ [] 0 0 := Stand.of_body Bd
  have e0 : s₁.heap = h0 := by rw [← hh, Bd.state]; rfl
  have N0 := Fr.nil n0
  have O := O0
  have K := Keep.refl h0 [a, t1]
  have pre0 : ∀ t, Steps p.tables e below (s₁.setTop (mkF m 0 #[.val (.ref a), .val (.long (50 : Int64)), .second] [])) t → Steps p.tables e below (s₁.setTop (entryFrame m #[(.ref a), (.long (50 : Int64))] 3)) t := fun t k => castTop (ef_4_1 m a) k
  obtain ⟨T1, X1, e1, st1⟩ := getF X0 hx hZ hown (host := "") (Or.inl (hw _ (List.mem_of_getElem? (i := 26) rfl))) Via.refl e0 F_leastRtt_a (g := (mkF m 2 #[.val (.ref a), .val (.long (50 : Int64)), .second] [(.ref a), (.ref a)])) rfl rfl (hb hby d4_2)
  obtain ⟨_, _, ⟨T2, L2, k2, n2⟩, -, X2, ⟨Lc2, hQ2, l2, y2, z2⟩, st2⟩ := Jvm.LawKit.callS X1 hx (y := (⟨"java/lang/Math", "min", "(JJ)J"⟩ : MethodName)) hown (mvT hZ (hw _ (List.mem_of_getElem? (i := 36) rfl))) (mvT hZ (hw _ (List.mem_of_getElem? (i := 37) rfl))) (mvT hZ (hw _ (List.mem_of_getElem? (i := 2) rfl))) (mvT hZ (hw _ (List.mem_of_getElem? (i := 38) rfl))) (by decide) (backOf (W := 1) (rm5_a l Z a0 hw [] (0 : Int64) (50 : Int64) h0 n0 O (by decide)) hZ (hw _ (List.mem_of_getElem? (i := 38) rfl)) (hw _ (List.mem_of_getElem? (i := 2) rfl)) (by decide) (by decide)) (g := (mkF m 6 #[.val (.ref a), .val (.long (50 : Int64)), .second] [(.long (50 : Int64)), (.long (0 : Int64)), (.ref a)])) rfl (by rw [hml]; rfl) (argsL := [(.long (0 : Int64)), (.long (50 : Int64))]) (rest := [(.ref a)]) (lenOf pd__40JJ_41J rfl) rfl (by show 2 * 0 + _ ≤ _; exact Nat.le_of_eq rfl) (hb hby d4_6) (fun _ _ => ⟨rfl, e1, (by decide : 0 + 0 ≤ _), (by decide : 0 + 0 ≤ _)⟩)
  dsimp only [Pt.U, Pt.locs, Pt.cells, Pt.slots] at X2 l2 y2 z2 st2 hQ2
  subst l2 y2 z2
  obtain ⟨rfl, N2q, eh2⟩ := hQ2
  have N2 := Fr.app N0 N2q
  have ne_t1_a : t1 ≠ a := (Ne.symm (Exa.neArv E_a V_t1 (hw _ (List.mem_of_getElem? (i := 5) rfl))))
  obtain ⟨T3, h3, X3, e3, W3, st3⟩ := putF X2 hx hZ hown (host := "") (Or.inl (hw _ (List.mem_of_getElem? (i := 26) rfl))) Via.refl eh2 F_leastRtt_a E_a (Or.inl (hw _ (List.mem_of_getElem? (i := 27) rfl))) (hw _ (List.mem_of_getElem? (i := 5) rfl)) (ty := .long) (by decide) rfl rfl (g := (mkF m 9 #[.val (.ref a), .val (.long (50 : Int64)), .second] [(.long (0 : Int64)), (.ref a)])) rfl rfl (hb hby d4_9)
  have F_leastRtt_a := F_leastRtt_a.same W3
  have E_a := E_a.wr W3
  have F_window_a := F_window_a.other W3 (Or.inr (slot_ne (Or.inl (hw _ (List.mem_of_getElem? (i := 15) rfl))) (Or.inl (hw _ (List.mem_of_getElem? (i := 27) rfl))) (by decide) (t := .double) (t' := .long) (by decide) (by decide)))
  have F_threshold_a := F_threshold_a.other W3 (Or.inr (slot_ne (Or.inl (hw _ (List.mem_of_getElem? (i := 18) rfl))) (Or.inl (hw _ (List.mem_of_getElem? (i := 27) rfl))) (by decide) (t := .double) (t' := .long) (by decide) (by decide)))
  have F_paceAt_a := F_paceAt_a.other W3 (Or.inr (slot_ne (Or.inl (hw _ (List.mem_of_getElem? (i := 21) rfl))) (Or.inl (hw _ (List.mem_of_getElem? (i := 27) rfl))) (by decide) (t := .double) (t' := .long) (by decide) (by decide)))
  have F_smoothedRtt_a := F_smoothedRtt_a.other W3 (Or.inr (slot_ne (Or.inl (hw _ (List.mem_of_getElem? (i := 24) rfl))) (Or.inl (hw _ (List.mem_of_getElem? (i := 27) rfl))) (by decide) (t := .long) (t' := .long) (by decide) (by decide)))
  have F_latestRtts_a := F_latestRtts_a.other W3 (Or.inr (slot_ne (Or.inr (hw _ (List.mem_of_getElem? (i := 30) rfl))) (Or.inl (hw _ (List.mem_of_getElem? (i := 27) rfl))) (by decide) (t := (.array .long)) (t' := .long) (by decide) (by decide)))
  have F_nextLatest_a := F_nextLatest_a.other W3 (Or.inr (slot_ne (Or.inl (hw _ (List.mem_of_getElem? (i := 40) rfl))) (Or.inl (hw _ (List.mem_of_getElem? (i := 27) rfl))) (by decide) (t := .int) (t' := .long) (by decide) (by decide)))
  have F_latestCount_a := F_latestCount_a.other W3 (Or.inr (slot_ne (Or.inl (hw _ (List.mem_of_getElem? (i := 42) rfl))) (Or.inl (hw _ (List.mem_of_getElem? (i := 27) rfl))) (by decide) (t := .int) (t' := .long) (by decide) (by decide)))
  have F_rttVariation_a := F_rttVariation_a.other W3 (Or.inr (slot_ne (Or.inl (hw _ (List.mem_of_getElem? (i := 46) rfl))) (Or.inl (hw _ (List.mem_of_getElem? (i := 27) rfl))) (by decide) (t := .long) (t' := .long) (by decide) (by decide)))
  have F_onTheWay_a := F_onTheWay_a.other W3 (Or.inr (slot_ne (Or.inl (hw _ (List.mem_of_getElem? (i := 79) rfl))) (Or.inl (hw _ (List.mem_of_getElem? (i := 27) rfl))) (by decide) (t := .int) (t' := .long) (by decide) (by decide)))
  have F_sent_a := F_sent_a.other W3 (Or.inr (slot_ne (Or.inl (hw _ (List.mem_of_getElem? (i := 70) rfl))) (Or.inl (hw _ (List.mem_of_getElem? (i := 27) rfl))) (by decide) (t := .long) (t' := .long) (by decide) (by decide)))
  have F_shrunkAfter_a := F_shrunkAfter_a.other W3 (Or.inr (slot_ne (Or.inl (hw _ (List.mem_of_getElem? (i := 72) rfl))) (Or.inl (hw _ (List.mem_of_getElem? (i := 27) rfl))) (by decide) (t := .long) (t' := .long) (by decide) (by decide)))
  have V_t1 := V_t1.other W3 ne_t1_a
  have O := O.wr W3 g_a
  have K := K.wr W3 (Or.inl (List.mem_of_getElem? (i := 0) rfl))
  have N3 := Fr.snoc X3 N2 g_a
  obtain ⟨T4, X4, e4, st4⟩ := getF X3 hx hZ hown (host := "") (Or.inl (hw _ (List.mem_of_getElem? (i := 29) rfl))) Via.refl e3 F_latestRtts_a (g := (mkF m 13 #[.val (.ref a), .val (.long (50 : Int64)), .second] [(.ref a)])) rfl rfl (hb hby d4_13)
  obtain ⟨T5, X5, e5, st5⟩ := getF X4 hx hZ hown (host := "") (Or.inl (hw _ (List.mem_of_getElem? (i := 39) rfl))) Via.refl e4 F_nextLatest_a (g := (mkF m 17 #[.val (.ref a), .val (.long (50 : Int64)), .second] [(.ref a), (.ref t1)])) rfl rfl (hb hby d4_17)
  obtain ⟨cl6, Ar6, q6, Z6, N6, H6, G6⟩ := id V_t1
  have hin6 : ¬ ((1 : Int32) < 0 ∨ cl6.slots.size ≤ ((1 : Int32)).toNatClampNeg) := inb_of Z6 ⟨by decide, by decide⟩
  obtain ⟨T7, h7, X7, e7, W7, st7⟩ := stJ X5 hx hZ e5 Ar6 (j := (1 : Int32)) hin6 (g := (mkF m 21 #[.val (.ref a), .val (.long (50 : Int64)), .second] [(.long (50 : Int64)), (.int (1 : Int32)), (.ref t1)])) rfl rfl (hb hby d4_21)
  have V_t1 : Arv Z h7 t1 kt .long (4 : Int32) [(.long (0 : Int64)), (.long (50 : Int64)), (.long (0 : Int64)), (.long (0 : Int64))] (.long (0 : Int64)) := Arv.set Ar6 q6 Z6 N6 H6 G6 rfl W7 1 rfl (Nat.le_of_ble_eq_true rfl)
  have E_a := E_a.wr W7
  have F_window_a := F_window_a.other W7 (Or.inl (Ne.symm ne_t1_a))
  have F_threshold_a := F_threshold_a.other W7 (Or.inl (Ne.symm ne_t1_a))
  have F_paceAt_a := F_paceAt_a.other W7 (Or.inl (Ne.symm ne_t1_a))
  have F_smoothedRtt_a := F_smoothedRtt_a.other W7 (Or.inl (Ne.symm ne_t1_a))
  have F_leastRtt_a := F_leastRtt_a.other W7 (Or.inl (Ne.symm ne_t1_a))
  have F_latestRtts_a := F_latestRtts_a.other W7 (Or.inl (Ne.symm ne_t1_a))
  have F_nextLatest_a := F_nextLatest_a.other W7 (Or.inl (Ne.symm ne_t1_a))
  have F_latestCount_a := F_latestCount_a.other W7 (Or.inl (Ne.symm ne_t1_a))
  have F_rttVariation_a := F_rttVariation_a.other W7 (Or.inl (Ne.symm ne_t1_a))
  have F_onTheWay_a := F_onTheWay_a.other W7 (Or.inl (Ne.symm ne_t1_a))
  have F_sent_a := F_sent_a.other W7 (Or.inl (Ne.symm ne_t1_a))
  have F_shrunkAfter_a := F_shrunkAfter_a.other W7 (Or.inl (Ne.symm ne_t1_a))
  have O := O.wr W7 g_t1
  have K := K.wr W7 (Or.inl (List.mem_of_getElem? (i := 1) rfl))
  have N7 := Fr.snoc X7 N3 g_t1
  obtain ⟨T8, X8, e8, st8⟩ := getF X7 hx hZ hown (host := "") (Or.inl (hw _ (List.mem_of_getElem? (i := 39) rfl))) Via.refl e7 F_nextLatest_a (g := (mkF m 24 #[.val (.ref a), .val (.long (50 : Int64)), .second] [(.ref a), (.ref a)])) rfl rfl (hb hby d4_24)
  obtain ⟨T9, h9, X9, e9, W9, st9⟩ := putF X8 hx hZ hown (host := "") (Or.inl (hw _ (List.mem_of_getElem? (i := 39) rfl))) Via.refl e8 F_nextLatest_a E_a (Or.inl (hw _ (List.mem_of_getElem? (i := 40) rfl))) (hw _ (List.mem_of_getElem? (i := 5) rfl)) (ty := .int) (by decide) rfl rfl (g := (mkF m 31 #[.val (.ref a), .val (.long (50 : Int64)), .second] [(.int (2 : Int32)), (.ref a)])) rfl rfl (hb hby d4_31)
  have F_nextLatest_a := F_nextLatest_a.same W9
  have E_a := E_a.wr W9
  have F_window_a := F_window_a.other W9 (Or.inr (slot_ne (Or.inl (hw _ (List.mem_of_getElem? (i := 15) rfl))) (Or.inl (hw _ (List.mem_of_getElem? (i := 40) rfl))) (by decide) (t := .double) (t' := .int) (by decide) (by decide)))
  have F_threshold_a := F_threshold_a.other W9 (Or.inr (slot_ne (Or.inl (hw _ (List.mem_of_getElem? (i := 18) rfl))) (Or.inl (hw _ (List.mem_of_getElem? (i := 40) rfl))) (by decide) (t := .double) (t' := .int) (by decide) (by decide)))
  have F_paceAt_a := F_paceAt_a.other W9 (Or.inr (slot_ne (Or.inl (hw _ (List.mem_of_getElem? (i := 21) rfl))) (Or.inl (hw _ (List.mem_of_getElem? (i := 40) rfl))) (by decide) (t := .double) (t' := .int) (by decide) (by decide)))
  have F_smoothedRtt_a := F_smoothedRtt_a.other W9 (Or.inr (slot_ne (Or.inl (hw _ (List.mem_of_getElem? (i := 24) rfl))) (Or.inl (hw _ (List.mem_of_getElem? (i := 40) rfl))) (by decide) (t := .long) (t' := .int) (by decide) (by decide)))
  have F_leastRtt_a := F_leastRtt_a.other W9 (Or.inr (slot_ne (Or.inl (hw _ (List.mem_of_getElem? (i := 27) rfl))) (Or.inl (hw _ (List.mem_of_getElem? (i := 40) rfl))) (by decide) (t := .long) (t' := .int) (by decide) (by decide)))
  have F_latestRtts_a := F_latestRtts_a.other W9 (Or.inr (slot_ne (Or.inr (hw _ (List.mem_of_getElem? (i := 30) rfl))) (Or.inl (hw _ (List.mem_of_getElem? (i := 40) rfl))) (by decide) (t := (.array .long)) (t' := .int) (by decide) (by decide)))
  have F_latestCount_a := F_latestCount_a.other W9 (Or.inr (slot_ne (Or.inl (hw _ (List.mem_of_getElem? (i := 42) rfl))) (Or.inl (hw _ (List.mem_of_getElem? (i := 40) rfl))) (by decide) (t := .int) (t' := .int) (by decide) (by decide)))
  have F_rttVariation_a := F_rttVariation_a.other W9 (Or.inr (slot_ne (Or.inl (hw _ (List.mem_of_getElem? (i := 46) rfl))) (Or.inl (hw _ (List.mem_of_getElem? (i := 40) rfl))) (by decide) (t := .long) (t' := .int) (by decide) (by decide)))
  have F_onTheWay_a := F_onTheWay_a.other W9 (Or.inr (slot_ne (Or.inl (hw _ (List.mem_of_getElem? (i := 79) rfl))) (Or.inl (hw _ (List.mem_of_getElem? (i := 40) rfl))) (by decide) (t := .int) (t' := .int) (by decide) (by decide)))
  have F_sent_a := F_sent_a.other W9 (Or.inr (slot_ne (Or.inl (hw _ (List.mem_of_getElem? (i := 70) rfl))) (Or.inl (hw _ (List.mem_of_getElem? (i := 40) rfl))) (by decide) (t := .long) (t' := .int) (by decide) (by decide)))
  have F_shrunkAfter_a := F_shrunkAfter_a.other W9 (Or.inr (slot_ne (Or.inl (hw _ (List.mem_of_getElem? (i := 72) rfl))) (Or.inl (hw _ (List.mem_of_getElem? (i := 40) rfl))) (by decide) (t := .long) (t' := .int) (by decide) (by decide)))
  have V_t1 := V_t1.other W9 ne_t1_a
  have O := O.wr W9 g_a
  have K := K.wr W9 (Or.inl (List.mem_of_getElem? (i := 0) rfl))
  have N9 := Fr.snoc X9 N7 g_a
  obtain ⟨T10, X10, e10, st10⟩ := getF X9 hx hZ hown (host := "") (Or.inl (hw _ (List.mem_of_getElem? (i := 41) rfl))) Via.refl e9 F_latestCount_a (g := (mkF m 36 #[.val (.ref a), .val (.long (50 : Int64)), .second] [(.ref a), (.ref a)])) rfl rfl (hb hby d4_36)
  obtain ⟨_, _, ⟨T11, L11, k11, n11⟩, -, X11, ⟨Lc11, hQ11, l11, y11, z11⟩, st11⟩ := Jvm.LawKit.callS X10 hx (y := (⟨"java/lang/Math", "min", "(II)I"⟩ : MethodName)) hown (mvT hZ (hw _ (List.mem_of_getElem? (i := 43) rfl))) (mvT hZ (hw _ (List.mem_of_getElem? (i := 1) rfl))) (mvT hZ (hw _ (List.mem_of_getElem? (i := 2) rfl))) (mvT hZ (hw _ (List.mem_of_getElem? (i := 3) rfl))) (by decide) (backOf (W := 1) (rm1_a l Z a0 hw [] (2 : Int32) (4 : Int32) h9 n0 O (by decide)) hZ (hw _ (List.mem_of_getElem? (i := 3) rfl)) (hw _ (List.mem_of_getElem? (i := 2) rfl)) (by decide) (by decide)) (g := (mkF m 42 #[.val (.ref a), .val (.long (50 : Int64)), .second] [(.int (4 : Int32)), (.int (2 : Int32)), (.ref a)])) rfl (by rw [hml]; rfl) (argsL := [(.int (2 : Int32)), (.int (4 : Int32))]) (rest := [(.ref a)]) (lenOf pd__40II_41I rfl) rfl (by show 2 * 0 + _ ≤ _; exact Nat.le_of_eq rfl) (hb hby d4_42) (fun _ _ => ⟨rfl, e10, (by decide : 0 + 0 ≤ _), (by decide : 0 + 0 ≤ _)⟩)
  dsimp only [Pt.U, Pt.locs, Pt.cells, Pt.slots] at X11 l11 y11 z11 st11 hQ11
  subst l11 y11 z11
  obtain ⟨rfl, N11q, eh11⟩ := hQ11
  have N11 := Fr.app N9 N11q
  obtain ⟨T12, h12, X12, e12, W12, st12⟩ := putF X11 hx hZ hown (host := "") (Or.inl (hw _ (List.mem_of_getElem? (i := 41) rfl))) Via.refl eh11 F_latestCount_a E_a (Or.inl (hw _ (List.mem_of_getElem? (i := 42) rfl))) (hw _ (List.mem_of_getElem? (i := 5) rfl)) (ty := .int) (by decide) rfl rfl (g := (mkF m 45 #[.val (.ref a), .val (.long (50 : Int64)), .second] [(.int (2 : Int32)), (.ref a)])) rfl rfl (hb hby d4_45)
  have F_latestCount_a := F_latestCount_a.same W12
  have E_a := E_a.wr W12
  have F_window_a := F_window_a.other W12 (Or.inr (slot_ne (Or.inl (hw _ (List.mem_of_getElem? (i := 15) rfl))) (Or.inl (hw _ (List.mem_of_getElem? (i := 42) rfl))) (by decide) (t := .double) (t' := .int) (by decide) (by decide)))
  have F_threshold_a := F_threshold_a.other W12 (Or.inr (slot_ne (Or.inl (hw _ (List.mem_of_getElem? (i := 18) rfl))) (Or.inl (hw _ (List.mem_of_getElem? (i := 42) rfl))) (by decide) (t := .double) (t' := .int) (by decide) (by decide)))
  have F_paceAt_a := F_paceAt_a.other W12 (Or.inr (slot_ne (Or.inl (hw _ (List.mem_of_getElem? (i := 21) rfl))) (Or.inl (hw _ (List.mem_of_getElem? (i := 42) rfl))) (by decide) (t := .double) (t' := .int) (by decide) (by decide)))
  have F_smoothedRtt_a := F_smoothedRtt_a.other W12 (Or.inr (slot_ne (Or.inl (hw _ (List.mem_of_getElem? (i := 24) rfl))) (Or.inl (hw _ (List.mem_of_getElem? (i := 42) rfl))) (by decide) (t := .long) (t' := .int) (by decide) (by decide)))
  have F_leastRtt_a := F_leastRtt_a.other W12 (Or.inr (slot_ne (Or.inl (hw _ (List.mem_of_getElem? (i := 27) rfl))) (Or.inl (hw _ (List.mem_of_getElem? (i := 42) rfl))) (by decide) (t := .long) (t' := .int) (by decide) (by decide)))
  have F_latestRtts_a := F_latestRtts_a.other W12 (Or.inr (slot_ne (Or.inr (hw _ (List.mem_of_getElem? (i := 30) rfl))) (Or.inl (hw _ (List.mem_of_getElem? (i := 42) rfl))) (by decide) (t := (.array .long)) (t' := .int) (by decide) (by decide)))
  have F_nextLatest_a := F_nextLatest_a.other W12 (Or.inr (slot_ne (Or.inl (hw _ (List.mem_of_getElem? (i := 40) rfl))) (Or.inl (hw _ (List.mem_of_getElem? (i := 42) rfl))) (by decide) (t := .int) (t' := .int) (by decide) (by decide)))
  have F_rttVariation_a := F_rttVariation_a.other W12 (Or.inr (slot_ne (Or.inl (hw _ (List.mem_of_getElem? (i := 46) rfl))) (Or.inl (hw _ (List.mem_of_getElem? (i := 42) rfl))) (by decide) (t := .long) (t' := .int) (by decide) (by decide)))
  have F_onTheWay_a := F_onTheWay_a.other W12 (Or.inr (slot_ne (Or.inl (hw _ (List.mem_of_getElem? (i := 79) rfl))) (Or.inl (hw _ (List.mem_of_getElem? (i := 42) rfl))) (by decide) (t := .int) (t' := .int) (by decide) (by decide)))
  have F_sent_a := F_sent_a.other W12 (Or.inr (slot_ne (Or.inl (hw _ (List.mem_of_getElem? (i := 70) rfl))) (Or.inl (hw _ (List.mem_of_getElem? (i := 42) rfl))) (by decide) (t := .long) (t' := .int) (by decide) (by decide)))
  have F_shrunkAfter_a := F_shrunkAfter_a.other W12 (Or.inr (slot_ne (Or.inl (hw _ (List.mem_of_getElem? (i := 72) rfl))) (Or.inl (hw _ (List.mem_of_getElem? (i := 42) rfl))) (by decide) (t := .long) (t' := .int) (by decide) (by decide)))
  have V_t1 := V_t1.other W12 ne_t1_a
  have O := O.wr W12 g_a
  have K := K.wr W12 (Or.inl (List.mem_of_getElem? (i := 0) rfl))
  have N12 := Fr.snoc X12 N11 g_a
  obtain ⟨T13, X13, e13, st13⟩ := getF X12 hx hZ hown (host := "") (Or.inl (hw _ (List.mem_of_getElem? (i := 23) rfl))) Via.refl e12 F_smoothedRtt_a (g := (mkF m 49 #[.val (.ref a), .val (.long (50 : Int64)), .second] [(.ref a)])) rfl rfl (hb hby d4_49)
  obtain ⟨T14, X14, e14, st14⟩ := getF X13 hx hZ hown (host := "") (Or.inl (hw _ (List.mem_of_getElem? (i := 45) rfl))) Via.refl e13 F_rttVariation_a (g := (mkF m 79 #[.val (.ref a), .val (.long (50 : Int64)), .second] [(.ref a), (.long (3 : Int64)), (.ref a)])) rfl rfl (hb hby d4_79)
  obtain ⟨T15, X15, e15, st15⟩ := getF X14 hx hZ hown (host := "") (Or.inl (hw _ (List.mem_of_getElem? (i := 23) rfl))) Via.refl e14 F_smoothedRtt_a (g := (mkF m 84 #[.val (.ref a), .val (.long (50 : Int64)), .second] [(.ref a), (.long (0 : Int64)), (.ref a)])) rfl rfl (hb hby d4_84)
  obtain ⟨_, _, ⟨T16, L16, k16, n16⟩, -, X16, ⟨Lc16, hQ16, l16, y16, z16⟩, st16⟩ := Jvm.LawKit.callS X15 hx (y := (⟨"java/lang/Math", "abs", "(J)J"⟩ : MethodName)) hown (mvT hZ (hw _ (List.mem_of_getElem? (i := 49) rfl))) (mvT hZ (hw _ (List.mem_of_getElem? (i := 50) rfl))) (mvT hZ (hw _ (List.mem_of_getElem? (i := 2) rfl))) (mvT hZ (hw _ (List.mem_of_getElem? (i := 51) rfl))) (by decide) (backOf (W := 3) (rm6_b l Z a0 hw [] (-50 : Int64) h12 n0 O (by decide)) hZ (hw _ (List.mem_of_getElem? (i := 51) rfl)) (hw _ (List.mem_of_getElem? (i := 2) rfl)) (by decide) (by decide)) (g := (mkF m 89 #[.val (.ref a), .val (.long (50 : Int64)), .second] [(.long (-50 : Int64)), (.long (0 : Int64)), (.ref a)])) rfl (by rw [hml]; rfl) (argsL := [(.long (-50 : Int64))]) (rest := [(.long (0 : Int64)), (.ref a)]) (lenOf pd__40J_41J rfl) rfl (by show 2 * 0 + _ ≤ _; exact Nat.le_of_eq rfl) (hb hby d4_89) (fun _ _ => ⟨rfl, e15, (by decide : 0 + 0 ≤ _), (by decide : 0 + 0 ≤ _)⟩)
  dsimp only [Pt.U, Pt.locs, Pt.cells, Pt.slots] at X16 l16 y16 z16 st16 hQ16
  subst l16 y16 z16
  obtain ⟨rfl, N16q, eh16⟩ := hQ16
  have N16 := Fr.app N12 N16q
  obtain ⟨T17, h17, X17, e17, W17, st17⟩ := putF X16 hx hZ hown (host := "") (Or.inl (hw _ (List.mem_of_getElem? (i := 45) rfl))) Via.refl eh16 F_rttVariation_a E_a (Or.inl (hw _ (List.mem_of_getElem? (i := 46) rfl))) (hw _ (List.mem_of_getElem? (i := 5) rfl)) (ty := .long) (by decide) rfl rfl (g := (mkF m 97 #[.val (.ref a), .val (.long (50 : Int64)), .second] [(.long (((0 : Int64) + (-(-50 : Int64))) / (4 : Int64))), (.ref a)])) rfl rfl (hb hby d4_97)
  have F_rttVariation_a := F_rttVariation_a.same W17
  have E_a := E_a.wr W17
  have F_window_a := F_window_a.other W17 (Or.inr (slot_ne (Or.inl (hw _ (List.mem_of_getElem? (i := 15) rfl))) (Or.inl (hw _ (List.mem_of_getElem? (i := 46) rfl))) (by decide) (t := .double) (t' := .long) (by decide) (by decide)))
  have F_threshold_a := F_threshold_a.other W17 (Or.inr (slot_ne (Or.inl (hw _ (List.mem_of_getElem? (i := 18) rfl))) (Or.inl (hw _ (List.mem_of_getElem? (i := 46) rfl))) (by decide) (t := .double) (t' := .long) (by decide) (by decide)))
  have F_paceAt_a := F_paceAt_a.other W17 (Or.inr (slot_ne (Or.inl (hw _ (List.mem_of_getElem? (i := 21) rfl))) (Or.inl (hw _ (List.mem_of_getElem? (i := 46) rfl))) (by decide) (t := .double) (t' := .long) (by decide) (by decide)))
  have F_smoothedRtt_a := F_smoothedRtt_a.other W17 (Or.inr (slot_ne (Or.inl (hw _ (List.mem_of_getElem? (i := 24) rfl))) (Or.inl (hw _ (List.mem_of_getElem? (i := 46) rfl))) (by decide) (t := .long) (t' := .long) (by decide) (by decide)))
  have F_leastRtt_a := F_leastRtt_a.other W17 (Or.inr (slot_ne (Or.inl (hw _ (List.mem_of_getElem? (i := 27) rfl))) (Or.inl (hw _ (List.mem_of_getElem? (i := 46) rfl))) (by decide) (t := .long) (t' := .long) (by decide) (by decide)))
  have F_latestRtts_a := F_latestRtts_a.other W17 (Or.inr (slot_ne (Or.inr (hw _ (List.mem_of_getElem? (i := 30) rfl))) (Or.inl (hw _ (List.mem_of_getElem? (i := 46) rfl))) (by decide) (t := (.array .long)) (t' := .long) (by decide) (by decide)))
  have F_nextLatest_a := F_nextLatest_a.other W17 (Or.inr (slot_ne (Or.inl (hw _ (List.mem_of_getElem? (i := 40) rfl))) (Or.inl (hw _ (List.mem_of_getElem? (i := 46) rfl))) (by decide) (t := .int) (t' := .long) (by decide) (by decide)))
  have F_latestCount_a := F_latestCount_a.other W17 (Or.inr (slot_ne (Or.inl (hw _ (List.mem_of_getElem? (i := 42) rfl))) (Or.inl (hw _ (List.mem_of_getElem? (i := 46) rfl))) (by decide) (t := .int) (t' := .long) (by decide) (by decide)))
  have F_onTheWay_a := F_onTheWay_a.other W17 (Or.inr (slot_ne (Or.inl (hw _ (List.mem_of_getElem? (i := 79) rfl))) (Or.inl (hw _ (List.mem_of_getElem? (i := 46) rfl))) (by decide) (t := .int) (t' := .long) (by decide) (by decide)))
  have F_sent_a := F_sent_a.other W17 (Or.inr (slot_ne (Or.inl (hw _ (List.mem_of_getElem? (i := 70) rfl))) (Or.inl (hw _ (List.mem_of_getElem? (i := 46) rfl))) (by decide) (t := .long) (t' := .long) (by decide) (by decide)))
  have F_shrunkAfter_a := F_shrunkAfter_a.other W17 (Or.inr (slot_ne (Or.inl (hw _ (List.mem_of_getElem? (i := 72) rfl))) (Or.inl (hw _ (List.mem_of_getElem? (i := 46) rfl))) (by decide) (t := .long) (t' := .long) (by decide) (by decide)))
  have V_t1 := V_t1.other W17 ne_t1_a
  have O := O.wr W17 g_a
  have K := K.wr W17 (Or.inl (List.mem_of_getElem? (i := 0) rfl))
  have N17 := Fr.snoc X17 N16 g_a
  obtain ⟨T18, X18, e18, st18⟩ := getF X17 hx hZ hown (host := "") (Or.inl (hw _ (List.mem_of_getElem? (i := 23) rfl))) Via.refl e17 F_smoothedRtt_a (g := (mkF m 105 #[.val (.ref a), .val (.long (50 : Int64)), .second] [(.ref a), (.long (7 : Int64)), (.ref a)])) rfl rfl (hb hby d4_105)
  obtain ⟨T19, h19, X19, e19, W19, st19⟩ := putF X18 hx hZ hown (host := "") (Or.inl (hw _ (List.mem_of_getElem? (i := 23) rfl))) Via.refl e18 F_smoothedRtt_a E_a (Or.inl (hw _ (List.mem_of_getElem? (i := 24) rfl))) (hw _ (List.mem_of_getElem? (i := 5) rfl)) (ty := .long) (by decide) rfl rfl (g := (mkF m 115 #[.val (.ref a), .val (.long (50 : Int64)), .second] [(.long (6 : Int64)), (.ref a)])) rfl rfl (hb hby d4_115)
  have F_smoothedRtt_a := F_smoothedRtt_a.same W19
  have E_a := E_a.wr W19
  have F_window_a := F_window_a.other W19 (Or.inr (slot_ne (Or.inl (hw _ (List.mem_of_getElem? (i := 15) rfl))) (Or.inl (hw _ (List.mem_of_getElem? (i := 24) rfl))) (by decide) (t := .double) (t' := .long) (by decide) (by decide)))
  have F_threshold_a := F_threshold_a.other W19 (Or.inr (slot_ne (Or.inl (hw _ (List.mem_of_getElem? (i := 18) rfl))) (Or.inl (hw _ (List.mem_of_getElem? (i := 24) rfl))) (by decide) (t := .double) (t' := .long) (by decide) (by decide)))
  have F_paceAt_a := F_paceAt_a.other W19 (Or.inr (slot_ne (Or.inl (hw _ (List.mem_of_getElem? (i := 21) rfl))) (Or.inl (hw _ (List.mem_of_getElem? (i := 24) rfl))) (by decide) (t := .double) (t' := .long) (by decide) (by decide)))
  have F_leastRtt_a := F_leastRtt_a.other W19 (Or.inr (slot_ne (Or.inl (hw _ (List.mem_of_getElem? (i := 27) rfl))) (Or.inl (hw _ (List.mem_of_getElem? (i := 24) rfl))) (by decide) (t := .long) (t' := .long) (by decide) (by decide)))
  have F_latestRtts_a := F_latestRtts_a.other W19 (Or.inr (slot_ne (Or.inr (hw _ (List.mem_of_getElem? (i := 30) rfl))) (Or.inl (hw _ (List.mem_of_getElem? (i := 24) rfl))) (by decide) (t := (.array .long)) (t' := .long) (by decide) (by decide)))
  have F_nextLatest_a := F_nextLatest_a.other W19 (Or.inr (slot_ne (Or.inl (hw _ (List.mem_of_getElem? (i := 40) rfl))) (Or.inl (hw _ (List.mem_of_getElem? (i := 24) rfl))) (by decide) (t := .int) (t' := .long) (by decide) (by decide)))
  have F_latestCount_a := F_latestCount_a.other W19 (Or.inr (slot_ne (Or.inl (hw _ (List.mem_of_getElem? (i := 42) rfl))) (Or.inl (hw _ (List.mem_of_getElem? (i := 24) rfl))) (by decide) (t := .int) (t' := .long) (by decide) (by decide)))
  have F_rttVariation_a := F_rttVariation_a.other W19 (Or.inr (slot_ne (Or.inl (hw _ (List.mem_of_getElem? (i := 46) rfl))) (Or.inl (hw _ (List.mem_of_getElem? (i := 24) rfl))) (by decide) (t := .long) (t' := .long) (by decide) (by decide)))
  have F_onTheWay_a := F_onTheWay_a.other W19 (Or.inr (slot_ne (Or.inl (hw _ (List.mem_of_getElem? (i := 79) rfl))) (Or.inl (hw _ (List.mem_of_getElem? (i := 24) rfl))) (by decide) (t := .int) (t' := .long) (by decide) (by decide)))
  have F_sent_a := F_sent_a.other W19 (Or.inr (slot_ne (Or.inl (hw _ (List.mem_of_getElem? (i := 70) rfl))) (Or.inl (hw _ (List.mem_of_getElem? (i := 24) rfl))) (by decide) (t := .long) (t' := .long) (by decide) (by decide)))
  have F_shrunkAfter_a := F_shrunkAfter_a.other W19 (Or.inr (slot_ne (Or.inl (hw _ (List.mem_of_getElem? (i := 72) rfl))) (Or.inl (hw _ (List.mem_of_getElem? (i := 24) rfl))) (by decide) (t := .long) (t' := .long) (by decide) (by decide)))
  have V_t1 := V_t1.other W19 ne_t1_a
  have O := O.wr W19 g_a
  have K := K.wr W19 (Or.inl (List.mem_of_getElem? (i := 0) rfl))
  have N19 := Fr.snoc X19 N17 g_a
  have w20 : ∀ t, Steps p.tables e below (T19.setTop (mkF m 118 #[.val (.ref a), .val (.long (50 : Int64)), .second] [])) t → Steps p.tables e below (s₁.setTop (entryFrame m #[(.ref a), (.long (50 : Int64))] 3)) t := fun t k => by
    refine pre0 t ?_
    refine XS.aloadN X0.here hx rfl (hb hby d4_0) rfl rfl ?_
    show Steps p.tables e below (s₁.setTop (mkF m 1 #[.val (.ref a), .val (.long (50 : Int64)), .second] [(.ref a)])) _
    refine XS.aloadN X0.here hx rfl (hb hby d4_1) rfl rfl ?_
    show Steps p.tables e below (s₁.setTop (mkF m 2 #[.val (.ref a), .val (.long (50 : Int64)), .second] [(.ref a), (.ref a)])) _
    refine st1 _ ?_
    show Steps p.tables e below (T1.setTop (mkF m 5 #[.val (.ref a), .val (.long (50 : Int64)), .second] [(.long (0 : Int64)), (.ref a)])) _
    refine XS.lloadN X1.here hx rfl (hb hby d4_5) rfl ?_
    show Steps p.tables e below (T1.setTop (mkF m 6 #[.val (.ref a), .val (.long (50 : Int64)), .second] [(.long (50 : Int64)), (.long (0 : Int64)), (.ref a)])) _
    refine st2 _ ?_
    show Steps p.tables e below (T2.setTop (mkF m 9 #[.val (.ref a), .val (.long (50 : Int64)), .second] [(.long (0 : Int64)), (.ref a)])) _
    refine st3 _ ?_
    show Steps p.tables e below (T3.setTop (mkF m 12 #[.val (.ref a), .val (.long (50 : Int64)), .second] [])) _
    refine XS.aloadN X3.here hx rfl (hb hby d4_12) rfl rfl ?_
    show Steps p.tables e below (T3.setTop (mkF m 13 #[.val (.ref a), .val (.long (50 : Int64)), .second] [(.ref a)])) _
    refine st4 _ ?_
    show Steps p.tables e below (T4.setTop (mkF m 16 #[.val (.ref a), .val (.long (50 : Int64)), .second] [(.ref t1)])) _
    refine XS.aloadN X4.here hx rfl (hb hby d4_16) rfl rfl ?_
    show Steps p.tables e below (T4.setTop (mkF m 17 #[.val (.ref a), .val (.long (50 : Int64)), .second] [(.ref a), (.ref t1)])) _
    refine st5 _ ?_
    show Steps p.tables e below (T5.setTop (mkF m 20 #[.val (.ref a), .val (.long (50 : Int64)), .second] [(.int (1 : Int32)), (.ref t1)])) _
    refine XS.lloadN X5.here hx rfl (hb hby d4_20) rfl ?_
    show Steps p.tables e below (T5.setTop (mkF m 21 #[.val (.ref a), .val (.long (50 : Int64)), .second] [(.long (50 : Int64)), (.int (1 : Int32)), (.ref t1)])) _
    refine st7 _ ?_
    show Steps p.tables e below (T7.setTop (mkF m 22 #[.val (.ref a), .val (.long (50 : Int64)), .second] [])) _
    refine XS.aloadN X7.here hx rfl (hb hby d4_22) rfl rfl ?_
    show Steps p.tables e below (T7.setTop (mkF m 23 #[.val (.ref a), .val (.long (50 : Int64)), .second] [(.ref a)])) _
    refine XS.aloadN X7.here hx rfl (hb hby d4_23) rfl rfl ?_
    show Steps p.tables e below (T7.setTop (mkF m 24 #[.val (.ref a), .val (.long (50 : Int64)), .second] [(.ref a), (.ref a)])) _
    refine st8 _ ?_
    show Steps p.tables e below (T8.setTop (mkF m 27 #[.val (.ref a), .val (.long (50 : Int64)), .second] [(.int (1 : Int32)), (.ref a)])) _
    refine XS.iconst X8.here hx rfl (hb hby d4_27) ?_
    show Steps p.tables e below (T8.setTop (mkF m 28 #[.val (.ref a), .val (.long (50 : Int64)), .second] [(.int (1 : Int32)), (.int (1 : Int32)), (.ref a)])) _
    refine XS.iadd X8.here hx rfl (hb hby d4_28) rfl ?_
    show Steps p.tables e below (T8.setTop (mkF m 29 #[.val (.ref a), .val (.long (50 : Int64)), .second] [(.int (2 : Int32)), (.ref a)])) _
    refine XS.iconst X8.here hx rfl (hb hby d4_29) ?_
    show Steps p.tables e below (T8.setTop (mkF m 30 #[.val (.ref a), .val (.long (50 : Int64)), .second] [(.int (4 : Int32)), (.int (2 : Int32)), (.ref a)])) _
    refine XS.irem X8.here hx rfl (hb hby d4_30) rfl (by decide) ?_
    show Steps p.tables e below (T8.setTop (mkF m 31 #[.val (.ref a), .val (.long (50 : Int64)), .second] [(.int (2 : Int32)), (.ref a)])) _
    refine st9 _ ?_
    show Steps p.tables e below (T9.setTop (mkF m 34 #[.val (.ref a), .val (.long (50 : Int64)), .second] [])) _
    refine XS.aloadN X9.here hx rfl (hb hby d4_34) rfl rfl ?_
    show Steps p.tables e below (T9.setTop (mkF m 35 #[.val (.ref a), .val (.long (50 : Int64)), .second] [(.ref a)])) _
    refine XS.aloadN X9.here hx rfl (hb hby d4_35) rfl rfl ?_
    show Steps p.tables e below (T9.setTop (mkF m 36 #[.val (.ref a), .val (.long (50 : Int64)), .second] [(.ref a), (.ref a)])) _
    refine st10 _ ?_
    show Steps p.tables e below (T10.setTop (mkF m 39 #[.val (.ref a), .val (.long (50 : Int64)), .second] [(.int (1 : Int32)), (.ref a)])) _
    refine XS.iconst X10.here hx rfl (hb hby d4_39) ?_
    show Steps p.tables e below (T10.setTop (mkF m 40 #[.val (.ref a), .val (.long (50 : Int64)), .second] [(.int (1 : Int32)), (.int (1 : Int32)), (.ref a)])) _
    refine XS.iadd X10.here hx rfl (hb hby d4_40) rfl ?_
    show Steps p.tables e below (T10.setTop (mkF m 41 #[.val (.ref a), .val (.long (50 : Int64)), .second] [(.int (2 : Int32)), (.ref a)])) _
    refine XS.iconst X10.here hx rfl (hb hby d4_41) ?_
    show Steps p.tables e below (T10.setTop (mkF m 42 #[.val (.ref a), .val (.long (50 : Int64)), .second] [(.int (4 : Int32)), (.int (2 : Int32)), (.ref a)])) _
    refine st11 _ ?_
    show Steps p.tables e below (T11.setTop (mkF m 45 #[.val (.ref a), .val (.long (50 : Int64)), .second] [(.int (2 : Int32)), (.ref a)])) _
    refine st12 _ ?_
    show Steps p.tables e below (T12.setTop (mkF m 48 #[.val (.ref a), .val (.long (50 : Int64)), .second] [])) _
    refine XS.aloadN X12.here hx rfl (hb hby d4_48) rfl rfl ?_
    show Steps p.tables e below (T12.setTop (mkF m 49 #[.val (.ref a), .val (.long (50 : Int64)), .second] [(.ref a)])) _
    refine st13 _ ?_
    show Steps p.tables e below (T13.setTop (mkF m 52 #[.val (.ref a), .val (.long (50 : Int64)), .second] [(.long (0 : Int64))])) _
    refine XS.lconst X13.here hx rfl (hb hby d4_52) ?_
    show Steps p.tables e below (T13.setTop (mkF m 53 #[.val (.ref a), .val (.long (50 : Int64)), .second] [(.long (0 : Int64)), (.long (0 : Int64))])) _
    refine XS.lcmp X13.here hx rfl (hb hby d4_53) rfl ?_
    show Steps p.tables e below (T13.setTop (mkF m 54 #[.val (.ref a), .val (.long (50 : Int64)), .second] [(.int (0 : Int32))])) _
    refine XS.ifYes X13.here hx rfl (pc0 := 54) (pc' := 74) rfl (hb hby d4_54) rfl ((if0 _ _).trans (flt ((by decide) : ¬ ((0 : Int32) < (0 : Int32)))).2.1) (by decide) (by decide) ?_
    show Steps p.tables e below (T13.setTop (mkF m 74 #[.val (.ref a), .val (.long (50 : Int64)), .second] [])) _
    refine XS.aloadN X13.here hx rfl (hb hby d4_74) rfl rfl ?_
    show Steps p.tables e below (T13.setTop (mkF m 75 #[.val (.ref a), .val (.long (50 : Int64)), .second] [(.ref a)])) _
    refine X13.ldc2Long hx hown (mvT hZ (hw _ (List.mem_of_getElem? (i := 48) rfl))) (g := (mkF m 75 #[.val (.ref a), .val (.long (50 : Int64)), .second] [(.ref a)])) rfl (hb hby d4_75) _ ?_
    show Steps p.tables e below (T13.setTop (mkF m 78 #[.val (.ref a), .val (.long (50 : Int64)), .second] [(.long (3 : Int64)), (.ref a)])) _
    refine XS.aloadN X13.here hx rfl (hb hby d4_78) rfl rfl ?_
    show Steps p.tables e below (T13.setTop (mkF m 79 #[.val (.ref a), .val (.long (50 : Int64)), .second] [(.ref a), (.long (3 : Int64)), (.ref a)])) _
    refine st14 _ ?_
    show Steps p.tables e below (T14.setTop (mkF m 82 #[.val (.ref a), .val (.long (50 : Int64)), .second] [(.long (0 : Int64)), (.long (3 : Int64)), (.ref a)])) _
    refine XS.lmul X14.here hx rfl (hb hby d4_82) rfl ?_
    show Steps p.tables e below (T14.setTop (mkF m 83 #[.val (.ref a), .val (.long (50 : Int64)), .second] [(.long (0 : Int64)), (.ref a)])) _
    refine XS.aloadN X14.here hx rfl (hb hby d4_83) rfl rfl ?_
    show Steps p.tables e below (T14.setTop (mkF m 84 #[.val (.ref a), .val (.long (50 : Int64)), .second] [(.ref a), (.long (0 : Int64)), (.ref a)])) _
    refine st15 _ ?_
    show Steps p.tables e below (T15.setTop (mkF m 87 #[.val (.ref a), .val (.long (50 : Int64)), .second] [(.long (0 : Int64)), (.long (0 : Int64)), (.ref a)])) _
    refine XS.lloadN X15.here hx rfl (hb hby d4_87) rfl ?_
    show Steps p.tables e below (T15.setTop (mkF m 88 #[.val (.ref a), .val (.long (50 : Int64)), .second] [(.long (50 : Int64)), (.long (0 : Int64)), (.long (0 : Int64)), (.ref a)])) _
    refine XS.lsub X15.here hx rfl (hb hby d4_88) rfl ?_
    show Steps p.tables e below (T15.setTop (mkF m 89 #[.val (.ref a), .val (.long (50 : Int64)), .second] [(.long (-50 : Int64)), (.long (0 : Int64)), (.ref a)])) _
    refine st16 _ ?_
    show Steps p.tables e below (T16.setTop (mkF m 92 #[.val (.ref a), .val (.long (50 : Int64)), .second] [(.long (-(-50 : Int64))), (.long (0 : Int64)), (.ref a)])) _
    refine XS.ladd X16.here hx rfl (hb hby d4_92) rfl ?_
    show Steps p.tables e below (T16.setTop (mkF m 93 #[.val (.ref a), .val (.long (50 : Int64)), .second] [(.long ((0 : Int64) + (-(-50 : Int64)))), (.ref a)])) _
    refine X16.ldc2Long hx hown (mvT hZ (hw _ (List.mem_of_getElem? (i := 52) rfl))) (g := (mkF m 93 #[.val (.ref a), .val (.long (50 : Int64)), .second] [(.long ((0 : Int64) + (-(-50 : Int64)))), (.ref a)])) rfl (hb hby d4_93) _ ?_
    show Steps p.tables e below (T16.setTop (mkF m 96 #[.val (.ref a), .val (.long (50 : Int64)), .second] [(.long (4 : Int64)), (.long ((0 : Int64) + (-(-50 : Int64)))), (.ref a)])) _
    refine XS.ldiv X16.here hx rfl (hb hby d4_96) rfl (by decide) ?_
    show Steps p.tables e below (T16.setTop (mkF m 97 #[.val (.ref a), .val (.long (50 : Int64)), .second] [(.long (((0 : Int64) + (-(-50 : Int64))) / (4 : Int64))), (.ref a)])) _
    refine st17 _ ?_
    show Steps p.tables e below (T17.setTop (mkF m 100 #[.val (.ref a), .val (.long (50 : Int64)), .second] [])) _
    refine XS.aloadN X17.here hx rfl (hb hby d4_100) rfl rfl ?_
    show Steps p.tables e below (T17.setTop (mkF m 101 #[.val (.ref a), .val (.long (50 : Int64)), .second] [(.ref a)])) _
    refine X17.ldc2Long hx hown (mvT hZ (hw _ (List.mem_of_getElem? (i := 53) rfl))) (g := (mkF m 101 #[.val (.ref a), .val (.long (50 : Int64)), .second] [(.ref a)])) rfl (hb hby d4_101) _ ?_
    show Steps p.tables e below (T17.setTop (mkF m 104 #[.val (.ref a), .val (.long (50 : Int64)), .second] [(.long (7 : Int64)), (.ref a)])) _
    refine XS.aloadN X17.here hx rfl (hb hby d4_104) rfl rfl ?_
    show Steps p.tables e below (T17.setTop (mkF m 105 #[.val (.ref a), .val (.long (50 : Int64)), .second] [(.ref a), (.long (7 : Int64)), (.ref a)])) _
    refine st18 _ ?_
    show Steps p.tables e below (T18.setTop (mkF m 108 #[.val (.ref a), .val (.long (50 : Int64)), .second] [(.long (0 : Int64)), (.long (7 : Int64)), (.ref a)])) _
    refine XS.lmul X18.here hx rfl (hb hby d4_108) rfl ?_
    show Steps p.tables e below (T18.setTop (mkF m 109 #[.val (.ref a), .val (.long (50 : Int64)), .second] [(.long (0 : Int64)), (.ref a)])) _
    refine XS.lloadN X18.here hx rfl (hb hby d4_109) rfl ?_
    show Steps p.tables e below (T18.setTop (mkF m 110 #[.val (.ref a), .val (.long (50 : Int64)), .second] [(.long (50 : Int64)), (.long (0 : Int64)), (.ref a)])) _
    refine XS.ladd X18.here hx rfl (hb hby d4_110) rfl ?_
    show Steps p.tables e below (T18.setTop (mkF m 111 #[.val (.ref a), .val (.long (50 : Int64)), .second] [(.long (50 : Int64)), (.ref a)])) _
    refine X18.ldc2Long hx hown (mvT hZ (hw _ (List.mem_of_getElem? (i := 54) rfl))) (g := (mkF m 111 #[.val (.ref a), .val (.long (50 : Int64)), .second] [(.long (50 : Int64)), (.ref a)])) rfl (hb hby d4_111) _ ?_
    show Steps p.tables e below (T18.setTop (mkF m 114 #[.val (.ref a), .val (.long (50 : Int64)), .second] [(.long (8 : Int64)), (.long (50 : Int64)), (.ref a)])) _
    refine XS.ldiv X18.here hx rfl (hb hby d4_114) rfl (by decide) ?_
    show Steps p.tables e below (T18.setTop (mkF m 115 #[.val (.ref a), .val (.long (50 : Int64)), .second] [(.long (6 : Int64)), (.ref a)])) _
    refine st19 _ ?_
    show Steps p.tables e below (T19.setTop (mkF m 118 #[.val (.ref a), .val (.long (50 : Int64)), .second] [])) _
    exact k
  obtain ⟨fs, hr, hrun, hended, hW, hsame⟩ := X19.leave (v := none) (fun _ => rfl)
  refine ⟨_, _, w20 _ ?_, hrun, hended, _, _, rfl, ?_, ⟨_, rfl⟩, hW, hsame.mono (by decide) (by decide)⟩
  · exact X19.returnOut hx Bd.returns (hb hby d4_118) hr
  · show Q4_1 Z a t1 kt  h0 n0 _ T19.heap _
    rw [e19]
    exact ⟨rfl, N19, K, F_window_a, F_threshold_a, F_paceAt_a, F_smoothedRtt_a, F_leastRtt_a, F_latestRtts_a, F_nextLatest_a, F_latestCount_a, F_rttVariation_a, F_onTheWay_a, F_sent_a, F_shrunkAfter_a, V_t1⟩
theorem ef_4_2 (m : MethodId) (x0 : Addr) : entryFrame m #[(.ref x0), (.long (50 : Int64))] 3 = mkF m 0 #[.val (.ref x0), .val (.long (50 : Int64)), .second] [] := by first | (simp [entryFrame, mkF, argsToLocals, Value.category]; done) | rfl
def Q4_2 (Z : State) (a : Addr) (t1 : Addr) (kt : ClassId) (h0 : Heap) (n0 : Nat) (v : Option Value) (h : Heap) (L : List Loc) : Prop := v = none ∧ Fr n0 L ∧ Keep h0 h [a, t1] ∧ Fld Z h a "com/example/hashmesh/hashmesh/mesh/Congestion" "window" "D" (.double (4621819117588971520 : UInt64)) ∧ Fld Z h a "com/example/hashmesh/hashmesh/mesh/Congestion" "threshold" "D" (.double (4634204016564240384 : UInt64)) ∧ Fld Z h a "com/example/hashmesh/hashmesh/mesh/Congestion" "paceAt" "D" (.double (18442240474082181120 : UInt64)) ∧ Fld Z h a "com/example/hashmesh/hashmesh/mesh/Congestion" "smoothedRtt" "J" (.long (11 : Int64)) ∧ Fld Z h a "com/example/hashmesh/hashmesh/mesh/Congestion" "leastRtt" "J" (.long (0 : Int64)) ∧ Fld Z h a "com/example/hashmesh/hashmesh/mesh/Congestion" "latestRtts" "[J" (.ref t1) ∧ Fld Z h a "com/example/hashmesh/hashmesh/mesh/Congestion" "nextLatest" "I" (.int (3 : Int32)) ∧ Fld Z h a "com/example/hashmesh/hashmesh/mesh/Congestion" "latestCount" "I" (.int (3 : Int32)) ∧ Fld Z h a "com/example/hashmesh/hashmesh/mesh/Congestion" "rttVariation" "J" (.long (20 : Int64)) ∧ Fld Z h a "com/example/hashmesh/hashmesh/mesh/Congestion" "onTheWay" "I" (.int (0 : Int32)) ∧ Fld Z h a "com/example/hashmesh/hashmesh/mesh/Congestion" "sent" "J" (.long (0 : Int64)) ∧ Fld Z h a "com/example/hashmesh/hashmesh/mesh/Congestion" "shrunkAfter" "J" (.long (0 : Int64)) ∧ Arv Z h t1 kt .long (4 : Int32) [(.long (0 : Int64)), (.long (50 : Int64)), (.long (50 : Int64)), (.long (0 : Int64))] (.long (0 : Int64))
set_option maxRecDepth 65536 in
set_option maxHeartbeats 40000000 in
theorem rm4_2 (l : Launch) (Z : State) (a0 : Array Value) (hw : ∀ d ∈ tables_1, d.before a0 Z = true) (ws : List Jvm.Cond) (a : Addr) (t1 : Addr) (kt : ClassId) (h0 : Heap) (n0 : Nat) (O0 : Old Z n0 h0) (E_a : Exa Z h0 a "com/example/hashmesh/hashmesh/mesh/Congestion") (F_window_a : Fld Z h0 a "com/example/hashmesh/hashmesh/mesh/Congestion" "window" "D" (.double (4621819117588971520 : UInt64))) (F_threshold_a : Fld Z h0 a "com/example/hashmesh/hashmesh/mesh/Congestion" "threshold" "D" (.double (4634204016564240384 : UInt64))) (F_paceAt_a : Fld Z h0 a "com/example/hashmesh/hashmesh/mesh/Congestion" "paceAt" "D" (.double (18442240474082181120 : UInt64))) (F_smoothedRtt_a : Fld Z h0 a "com/example/hashmesh/hashmesh/mesh/Congestion" "smoothedRtt" "J" (.long (6 : Int64))) (F_leastRtt_a : Fld Z h0 a "com/example/hashmesh/hashmesh/mesh/Congestion" "leastRtt" "J" (.long (0 : Int64))) (F_latestRtts_a : Fld Z h0 a "com/example/hashmesh/hashmesh/mesh/Congestion" "latestRtts" "[J" (.ref t1)) (F_nextLatest_a : Fld Z h0 a "com/example/hashmesh/hashmesh/mesh/Congestion" "nextLatest" "I" (.int (2 : Int32))) (F_latestCount_a : Fld Z h0 a "com/example/hashmesh/hashmesh/mesh/Congestion" "latestCount" "I" (.int (2 : Int32))) (F_rttVariation_a : Fld Z h0 a "com/example/hashmesh/hashmesh/mesh/Congestion" "rttVariation" "J" (.long (12 : Int64))) (F_onTheWay_a : Fld Z h0 a "com/example/hashmesh/hashmesh/mesh/Congestion" "onTheWay" "I" (.int (0 : Int32))) (F_sent_a : Fld Z h0 a "com/example/hashmesh/hashmesh/mesh/Congestion" "sent" "J" (.long (0 : Int64))) (F_shrunkAfter_a : Fld Z h0 a "com/example/hashmesh/hashmesh/mesh/Congestion" "shrunkAfter" "J" (.long (0 : Int64))) (V_t1 : Arv Z h0 t1 kt .long (4 : Int32) [(.long (0 : Int64)), (.long (50 : Int64)), (.long (0 : Int64)), (.long (0 : Int64))] (.long (0 : Int64))) (g_a : n0 ≤ a) (g_t1 : n0 ≤ t1) :
    MetFree l (⟨"com/example/hashmesh/hashmesh/mesh/Congestion", "measured", "(J)V"⟩ : MethodName) (head1 (Jvm.Cond.code (⟨"com/example/hashmesh/hashmesh/mesh/Congestion", "measured", "(J)V"⟩ : MethodName) prog_61_method_8_code 3 none :: ws) ({ frames := 1, cells := 0, slots := 0, locals := 16 } : Room)) (fun aA uU => aA = #[(.ref a), (.long (50 : Int64))] ∧ Z.Warmed39 uU.vm ∧ uU.heap = h0) (fun _ _ _ _ _ => True) (fun _ uU oO uU' => ∃ vV lL, oO = .returned vV ∧ Q4_2 Z a t1 kt  h0 n0 vV uU'.heap lL ∧ FrameEnd uU oO uU' lL ({ frames := 1, cells := 0, slots := 0, locals := 16 } : Room).cells ({ frames := 1, cells := 0, slots := 0, locals := 16 } : Room).slots) := by
  refine MetFree.of_bodySF (plainFor_of_name pn_com_example_hashmesh_hashmesh_mesh_Congestion) hisR ?_
  intro p e s m args below meth c s₁ Bd hml0 hP hK
  obtain ⟨rfl, hZ, hh⟩ := hP
  have hx := Bd.exec
  have hby := Bd.bytes
  have hml : c.maxLocals = 3 := hml0
  have hown : s.vm.findClass "com/example/hashmesh/hashmesh/mesh/Congestion" = some m.cls := findClass_of_methodNamed Bd.named
  have hnm := (name_of_methodNamed Bd.named Bd.method).1
  have X0 : Stand p l e ({ frames := 1, cells := 0, slots := 0, locals := 16 } : Room) s m #[(.ref a), (.long (50 : Int64))] below meth c s₁ [] 0 0 := Stand.of_body Bd
  have e0 : s₁.heap = h0 := by rw [← hh, Bd.state]; rfl
  have N0 := Fr.nil n0
  have O := O0
  have K := Keep.refl h0 [a, t1]
  have pre0 : ∀ t, Steps p.tables e below (s₁.setTop (mkF m 0 #[.val (.ref a), .val (.long (50 : Int64)), .second] [])) t → Steps p.tables e below (s₁.setTop (entryFrame m #[(.ref a), (.long (50 : Int64))] 3)) t := fun t k => castTop (ef_4_2 m a) k
  obtain ⟨T1, X1, e1, st1⟩ := getF X0 hx hZ hown (host := "") (Or.inl (hw _ (List.mem_of_getElem? (i := 26) rfl))) Via.refl e0 F_leastRtt_a (g := (mkF m 2 #[.val (.ref a), .val (.long (50 : Int64)), .second] [(.ref a), (.ref a)])) rfl rfl (hb hby d4_2)
  obtain ⟨_, _, ⟨T2, L2, k2, n2⟩, -, X2, ⟨Lc2, hQ2, l2, y2, z2⟩, st2⟩ := Jvm.LawKit.callS X1 hx (y := (⟨"java/lang/Math", "min", "(JJ)J"⟩ : MethodName)) hown (mvT hZ (hw _ (List.mem_of_getElem? (i := 36) rfl))) (mvT hZ (hw _ (List.mem_of_getElem? (i := 37) rfl))) (mvT hZ (hw _ (List.mem_of_getElem? (i := 2) rfl))) (mvT hZ (hw _ (List.mem_of_getElem? (i := 38) rfl))) (by decide) (backOf (W := 1) (rm5_a l Z a0 hw [] (0 : Int64) (50 : Int64) h0 n0 O (by decide)) hZ (hw _ (List.mem_of_getElem? (i := 38) rfl)) (hw _ (List.mem_of_getElem? (i := 2) rfl)) (by decide) (by decide)) (g := (mkF m 6 #[.val (.ref a), .val (.long (50 : Int64)), .second] [(.long (50 : Int64)), (.long (0 : Int64)), (.ref a)])) rfl (by rw [hml]; rfl) (argsL := [(.long (0 : Int64)), (.long (50 : Int64))]) (rest := [(.ref a)]) (lenOf pd__40JJ_41J rfl) rfl (by show 2 * 0 + _ ≤ _; exact Nat.le_of_eq rfl) (hb hby d4_6) (fun _ _ => ⟨rfl, e1, (by decide : 0 + 0 ≤ _), (by decide : 0 + 0 ≤ _)⟩)
  dsimp only [Pt.U, Pt.locs, Pt.cells, Pt.slots] at X2 l2 y2 z2 st2 hQ2
  subst l2 y2 z2
  obtain ⟨rfl, N2q, eh2⟩ := hQ2
  have N2 := Fr.app N0 N2q
  have ne_t1_a : t1 ≠ a := (Ne.symm (Exa.neArv E_a V_t1 (hw _ (List.mem_of_getElem? (i := 5) rfl))))
  obtain ⟨T3, h3, X3, e3, W3, st3⟩ := putF X2 hx hZ hown (host := "") (Or.inl (hw _ (List.mem_of_getElem? (i := 26) rfl))) Via.refl eh2 F_leastRtt_a E_a (Or.inl (hw _ (List.mem_of_getElem? (i := 27) rfl))) (hw _ (List.mem_of_getElem? (i := 5) rfl)) (ty := .long) (by decide) rfl rfl (g := (mkF m 9 #[.val (.ref a), .val (.long (50 : Int64)), .second] [(.long (0 : Int64)), (.ref a)])) rfl rfl (hb hby d4_9)
  have F_leastRtt_a := F_leastRtt_a.same W3
  have E_a := E_a.wr W3
  have F_window_a := F_window_a.other W3 (Or.inr (slot_ne (Or.inl (hw _ (List.mem_of_getElem? (i := 15) rfl))) (Or.inl (hw _ (List.mem_of_getElem? (i := 27) rfl))) (by decide) (t := .double) (t' := .long) (by decide) (by decide)))
  have F_threshold_a := F_threshold_a.other W3 (Or.inr (slot_ne (Or.inl (hw _ (List.mem_of_getElem? (i := 18) rfl))) (Or.inl (hw _ (List.mem_of_getElem? (i := 27) rfl))) (by decide) (t := .double) (t' := .long) (by decide) (by decide)))
  have F_paceAt_a := F_paceAt_a.other W3 (Or.inr (slot_ne (Or.inl (hw _ (List.mem_of_getElem? (i := 21) rfl))) (Or.inl (hw _ (List.mem_of_getElem? (i := 27) rfl))) (by decide) (t := .double) (t' := .long) (by decide) (by decide)))
  have F_smoothedRtt_a := F_smoothedRtt_a.other W3 (Or.inr (slot_ne (Or.inl (hw _ (List.mem_of_getElem? (i := 24) rfl))) (Or.inl (hw _ (List.mem_of_getElem? (i := 27) rfl))) (by decide) (t := .long) (t' := .long) (by decide) (by decide)))
  have F_latestRtts_a := F_latestRtts_a.other W3 (Or.inr (slot_ne (Or.inr (hw _ (List.mem_of_getElem? (i := 30) rfl))) (Or.inl (hw _ (List.mem_of_getElem? (i := 27) rfl))) (by decide) (t := (.array .long)) (t' := .long) (by decide) (by decide)))
  have F_nextLatest_a := F_nextLatest_a.other W3 (Or.inr (slot_ne (Or.inl (hw _ (List.mem_of_getElem? (i := 40) rfl))) (Or.inl (hw _ (List.mem_of_getElem? (i := 27) rfl))) (by decide) (t := .int) (t' := .long) (by decide) (by decide)))
  have F_latestCount_a := F_latestCount_a.other W3 (Or.inr (slot_ne (Or.inl (hw _ (List.mem_of_getElem? (i := 42) rfl))) (Or.inl (hw _ (List.mem_of_getElem? (i := 27) rfl))) (by decide) (t := .int) (t' := .long) (by decide) (by decide)))
  have F_rttVariation_a := F_rttVariation_a.other W3 (Or.inr (slot_ne (Or.inl (hw _ (List.mem_of_getElem? (i := 46) rfl))) (Or.inl (hw _ (List.mem_of_getElem? (i := 27) rfl))) (by decide) (t := .long) (t' := .long) (by decide) (by decide)))
  have F_onTheWay_a := F_onTheWay_a.other W3 (Or.inr (slot_ne (Or.inl (hw _ (List.mem_of_getElem? (i := 79) rfl))) (Or.inl (hw _ (List.mem_of_getElem? (i := 27) rfl))) (by decide) (t := .int) (t' := .long) (by decide) (by decide)))
  have F_sent_a := F_sent_a.other W3 (Or.inr (slot_ne (Or.inl (hw _ (List.mem_of_getElem? (i := 70) rfl))) (Or.inl (hw _ (List.mem_of_getElem? (i := 27) rfl))) (by decide) (t := .long) (t' := .long) (by decide) (by decide)))
  have F_shrunkAfter_a := F_shrunkAfter_a.other W3 (Or.inr (slot_ne (Or.inl (hw _ (List.mem_of_getElem? (i := 72) rfl))) (Or.inl (hw _ (List.mem_of_getElem? (i := 27) rfl))) (by decide) (t := .long) (t' := .long) (by decide) (by decide)))
  have V_t1 := V_t1.other W3 ne_t1_a
  have O := O.wr W3 g_a
  have K := K.wr W3 (Or.inl (List.mem_of_getElem? (i := 0) rfl))
  have N3 := Fr.snoc X3 N2 g_a
  obtain ⟨T4, X4, e4, st4⟩ := getF X3 hx hZ hown (host := "") (Or.inl (hw _ (List.mem_of_getElem? (i := 29) rfl))) Via.refl e3 F_latestRtts_a (g := (mkF m 13 #[.val (.ref a), .val (.long (50 : Int64)), .second] [(.ref a)])) rfl rfl (hb hby d4_13)
  obtain ⟨T5, X5, e5, st5⟩ := getF X4 hx hZ hown (host := "") (Or.inl (hw _ (List.mem_of_getElem? (i := 39) rfl))) Via.refl e4 F_nextLatest_a (g := (mkF m 17 #[.val (.ref a), .val (.long (50 : Int64)), .second] [(.ref a), (.ref t1)])) rfl rfl (hb hby d4_17)
  obtain ⟨cl6, Ar6, q6, Z6, N6, H6, G6⟩ := id V_t1
  have hin6 : ¬ ((2 : Int32) < 0 ∨ cl6.slots.size ≤ ((2 : Int32)).toNatClampNeg) := inb_of Z6 ⟨by decide, by decide⟩
  obtain ⟨T7, h7, X7, e7, W7, st7⟩ := stJ X5 hx hZ e5 Ar6 (j := (2 : Int32)) hin6 (g := (mkF m 21 #[.val (.ref a), .val (.long (50 : Int64)), .second] [(.long (50 : Int64)), (.int (2 : Int32)), (.ref t1)])) rfl rfl (hb hby d4_21)
  have V_t1 : Arv Z h7 t1 kt .long (4 : Int32) [(.long (0 : Int64)), (.long (50 : Int64)), (.long (50 : Int64)), (.long (0 : Int64))] (.long (0 : Int64)) := Arv.set Ar6 q6 Z6 N6 H6 G6 rfl W7 2 rfl (Nat.le_of_ble_eq_true rfl)
  have E_a := E_a.wr W7
  have F_window_a := F_window_a.other W7 (Or.inl (Ne.symm ne_t1_a))
  have F_threshold_a := F_threshold_a.other W7 (Or.inl (Ne.symm ne_t1_a))
  have F_paceAt_a := F_paceAt_a.other W7 (Or.inl (Ne.symm ne_t1_a))
  have F_smoothedRtt_a := F_smoothedRtt_a.other W7 (Or.inl (Ne.symm ne_t1_a))
  have F_leastRtt_a := F_leastRtt_a.other W7 (Or.inl (Ne.symm ne_t1_a))
  have F_latestRtts_a := F_latestRtts_a.other W7 (Or.inl (Ne.symm ne_t1_a))
  have F_nextLatest_a := F_nextLatest_a.other W7 (Or.inl (Ne.symm ne_t1_a))
  have F_latestCount_a := F_latestCount_a.other W7 (Or.inl (Ne.symm ne_t1_a))
  have F_rttVariation_a := F_rttVariation_a.other W7 (Or.inl (Ne.symm ne_t1_a))
  have F_onTheWay_a := F_onTheWay_a.other W7 (Or.inl (Ne.symm ne_t1_a))
  have F_sent_a := F_sent_a.other W7 (Or.inl (Ne.symm ne_t1_a))
  have F_shrunkAfter_a := F_shrunkAfter_a.other W7 (Or.inl (Ne.symm ne_t1_a))
  have O := O.wr W7 g_t1
  have K := K.wr W7 (Or.inl (List.mem_of_getElem? (i := 1) rfl))
  have N7 := Fr.snoc X7 N3 g_t1
  obtain ⟨T8, X8, e8, st8⟩ := getF X7 hx hZ hown (host := "") (Or.inl (hw _ (List.mem_of_getElem? (i := 39) rfl))) Via.refl e7 F_nextLatest_a (g := (mkF m 24 #[.val (.ref a), .val (.long (50 : Int64)), .second] [(.ref a), (.ref a)])) rfl rfl (hb hby d4_24)
  obtain ⟨T9, h9, X9, e9, W9, st9⟩ := putF X8 hx hZ hown (host := "") (Or.inl (hw _ (List.mem_of_getElem? (i := 39) rfl))) Via.refl e8 F_nextLatest_a E_a (Or.inl (hw _ (List.mem_of_getElem? (i := 40) rfl))) (hw _ (List.mem_of_getElem? (i := 5) rfl)) (ty := .int) (by decide) rfl rfl (g := (mkF m 31 #[.val (.ref a), .val (.long (50 : Int64)), .second] [(.int (3 : Int32)), (.ref a)])) rfl rfl (hb hby d4_31)
  have F_nextLatest_a := F_nextLatest_a.same W9
  have E_a := E_a.wr W9
  have F_window_a := F_window_a.other W9 (Or.inr (slot_ne (Or.inl (hw _ (List.mem_of_getElem? (i := 15) rfl))) (Or.inl (hw _ (List.mem_of_getElem? (i := 40) rfl))) (by decide) (t := .double) (t' := .int) (by decide) (by decide)))
  have F_threshold_a := F_threshold_a.other W9 (Or.inr (slot_ne (Or.inl (hw _ (List.mem_of_getElem? (i := 18) rfl))) (Or.inl (hw _ (List.mem_of_getElem? (i := 40) rfl))) (by decide) (t := .double) (t' := .int) (by decide) (by decide)))
  have F_paceAt_a := F_paceAt_a.other W9 (Or.inr (slot_ne (Or.inl (hw _ (List.mem_of_getElem? (i := 21) rfl))) (Or.inl (hw _ (List.mem_of_getElem? (i := 40) rfl))) (by decide) (t := .double) (t' := .int) (by decide) (by decide)))
  have F_smoothedRtt_a := F_smoothedRtt_a.other W9 (Or.inr (slot_ne (Or.inl (hw _ (List.mem_of_getElem? (i := 24) rfl))) (Or.inl (hw _ (List.mem_of_getElem? (i := 40) rfl))) (by decide) (t := .long) (t' := .int) (by decide) (by decide)))
  have F_leastRtt_a := F_leastRtt_a.other W9 (Or.inr (slot_ne (Or.inl (hw _ (List.mem_of_getElem? (i := 27) rfl))) (Or.inl (hw _ (List.mem_of_getElem? (i := 40) rfl))) (by decide) (t := .long) (t' := .int) (by decide) (by decide)))
  have F_latestRtts_a := F_latestRtts_a.other W9 (Or.inr (slot_ne (Or.inr (hw _ (List.mem_of_getElem? (i := 30) rfl))) (Or.inl (hw _ (List.mem_of_getElem? (i := 40) rfl))) (by decide) (t := (.array .long)) (t' := .int) (by decide) (by decide)))
  have F_latestCount_a := F_latestCount_a.other W9 (Or.inr (slot_ne (Or.inl (hw _ (List.mem_of_getElem? (i := 42) rfl))) (Or.inl (hw _ (List.mem_of_getElem? (i := 40) rfl))) (by decide) (t := .int) (t' := .int) (by decide) (by decide)))
  have F_rttVariation_a := F_rttVariation_a.other W9 (Or.inr (slot_ne (Or.inl (hw _ (List.mem_of_getElem? (i := 46) rfl))) (Or.inl (hw _ (List.mem_of_getElem? (i := 40) rfl))) (by decide) (t := .long) (t' := .int) (by decide) (by decide)))
  have F_onTheWay_a := F_onTheWay_a.other W9 (Or.inr (slot_ne (Or.inl (hw _ (List.mem_of_getElem? (i := 79) rfl))) (Or.inl (hw _ (List.mem_of_getElem? (i := 40) rfl))) (by decide) (t := .int) (t' := .int) (by decide) (by decide)))
  have F_sent_a := F_sent_a.other W9 (Or.inr (slot_ne (Or.inl (hw _ (List.mem_of_getElem? (i := 70) rfl))) (Or.inl (hw _ (List.mem_of_getElem? (i := 40) rfl))) (by decide) (t := .long) (t' := .int) (by decide) (by decide)))
  have F_shrunkAfter_a := F_shrunkAfter_a.other W9 (Or.inr (slot_ne (Or.inl (hw _ (List.mem_of_getElem? (i := 72) rfl))) (Or.inl (hw _ (List.mem_of_getElem? (i := 40) rfl))) (by decide) (t := .long) (t' := .int) (by decide) (by decide)))
  have V_t1 := V_t1.other W9 ne_t1_a
  have O := O.wr W9 g_a
  have K := K.wr W9 (Or.inl (List.mem_of_getElem? (i := 0) rfl))
  have N9 := Fr.snoc X9 N7 g_a
  obtain ⟨T10, X10, e10, st10⟩ := getF X9 hx hZ hown (host := "") (Or.inl (hw _ (List.mem_of_getElem? (i := 41) rfl))) Via.refl e9 F_latestCount_a (g := (mkF m 36 #[.val (.ref a), .val (.long (50 : Int64)), .second] [(.ref a), (.ref a)])) rfl rfl (hb hby d4_36)
  obtain ⟨_, _, ⟨T11, L11, k11, n11⟩, -, X11, ⟨Lc11, hQ11, l11, y11, z11⟩, st11⟩ := Jvm.LawKit.callS X10 hx (y := (⟨"java/lang/Math", "min", "(II)I"⟩ : MethodName)) hown (mvT hZ (hw _ (List.mem_of_getElem? (i := 43) rfl))) (mvT hZ (hw _ (List.mem_of_getElem? (i := 1) rfl))) (mvT hZ (hw _ (List.mem_of_getElem? (i := 2) rfl))) (mvT hZ (hw _ (List.mem_of_getElem? (i := 3) rfl))) (by decide) (backOf (W := 1) (rm1_a l Z a0 hw [] (3 : Int32) (4 : Int32) h9 n0 O (by decide)) hZ (hw _ (List.mem_of_getElem? (i := 3) rfl)) (hw _ (List.mem_of_getElem? (i := 2) rfl)) (by decide) (by decide)) (g := (mkF m 42 #[.val (.ref a), .val (.long (50 : Int64)), .second] [(.int (4 : Int32)), (.int (3 : Int32)), (.ref a)])) rfl (by rw [hml]; rfl) (argsL := [(.int (3 : Int32)), (.int (4 : Int32))]) (rest := [(.ref a)]) (lenOf pd__40II_41I rfl) rfl (by show 2 * 0 + _ ≤ _; exact Nat.le_of_eq rfl) (hb hby d4_42) (fun _ _ => ⟨rfl, e10, (by decide : 0 + 0 ≤ _), (by decide : 0 + 0 ≤ _)⟩)
  dsimp only [Pt.U, Pt.locs, Pt.cells, Pt.slots] at X11 l11 y11 z11 st11 hQ11
  subst l11 y11 z11
  obtain ⟨rfl, N11q, eh11⟩ := hQ11
  have N11 := Fr.app N9 N11q
  obtain ⟨T12, h12, X12, e12, W12, st12⟩ := putF X11 hx hZ hown (host := "") (Or.inl (hw _ (List.mem_of_getElem? (i := 41) rfl))) Via.refl eh11 F_latestCount_a E_a (Or.inl (hw _ (List.mem_of_getElem? (i := 42) rfl))) (hw _ (List.mem_of_getElem? (i := 5) rfl)) (ty := .int) (by decide) rfl rfl (g := (mkF m 45 #[.val (.ref a), .val (.long (50 : Int64)), .second] [(.int (3 : Int32)), (.ref a)])) rfl rfl (hb hby d4_45)
  have F_latestCount_a := F_latestCount_a.same W12
  have E_a := E_a.wr W12
  have F_window_a := F_window_a.other W12 (Or.inr (slot_ne (Or.inl (hw _ (List.mem_of_getElem? (i := 15) rfl))) (Or.inl (hw _ (List.mem_of_getElem? (i := 42) rfl))) (by decide) (t := .double) (t' := .int) (by decide) (by decide)))
  have F_threshold_a := F_threshold_a.other W12 (Or.inr (slot_ne (Or.inl (hw _ (List.mem_of_getElem? (i := 18) rfl))) (Or.inl (hw _ (List.mem_of_getElem? (i := 42) rfl))) (by decide) (t := .double) (t' := .int) (by decide) (by decide)))
  have F_paceAt_a := F_paceAt_a.other W12 (Or.inr (slot_ne (Or.inl (hw _ (List.mem_of_getElem? (i := 21) rfl))) (Or.inl (hw _ (List.mem_of_getElem? (i := 42) rfl))) (by decide) (t := .double) (t' := .int) (by decide) (by decide)))
  have F_smoothedRtt_a := F_smoothedRtt_a.other W12 (Or.inr (slot_ne (Or.inl (hw _ (List.mem_of_getElem? (i := 24) rfl))) (Or.inl (hw _ (List.mem_of_getElem? (i := 42) rfl))) (by decide) (t := .long) (t' := .int) (by decide) (by decide)))
  have F_leastRtt_a := F_leastRtt_a.other W12 (Or.inr (slot_ne (Or.inl (hw _ (List.mem_of_getElem? (i := 27) rfl))) (Or.inl (hw _ (List.mem_of_getElem? (i := 42) rfl))) (by decide) (t := .long) (t' := .int) (by decide) (by decide)))
  have F_latestRtts_a := F_latestRtts_a.other W12 (Or.inr (slot_ne (Or.inr (hw _ (List.mem_of_getElem? (i := 30) rfl))) (Or.inl (hw _ (List.mem_of_getElem? (i := 42) rfl))) (by decide) (t := (.array .long)) (t' := .int) (by decide) (by decide)))
  have F_nextLatest_a := F_nextLatest_a.other W12 (Or.inr (slot_ne (Or.inl (hw _ (List.mem_of_getElem? (i := 40) rfl))) (Or.inl (hw _ (List.mem_of_getElem? (i := 42) rfl))) (by decide) (t := .int) (t' := .int) (by decide) (by decide)))
  have F_rttVariation_a := F_rttVariation_a.other W12 (Or.inr (slot_ne (Or.inl (hw _ (List.mem_of_getElem? (i := 46) rfl))) (Or.inl (hw _ (List.mem_of_getElem? (i := 42) rfl))) (by decide) (t := .long) (t' := .int) (by decide) (by decide)))
  have F_onTheWay_a := F_onTheWay_a.other W12 (Or.inr (slot_ne (Or.inl (hw _ (List.mem_of_getElem? (i := 79) rfl))) (Or.inl (hw _ (List.mem_of_getElem? (i := 42) rfl))) (by decide) (t := .int) (t' := .int) (by decide) (by decide)))
  have F_sent_a := F_sent_a.other W12 (Or.inr (slot_ne (Or.inl (hw _ (List.mem_of_getElem? (i := 70) rfl))) (Or.inl (hw _ (List.mem_of_getElem? (i := 42) rfl))) (by decide) (t := .long) (t' := .int) (by decide) (by decide)))
  have F_shrunkAfter_a := F_shrunkAfter_a.other W12 (Or.inr (slot_ne (Or.inl (hw _ (List.mem_of_getElem? (i := 72) rfl))) (Or.inl (hw _ (List.mem_of_getElem? (i := 42) rfl))) (by decide) (t := .long) (t' := .int) (by decide) (by decide)))
  have V_t1 := V_t1.other W12 ne_t1_a
  have O := O.wr W12 g_a
  have K := K.wr W12 (Or.inl (List.mem_of_getElem? (i := 0) rfl))
  have N12 := Fr.snoc X12 N11 g_a
  obtain ⟨T13, X13, e13, st13⟩ := getF X12 hx hZ hown (host := "") (Or.inl (hw _ (List.mem_of_getElem? (i := 23) rfl))) Via.refl e12 F_smoothedRtt_a (g := (mkF m 49 #[.val (.ref a), .val (.long (50 : Int64)), .second] [(.ref a)])) rfl rfl (hb hby d4_49)
  obtain ⟨T14, X14, e14, st14⟩ := getF X13 hx hZ hown (host := "") (Or.inl (hw _ (List.mem_of_getElem? (i := 45) rfl))) Via.refl e13 F_rttVariation_a (g := (mkF m 79 #[.val (.ref a), .val (.long (50 : Int64)), .second] [(.ref a), (.long (3 : Int64)), (.ref a)])) rfl rfl (hb hby d4_79)
  obtain ⟨T15, X15, e15, st15⟩ := getF X14 hx hZ hown (host := "") (Or.inl (hw _ (List.mem_of_getElem? (i := 23) rfl))) Via.refl e14 F_smoothedRtt_a (g := (mkF m 84 #[.val (.ref a), .val (.long (50 : Int64)), .second] [(.ref a), (.long (36 : Int64)), (.ref a)])) rfl rfl (hb hby d4_84)
  obtain ⟨_, _, ⟨T16, L16, k16, n16⟩, -, X16, ⟨Lc16, hQ16, l16, y16, z16⟩, st16⟩ := Jvm.LawKit.callS X15 hx (y := (⟨"java/lang/Math", "abs", "(J)J"⟩ : MethodName)) hown (mvT hZ (hw _ (List.mem_of_getElem? (i := 49) rfl))) (mvT hZ (hw _ (List.mem_of_getElem? (i := 50) rfl))) (mvT hZ (hw _ (List.mem_of_getElem? (i := 2) rfl))) (mvT hZ (hw _ (List.mem_of_getElem? (i := 51) rfl))) (by decide) (backOf (W := 3) (rm6_b l Z a0 hw [] (-44 : Int64) h12 n0 O (by decide)) hZ (hw _ (List.mem_of_getElem? (i := 51) rfl)) (hw _ (List.mem_of_getElem? (i := 2) rfl)) (by decide) (by decide)) (g := (mkF m 89 #[.val (.ref a), .val (.long (50 : Int64)), .second] [(.long (-44 : Int64)), (.long (36 : Int64)), (.ref a)])) rfl (by rw [hml]; rfl) (argsL := [(.long (-44 : Int64))]) (rest := [(.long (36 : Int64)), (.ref a)]) (lenOf pd__40J_41J rfl) rfl (by show 2 * 0 + _ ≤ _; exact Nat.le_of_eq rfl) (hb hby d4_89) (fun _ _ => ⟨rfl, e15, (by decide : 0 + 0 ≤ _), (by decide : 0 + 0 ≤ _)⟩)
  dsimp only [Pt.U, Pt.locs, Pt.cells, Pt.slots] at X16 l16 y16 z16 st16 hQ16
  subst l16 y16 z16
  obtain ⟨rfl, N16q, eh16⟩ := hQ16
  have N16 := Fr.app N12 N16q
  obtain ⟨T17, h17, X17, e17, W17, st17⟩ := putF X16 hx hZ hown (host := "") (Or.inl (hw _ (List.mem_of_getElem? (i := 45) rfl))) Via.refl eh16 F_rttVariation_a E_a (Or.inl (hw _ (List.mem_of_getElem? (i := 46) rfl))) (hw _ (List.mem_of_getElem? (i := 5) rfl)) (ty := .long) (by decide) rfl rfl (g := (mkF m 97 #[.val (.ref a), .val (.long (50 : Int64)), .second] [(.long (((36 : Int64) + (-(-44 : Int64))) / (4 : Int64))), (.ref a)])) rfl rfl (hb hby d4_97)
  have F_rttVariation_a := F_rttVariation_a.same W17
  have E_a := E_a.wr W17
  have F_window_a := F_window_a.other W17 (Or.inr (slot_ne (Or.inl (hw _ (List.mem_of_getElem? (i := 15) rfl))) (Or.inl (hw _ (List.mem_of_getElem? (i := 46) rfl))) (by decide) (t := .double) (t' := .long) (by decide) (by decide)))
  have F_threshold_a := F_threshold_a.other W17 (Or.inr (slot_ne (Or.inl (hw _ (List.mem_of_getElem? (i := 18) rfl))) (Or.inl (hw _ (List.mem_of_getElem? (i := 46) rfl))) (by decide) (t := .double) (t' := .long) (by decide) (by decide)))
  have F_paceAt_a := F_paceAt_a.other W17 (Or.inr (slot_ne (Or.inl (hw _ (List.mem_of_getElem? (i := 21) rfl))) (Or.inl (hw _ (List.mem_of_getElem? (i := 46) rfl))) (by decide) (t := .double) (t' := .long) (by decide) (by decide)))
  have F_smoothedRtt_a := F_smoothedRtt_a.other W17 (Or.inr (slot_ne (Or.inl (hw _ (List.mem_of_getElem? (i := 24) rfl))) (Or.inl (hw _ (List.mem_of_getElem? (i := 46) rfl))) (by decide) (t := .long) (t' := .long) (by decide) (by decide)))
  have F_leastRtt_a := F_leastRtt_a.other W17 (Or.inr (slot_ne (Or.inl (hw _ (List.mem_of_getElem? (i := 27) rfl))) (Or.inl (hw _ (List.mem_of_getElem? (i := 46) rfl))) (by decide) (t := .long) (t' := .long) (by decide) (by decide)))
  have F_latestRtts_a := F_latestRtts_a.other W17 (Or.inr (slot_ne (Or.inr (hw _ (List.mem_of_getElem? (i := 30) rfl))) (Or.inl (hw _ (List.mem_of_getElem? (i := 46) rfl))) (by decide) (t := (.array .long)) (t' := .long) (by decide) (by decide)))
  have F_nextLatest_a := F_nextLatest_a.other W17 (Or.inr (slot_ne (Or.inl (hw _ (List.mem_of_getElem? (i := 40) rfl))) (Or.inl (hw _ (List.mem_of_getElem? (i := 46) rfl))) (by decide) (t := .int) (t' := .long) (by decide) (by decide)))
  have F_latestCount_a := F_latestCount_a.other W17 (Or.inr (slot_ne (Or.inl (hw _ (List.mem_of_getElem? (i := 42) rfl))) (Or.inl (hw _ (List.mem_of_getElem? (i := 46) rfl))) (by decide) (t := .int) (t' := .long) (by decide) (by decide)))
  have F_onTheWay_a := F_onTheWay_a.other W17 (Or.inr (slot_ne (Or.inl (hw _ (List.mem_of_getElem? (i := 79) rfl))) (Or.inl (hw _ (List.mem_of_getElem? (i := 46) rfl))) (by decide) (t := .int) (t' := .long) (by decide) (by decide)))
  have F_sent_a := F_sent_a.other W17 (Or.inr (slot_ne (Or.inl (hw _ (List.mem_of_getElem? (i := 70) rfl))) (Or.inl (hw _ (List.mem_of_getElem? (i := 46) rfl))) (by decide) (t := .long) (t' := .long) (by decide) (by decide)))
  have F_shrunkAfter_a := F_shrunkAfter_a.other W17 (Or.inr (slot_ne (Or.inl (hw _ (List.mem_of_getElem? (i := 72) rfl))) (Or.inl (hw _ (List.mem_of_getElem? (i := 46) rfl))) (by decide) (t := .long) (t' := .long) (by decide) (by decide)))
  have V_t1 := V_t1.other W17 ne_t1_a
  have O := O.wr W17 g_a
  have K := K.wr W17 (Or.inl (List.mem_of_getElem? (i := 0) rfl))
  have N17 := Fr.snoc X17 N16 g_a
  obtain ⟨T18, X18, e18, st18⟩ := getF X17 hx hZ hown (host := "") (Or.inl (hw _ (List.mem_of_getElem? (i := 23) rfl))) Via.refl e17 F_smoothedRtt_a (g := (mkF m 105 #[.val (.ref a), .val (.long (50 : Int64)), .second] [(.ref a), (.long (7 : Int64)), (.ref a)])) rfl rfl (hb hby d4_105)
  obtain ⟨T19, h19, X19, e19, W19, st19⟩ := putF X18 hx hZ hown (host := "") (Or.inl (hw _ (List.mem_of_getElem? (i := 23) rfl))) Via.refl e18 F_smoothedRtt_a E_a (Or.inl (hw _ (List.mem_of_getElem? (i := 24) rfl))) (hw _ (List.mem_of_getElem? (i := 5) rfl)) (ty := .long) (by decide) rfl rfl (g := (mkF m 115 #[.val (.ref a), .val (.long (50 : Int64)), .second] [(.long (11 : Int64)), (.ref a)])) rfl rfl (hb hby d4_115)
  have F_smoothedRtt_a := F_smoothedRtt_a.same W19
  have E_a := E_a.wr W19
  have F_window_a := F_window_a.other W19 (Or.inr (slot_ne (Or.inl (hw _ (List.mem_of_getElem? (i := 15) rfl))) (Or.inl (hw _ (List.mem_of_getElem? (i := 24) rfl))) (by decide) (t := .double) (t' := .long) (by decide) (by decide)))
  have F_threshold_a := F_threshold_a.other W19 (Or.inr (slot_ne (Or.inl (hw _ (List.mem_of_getElem? (i := 18) rfl))) (Or.inl (hw _ (List.mem_of_getElem? (i := 24) rfl))) (by decide) (t := .double) (t' := .long) (by decide) (by decide)))
  have F_paceAt_a := F_paceAt_a.other W19 (Or.inr (slot_ne (Or.inl (hw _ (List.mem_of_getElem? (i := 21) rfl))) (Or.inl (hw _ (List.mem_of_getElem? (i := 24) rfl))) (by decide) (t := .double) (t' := .long) (by decide) (by decide)))
  have F_leastRtt_a := F_leastRtt_a.other W19 (Or.inr (slot_ne (Or.inl (hw _ (List.mem_of_getElem? (i := 27) rfl))) (Or.inl (hw _ (List.mem_of_getElem? (i := 24) rfl))) (by decide) (t := .long) (t' := .long) (by decide) (by decide)))
  have F_latestRtts_a := F_latestRtts_a.other W19 (Or.inr (slot_ne (Or.inr (hw _ (List.mem_of_getElem? (i := 30) rfl))) (Or.inl (hw _ (List.mem_of_getElem? (i := 24) rfl))) (by decide) (t := (.array .long)) (t' := .long) (by decide) (by decide)))
  have F_nextLatest_a := F_nextLatest_a.other W19 (Or.inr (slot_ne (Or.inl (hw _ (List.mem_of_getElem? (i := 40) rfl))) (Or.inl (hw _ (List.mem_of_getElem? (i := 24) rfl))) (by decide) (t := .int) (t' := .long) (by decide) (by decide)))
  have F_latestCount_a := F_latestCount_a.other W19 (Or.inr (slot_ne (Or.inl (hw _ (List.mem_of_getElem? (i := 42) rfl))) (Or.inl (hw _ (List.mem_of_getElem? (i := 24) rfl))) (by decide) (t := .int) (t' := .long) (by decide) (by decide)))
  have F_rttVariation_a := F_rttVariation_a.other W19 (Or.inr (slot_ne (Or.inl (hw _ (List.mem_of_getElem? (i := 46) rfl))) (Or.inl (hw _ (List.mem_of_getElem? (i := 24) rfl))) (by decide) (t := .long) (t' := .long) (by decide) (by decide)))
  have F_onTheWay_a := F_onTheWay_a.other W19 (Or.inr (slot_ne (Or.inl (hw _ (List.mem_of_getElem? (i := 79) rfl))) (Or.inl (hw _ (List.mem_of_getElem? (i := 24) rfl))) (by decide) (t := .int) (t' := .long) (by decide) (by decide)))
  have F_sent_a := F_sent_a.other W19 (Or.inr (slot_ne (Or.inl (hw _ (List.mem_of_getElem? (i := 70) rfl))) (Or.inl (hw _ (List.mem_of_getElem? (i := 24) rfl))) (by decide) (t := .long) (t' := .long) (by decide) (by decide)))
  have F_shrunkAfter_a := F_shrunkAfter_a.other W19 (Or.inr (slot_ne (Or.inl (hw _ (List.mem_of_getElem? (i := 72) rfl))) (Or.inl (hw _ (List.mem_of_getElem? (i := 24) rfl))) (by decide) (t := .long) (t' := .long) (by decide) (by decide)))
  have V_t1 := V_t1.other W19 ne_t1_a
  have O := O.wr W19 g_a
  have K := K.wr W19 (Or.inl (List.mem_of_getElem? (i := 0) rfl))
  have N19 := Fr.snoc X19 N17 g_a
  have w20 : ∀ t, Steps p.tables e below (T19.setTop (mkF m 118 #[.val (.ref a), .val (.long (50 : Int64)), .second] [])) t → Steps p.tables e below (s₁.setTop (entryFrame m #[(.ref a), (.long (50 : Int64))] 3)) t := fun t k => by
    refine pre0 t ?_
    refine XS.aloadN X0.here hx rfl (hb hby d4_0) rfl rfl ?_
    show Steps p.tables e below (s₁.setTop (mkF m 1 #[.val (.ref a), .val (.long (50 : Int64)), .second] [(.ref a)])) _
    refine XS.aloadN X0.here hx rfl (hb hby d4_1) rfl rfl ?_
    show Steps p.tables e below (s₁.setTop (mkF m 2 #[.val (.ref a), .val (.long (50 : Int64)), .second] [(.ref a), (.ref a)])) _
    refine st1 _ ?_
    show Steps p.tables e below (T1.setTop (mkF m 5 #[.val (.ref a), .val (.long (50 : Int64)), .second] [(.long (0 : Int64)), (.ref a)])) _
    refine XS.lloadN X1.here hx rfl (hb hby d4_5) rfl ?_
    show Steps p.tables e below (T1.setTop (mkF m 6 #[.val (.ref a), .val (.long (50 : Int64)), .second] [(.long (50 : Int64)), (.long (0 : Int64)), (.ref a)])) _
    refine st2 _ ?_
    show Steps p.tables e below (T2.setTop (mkF m 9 #[.val (.ref a), .val (.long (50 : Int64)), .second] [(.long (0 : Int64)), (.ref a)])) _
    refine st3 _ ?_
    show Steps p.tables e below (T3.setTop (mkF m 12 #[.val (.ref a), .val (.long (50 : Int64)), .second] [])) _
    refine XS.aloadN X3.here hx rfl (hb hby d4_12) rfl rfl ?_
    show Steps p.tables e below (T3.setTop (mkF m 13 #[.val (.ref a), .val (.long (50 : Int64)), .second] [(.ref a)])) _
    refine st4 _ ?_
    show Steps p.tables e below (T4.setTop (mkF m 16 #[.val (.ref a), .val (.long (50 : Int64)), .second] [(.ref t1)])) _
    refine XS.aloadN X4.here hx rfl (hb hby d4_16) rfl rfl ?_
    show Steps p.tables e below (T4.setTop (mkF m 17 #[.val (.ref a), .val (.long (50 : Int64)), .second] [(.ref a), (.ref t1)])) _
    refine st5 _ ?_
    show Steps p.tables e below (T5.setTop (mkF m 20 #[.val (.ref a), .val (.long (50 : Int64)), .second] [(.int (2 : Int32)), (.ref t1)])) _
    refine XS.lloadN X5.here hx rfl (hb hby d4_20) rfl ?_
    show Steps p.tables e below (T5.setTop (mkF m 21 #[.val (.ref a), .val (.long (50 : Int64)), .second] [(.long (50 : Int64)), (.int (2 : Int32)), (.ref t1)])) _
    refine st7 _ ?_
    show Steps p.tables e below (T7.setTop (mkF m 22 #[.val (.ref a), .val (.long (50 : Int64)), .second] [])) _
    refine XS.aloadN X7.here hx rfl (hb hby d4_22) rfl rfl ?_
    show Steps p.tables e below (T7.setTop (mkF m 23 #[.val (.ref a), .val (.long (50 : Int64)), .second] [(.ref a)])) _
    refine XS.aloadN X7.here hx rfl (hb hby d4_23) rfl rfl ?_
    show Steps p.tables e below (T7.setTop (mkF m 24 #[.val (.ref a), .val (.long (50 : Int64)), .second] [(.ref a), (.ref a)])) _
    refine st8 _ ?_
    show Steps p.tables e below (T8.setTop (mkF m 27 #[.val (.ref a), .val (.long (50 : Int64)), .second] [(.int (2 : Int32)), (.ref a)])) _
    refine XS.iconst X8.here hx rfl (hb hby d4_27) ?_
    show Steps p.tables e below (T8.setTop (mkF m 28 #[.val (.ref a), .val (.long (50 : Int64)), .second] [(.int (1 : Int32)), (.int (2 : Int32)), (.ref a)])) _
    refine XS.iadd X8.here hx rfl (hb hby d4_28) rfl ?_
    show Steps p.tables e below (T8.setTop (mkF m 29 #[.val (.ref a), .val (.long (50 : Int64)), .second] [(.int (3 : Int32)), (.ref a)])) _
    refine XS.iconst X8.here hx rfl (hb hby d4_29) ?_
    show Steps p.tables e below (T8.setTop (mkF m 30 #[.val (.ref a), .val (.long (50 : Int64)), .second] [(.int (4 : Int32)), (.int (3 : Int32)), (.ref a)])) _
    refine XS.irem X8.here hx rfl (hb hby d4_30) rfl (by decide) ?_
    show Steps p.tables e below (T8.setTop (mkF m 31 #[.val (.ref a), .val (.long (50 : Int64)), .second] [(.int (3 : Int32)), (.ref a)])) _
    refine st9 _ ?_
    show Steps p.tables e below (T9.setTop (mkF m 34 #[.val (.ref a), .val (.long (50 : Int64)), .second] [])) _
    refine XS.aloadN X9.here hx rfl (hb hby d4_34) rfl rfl ?_
    show Steps p.tables e below (T9.setTop (mkF m 35 #[.val (.ref a), .val (.long (50 : Int64)), .second] [(.ref a)])) _
    refine XS.aloadN X9.here hx rfl (hb hby d4_35) rfl rfl ?_
    show Steps p.tables e below (T9.setTop (mkF m 36 #[.val (.ref a), .val (.long (50 : Int64)), .second] [(.ref a), (.ref a)])) _
    refine st10 _ ?_
    show Steps p.tables e below (T10.setTop (mkF m 39 #[.val (.ref a), .val (.long (50 : Int64)), .second] [(.int (2 : Int32)), (.ref a)])) _
    refine XS.iconst X10.here hx rfl (hb hby d4_39) ?_
    show Steps p.tables e below (T10.setTop (mkF m 40 #[.val (.ref a), .val (.long (50 : Int64)), .second] [(.int (1 : Int32)), (.int (2 : Int32)), (.ref a)])) _
    refine XS.iadd X10.here hx rfl (hb hby d4_40) rfl ?_
    show Steps p.tables e below (T10.setTop (mkF m 41 #[.val (.ref a), .val (.long (50 : Int64)), .second] [(.int (3 : Int32)), (.ref a)])) _
    refine XS.iconst X10.here hx rfl (hb hby d4_41) ?_
    show Steps p.tables e below (T10.setTop (mkF m 42 #[.val (.ref a), .val (.long (50 : Int64)), .second] [(.int (4 : Int32)), (.int (3 : Int32)), (.ref a)])) _
    refine st11 _ ?_
    show Steps p.tables e below (T11.setTop (mkF m 45 #[.val (.ref a), .val (.long (50 : Int64)), .second] [(.int (3 : Int32)), (.ref a)])) _
    refine st12 _ ?_
    show Steps p.tables e below (T12.setTop (mkF m 48 #[.val (.ref a), .val (.long (50 : Int64)), .second] [])) _
    refine XS.aloadN X12.here hx rfl (hb hby d4_48) rfl rfl ?_
    show Steps p.tables e below (T12.setTop (mkF m 49 #[.val (.ref a), .val (.long (50 : Int64)), .second] [(.ref a)])) _
    refine st13 _ ?_
    show Steps p.tables e below (T13.setTop (mkF m 52 #[.val (.ref a), .val (.long (50 : Int64)), .second] [(.long (6 : Int64))])) _
    refine XS.lconst X13.here hx rfl (hb hby d4_52) ?_
    show Steps p.tables e below (T13.setTop (mkF m 53 #[.val (.ref a), .val (.long (50 : Int64)), .second] [(.long (0 : Int64)), (.long (6 : Int64))])) _
    refine XS.lcmp X13.here hx rfl (hb hby d4_53) rfl ?_
    show Steps p.tables e below (T13.setTop (mkF m 54 #[.val (.ref a), .val (.long (50 : Int64)), .second] [(.int (1 : Int32))])) _
    refine XS.ifYes X13.here hx rfl (pc0 := 54) (pc' := 74) rfl (hb hby d4_54) rfl ((if0 _ _).trans (flt ((by decide) : ¬ ((1 : Int32) < (0 : Int32)))).2.1) (by decide) (by decide) ?_
    show Steps p.tables e below (T13.setTop (mkF m 74 #[.val (.ref a), .val (.long (50 : Int64)), .second] [])) _
    refine XS.aloadN X13.here hx rfl (hb hby d4_74) rfl rfl ?_
    show Steps p.tables e below (T13.setTop (mkF m 75 #[.val (.ref a), .val (.long (50 : Int64)), .second] [(.ref a)])) _
    refine X13.ldc2Long hx hown (mvT hZ (hw _ (List.mem_of_getElem? (i := 48) rfl))) (g := (mkF m 75 #[.val (.ref a), .val (.long (50 : Int64)), .second] [(.ref a)])) rfl (hb hby d4_75) _ ?_
    show Steps p.tables e below (T13.setTop (mkF m 78 #[.val (.ref a), .val (.long (50 : Int64)), .second] [(.long (3 : Int64)), (.ref a)])) _
    refine XS.aloadN X13.here hx rfl (hb hby d4_78) rfl rfl ?_
    show Steps p.tables e below (T13.setTop (mkF m 79 #[.val (.ref a), .val (.long (50 : Int64)), .second] [(.ref a), (.long (3 : Int64)), (.ref a)])) _
    refine st14 _ ?_
    show Steps p.tables e below (T14.setTop (mkF m 82 #[.val (.ref a), .val (.long (50 : Int64)), .second] [(.long (12 : Int64)), (.long (3 : Int64)), (.ref a)])) _
    refine XS.lmul X14.here hx rfl (hb hby d4_82) rfl ?_
    show Steps p.tables e below (T14.setTop (mkF m 83 #[.val (.ref a), .val (.long (50 : Int64)), .second] [(.long (36 : Int64)), (.ref a)])) _
    refine XS.aloadN X14.here hx rfl (hb hby d4_83) rfl rfl ?_
    show Steps p.tables e below (T14.setTop (mkF m 84 #[.val (.ref a), .val (.long (50 : Int64)), .second] [(.ref a), (.long (36 : Int64)), (.ref a)])) _
    refine st15 _ ?_
    show Steps p.tables e below (T15.setTop (mkF m 87 #[.val (.ref a), .val (.long (50 : Int64)), .second] [(.long (6 : Int64)), (.long (36 : Int64)), (.ref a)])) _
    refine XS.lloadN X15.here hx rfl (hb hby d4_87) rfl ?_
    show Steps p.tables e below (T15.setTop (mkF m 88 #[.val (.ref a), .val (.long (50 : Int64)), .second] [(.long (50 : Int64)), (.long (6 : Int64)), (.long (36 : Int64)), (.ref a)])) _
    refine XS.lsub X15.here hx rfl (hb hby d4_88) rfl ?_
    show Steps p.tables e below (T15.setTop (mkF m 89 #[.val (.ref a), .val (.long (50 : Int64)), .second] [(.long (-44 : Int64)), (.long (36 : Int64)), (.ref a)])) _
    refine st16 _ ?_
    show Steps p.tables e below (T16.setTop (mkF m 92 #[.val (.ref a), .val (.long (50 : Int64)), .second] [(.long (-(-44 : Int64))), (.long (36 : Int64)), (.ref a)])) _
    refine XS.ladd X16.here hx rfl (hb hby d4_92) rfl ?_
    show Steps p.tables e below (T16.setTop (mkF m 93 #[.val (.ref a), .val (.long (50 : Int64)), .second] [(.long ((36 : Int64) + (-(-44 : Int64)))), (.ref a)])) _
    refine X16.ldc2Long hx hown (mvT hZ (hw _ (List.mem_of_getElem? (i := 52) rfl))) (g := (mkF m 93 #[.val (.ref a), .val (.long (50 : Int64)), .second] [(.long ((36 : Int64) + (-(-44 : Int64)))), (.ref a)])) rfl (hb hby d4_93) _ ?_
    show Steps p.tables e below (T16.setTop (mkF m 96 #[.val (.ref a), .val (.long (50 : Int64)), .second] [(.long (4 : Int64)), (.long ((36 : Int64) + (-(-44 : Int64)))), (.ref a)])) _
    refine XS.ldiv X16.here hx rfl (hb hby d4_96) rfl (by decide) ?_
    show Steps p.tables e below (T16.setTop (mkF m 97 #[.val (.ref a), .val (.long (50 : Int64)), .second] [(.long (((36 : Int64) + (-(-44 : Int64))) / (4 : Int64))), (.ref a)])) _
    refine st17 _ ?_
    show Steps p.tables e below (T17.setTop (mkF m 100 #[.val (.ref a), .val (.long (50 : Int64)), .second] [])) _
    refine XS.aloadN X17.here hx rfl (hb hby d4_100) rfl rfl ?_
    show Steps p.tables e below (T17.setTop (mkF m 101 #[.val (.ref a), .val (.long (50 : Int64)), .second] [(.ref a)])) _
    refine X17.ldc2Long hx hown (mvT hZ (hw _ (List.mem_of_getElem? (i := 53) rfl))) (g := (mkF m 101 #[.val (.ref a), .val (.long (50 : Int64)), .second] [(.ref a)])) rfl (hb hby d4_101) _ ?_
    show Steps p.tables e below (T17.setTop (mkF m 104 #[.val (.ref a), .val (.long (50 : Int64)), .second] [(.long (7 : Int64)), (.ref a)])) _
    refine XS.aloadN X17.here hx rfl (hb hby d4_104) rfl rfl ?_
    show Steps p.tables e below (T17.setTop (mkF m 105 #[.val (.ref a), .val (.long (50 : Int64)), .second] [(.ref a), (.long (7 : Int64)), (.ref a)])) _
    refine st18 _ ?_
    show Steps p.tables e below (T18.setTop (mkF m 108 #[.val (.ref a), .val (.long (50 : Int64)), .second] [(.long (6 : Int64)), (.long (7 : Int64)), (.ref a)])) _
    refine XS.lmul X18.here hx rfl (hb hby d4_108) rfl ?_
    show Steps p.tables e below (T18.setTop (mkF m 109 #[.val (.ref a), .val (.long (50 : Int64)), .second] [(.long (42 : Int64)), (.ref a)])) _
    refine XS.lloadN X18.here hx rfl (hb hby d4_109) rfl ?_
    show Steps p.tables e below (T18.setTop (mkF m 110 #[.val (.ref a), .val (.long (50 : Int64)), .second] [(.long (50 : Int64)), (.long (42 : Int64)), (.ref a)])) _
    refine XS.ladd X18.here hx rfl (hb hby d4_110) rfl ?_
    show Steps p.tables e below (T18.setTop (mkF m 111 #[.val (.ref a), .val (.long (50 : Int64)), .second] [(.long (92 : Int64)), (.ref a)])) _
    refine X18.ldc2Long hx hown (mvT hZ (hw _ (List.mem_of_getElem? (i := 54) rfl))) (g := (mkF m 111 #[.val (.ref a), .val (.long (50 : Int64)), .second] [(.long (92 : Int64)), (.ref a)])) rfl (hb hby d4_111) _ ?_
    show Steps p.tables e below (T18.setTop (mkF m 114 #[.val (.ref a), .val (.long (50 : Int64)), .second] [(.long (8 : Int64)), (.long (92 : Int64)), (.ref a)])) _
    refine XS.ldiv X18.here hx rfl (hb hby d4_114) rfl (by decide) ?_
    show Steps p.tables e below (T18.setTop (mkF m 115 #[.val (.ref a), .val (.long (50 : Int64)), .second] [(.long (11 : Int64)), (.ref a)])) _
    refine st19 _ ?_
    show Steps p.tables e below (T19.setTop (mkF m 118 #[.val (.ref a), .val (.long (50 : Int64)), .second] [])) _
    exact k
  obtain ⟨fs, hr, hrun, hended, hW, hsame⟩ := X19.leave (v := none) (fun _ => rfl)
  refine ⟨_, _, w20 _ ?_, hrun, hended, _, _, rfl, ?_, ⟨_, rfl⟩, hW, hsame.mono (by decide) (by decide)⟩
  · exact X19.returnOut hx Bd.returns (hb hby d4_118) hr
  · show Q4_2 Z a t1 kt  h0 n0 _ T19.heap _
    rw [e19]
    exact ⟨rfl, N19, K, F_window_a, F_threshold_a, F_paceAt_a, F_smoothedRtt_a, F_leastRtt_a, F_latestRtts_a, F_nextLatest_a, F_latestCount_a, F_rttVariation_a, F_onTheWay_a, F_sent_a, F_shrunkAfter_a, V_t1⟩
theorem ef_4_3 (m : MethodId) (x0 : Addr) : entryFrame m #[(.ref x0), (.long (50 : Int64))] 3 = mkF m 0 #[.val (.ref x0), .val (.long (50 : Int64)), .second] [] := by first | (simp [entryFrame, mkF, argsToLocals, Value.category]; done) | rfl
def Q4_3 (Z : State) (a : Addr) (t1 : Addr) (kt : ClassId) (h0 : Heap) (n0 : Nat) (v : Option Value) (h : Heap) (L : List Loc) : Prop := v = none ∧ Fr n0 L ∧ Keep h0 h [a, t1] ∧ Fld Z h a "com/example/hashmesh/hashmesh/mesh/Congestion" "window" "D" (.double (4621819117588971520 : UInt64)) ∧ Fld Z h a "com/example/hashmesh/hashmesh/mesh/Congestion" "threshold" "D" (.double (4634204016564240384 : UInt64)) ∧ Fld Z h a "com/example/hashmesh/hashmesh/mesh/Congestion" "paceAt" "D" (.double (18442240474082181120 : UInt64)) ∧ Fld Z h a "com/example/hashmesh/hashmesh/mesh/Congestion" "smoothedRtt" "J" (.long (15 : Int64)) ∧ Fld Z h a "com/example/hashmesh/hashmesh/mesh/Congestion" "leastRtt" "J" (.long (0 : Int64)) ∧ Fld Z h a "com/example/hashmesh/hashmesh/mesh/Congestion" "latestRtts" "[J" (.ref t1) ∧ Fld Z h a "com/example/hashmesh/hashmesh/mesh/Congestion" "nextLatest" "I" (.int (0 : Int32)) ∧ Fld Z h a "com/example/hashmesh/hashmesh/mesh/Congestion" "latestCount" "I" (.int (4 : Int32)) ∧ Fld Z h a "com/example/hashmesh/hashmesh/mesh/Congestion" "rttVariation" "J" (.long (24 : Int64)) ∧ Fld Z h a "com/example/hashmesh/hashmesh/mesh/Congestion" "onTheWay" "I" (.int (0 : Int32)) ∧ Fld Z h a "com/example/hashmesh/hashmesh/mesh/Congestion" "sent" "J" (.long (0 : Int64)) ∧ Fld Z h a "com/example/hashmesh/hashmesh/mesh/Congestion" "shrunkAfter" "J" (.long (0 : Int64)) ∧ Arv Z h t1 kt .long (4 : Int32) [(.long (0 : Int64)), (.long (50 : Int64)), (.long (50 : Int64)), (.long (50 : Int64))] (.long (0 : Int64))
set_option maxRecDepth 65536 in
set_option maxHeartbeats 40000000 in
theorem rm4_3 (l : Launch) (Z : State) (a0 : Array Value) (hw : ∀ d ∈ tables_1, d.before a0 Z = true) (ws : List Jvm.Cond) (a : Addr) (t1 : Addr) (kt : ClassId) (h0 : Heap) (n0 : Nat) (O0 : Old Z n0 h0) (E_a : Exa Z h0 a "com/example/hashmesh/hashmesh/mesh/Congestion") (F_window_a : Fld Z h0 a "com/example/hashmesh/hashmesh/mesh/Congestion" "window" "D" (.double (4621819117588971520 : UInt64))) (F_threshold_a : Fld Z h0 a "com/example/hashmesh/hashmesh/mesh/Congestion" "threshold" "D" (.double (4634204016564240384 : UInt64))) (F_paceAt_a : Fld Z h0 a "com/example/hashmesh/hashmesh/mesh/Congestion" "paceAt" "D" (.double (18442240474082181120 : UInt64))) (F_smoothedRtt_a : Fld Z h0 a "com/example/hashmesh/hashmesh/mesh/Congestion" "smoothedRtt" "J" (.long (11 : Int64))) (F_leastRtt_a : Fld Z h0 a "com/example/hashmesh/hashmesh/mesh/Congestion" "leastRtt" "J" (.long (0 : Int64))) (F_latestRtts_a : Fld Z h0 a "com/example/hashmesh/hashmesh/mesh/Congestion" "latestRtts" "[J" (.ref t1)) (F_nextLatest_a : Fld Z h0 a "com/example/hashmesh/hashmesh/mesh/Congestion" "nextLatest" "I" (.int (3 : Int32))) (F_latestCount_a : Fld Z h0 a "com/example/hashmesh/hashmesh/mesh/Congestion" "latestCount" "I" (.int (3 : Int32))) (F_rttVariation_a : Fld Z h0 a "com/example/hashmesh/hashmesh/mesh/Congestion" "rttVariation" "J" (.long (20 : Int64))) (F_onTheWay_a : Fld Z h0 a "com/example/hashmesh/hashmesh/mesh/Congestion" "onTheWay" "I" (.int (0 : Int32))) (F_sent_a : Fld Z h0 a "com/example/hashmesh/hashmesh/mesh/Congestion" "sent" "J" (.long (0 : Int64))) (F_shrunkAfter_a : Fld Z h0 a "com/example/hashmesh/hashmesh/mesh/Congestion" "shrunkAfter" "J" (.long (0 : Int64))) (V_t1 : Arv Z h0 t1 kt .long (4 : Int32) [(.long (0 : Int64)), (.long (50 : Int64)), (.long (50 : Int64)), (.long (0 : Int64))] (.long (0 : Int64))) (g_a : n0 ≤ a) (g_t1 : n0 ≤ t1) :
    MetFree l (⟨"com/example/hashmesh/hashmesh/mesh/Congestion", "measured", "(J)V"⟩ : MethodName) (head1 (Jvm.Cond.code (⟨"com/example/hashmesh/hashmesh/mesh/Congestion", "measured", "(J)V"⟩ : MethodName) prog_61_method_8_code 3 none :: ws) ({ frames := 1, cells := 0, slots := 0, locals := 16 } : Room)) (fun aA uU => aA = #[(.ref a), (.long (50 : Int64))] ∧ Z.Warmed39 uU.vm ∧ uU.heap = h0) (fun _ _ _ _ _ => True) (fun _ uU oO uU' => ∃ vV lL, oO = .returned vV ∧ Q4_3 Z a t1 kt  h0 n0 vV uU'.heap lL ∧ FrameEnd uU oO uU' lL ({ frames := 1, cells := 0, slots := 0, locals := 16 } : Room).cells ({ frames := 1, cells := 0, slots := 0, locals := 16 } : Room).slots) := by
  refine MetFree.of_bodySF (plainFor_of_name pn_com_example_hashmesh_hashmesh_mesh_Congestion) hisR ?_
  intro p e s m args below meth c s₁ Bd hml0 hP hK
  obtain ⟨rfl, hZ, hh⟩ := hP
  have hx := Bd.exec
  have hby := Bd.bytes
  have hml : c.maxLocals = 3 := hml0
  have hown : s.vm.findClass "com/example/hashmesh/hashmesh/mesh/Congestion" = some m.cls := findClass_of_methodNamed Bd.named
  have hnm := (name_of_methodNamed Bd.named Bd.method).1
  have X0 : Stand p l e ({ frames := 1, cells := 0, slots := 0, locals := 16 } : Room) s m #[(.ref a), (.long (50 : Int64))] below meth c s₁ [] 0 0 := Stand.of_body Bd
  have e0 : s₁.heap = h0 := by rw [← hh, Bd.state]; rfl
  have N0 := Fr.nil n0
  have O := O0
  have K := Keep.refl h0 [a, t1]
  have pre0 : ∀ t, Steps p.tables e below (s₁.setTop (mkF m 0 #[.val (.ref a), .val (.long (50 : Int64)), .second] [])) t → Steps p.tables e below (s₁.setTop (entryFrame m #[(.ref a), (.long (50 : Int64))] 3)) t := fun t k => castTop (ef_4_3 m a) k
  obtain ⟨T1, X1, e1, st1⟩ := getF X0 hx hZ hown (host := "") (Or.inl (hw _ (List.mem_of_getElem? (i := 26) rfl))) Via.refl e0 F_leastRtt_a (g := (mkF m 2 #[.val (.ref a), .val (.long (50 : Int64)), .second] [(.ref a), (.ref a)])) rfl rfl (hb hby d4_2)
  obtain ⟨_, _, ⟨T2, L2, k2, n2⟩, -, X2, ⟨Lc2, hQ2, l2, y2, z2⟩, st2⟩ := Jvm.LawKit.callS X1 hx (y := (⟨"java/lang/Math", "min", "(JJ)J"⟩ : MethodName)) hown (mvT hZ (hw _ (List.mem_of_getElem? (i := 36) rfl))) (mvT hZ (hw _ (List.mem_of_getElem? (i := 37) rfl))) (mvT hZ (hw _ (List.mem_of_getElem? (i := 2) rfl))) (mvT hZ (hw _ (List.mem_of_getElem? (i := 38) rfl))) (by decide) (backOf (W := 1) (rm5_a l Z a0 hw [] (0 : Int64) (50 : Int64) h0 n0 O (by decide)) hZ (hw _ (List.mem_of_getElem? (i := 38) rfl)) (hw _ (List.mem_of_getElem? (i := 2) rfl)) (by decide) (by decide)) (g := (mkF m 6 #[.val (.ref a), .val (.long (50 : Int64)), .second] [(.long (50 : Int64)), (.long (0 : Int64)), (.ref a)])) rfl (by rw [hml]; rfl) (argsL := [(.long (0 : Int64)), (.long (50 : Int64))]) (rest := [(.ref a)]) (lenOf pd__40JJ_41J rfl) rfl (by show 2 * 0 + _ ≤ _; exact Nat.le_of_eq rfl) (hb hby d4_6) (fun _ _ => ⟨rfl, e1, (by decide : 0 + 0 ≤ _), (by decide : 0 + 0 ≤ _)⟩)
  dsimp only [Pt.U, Pt.locs, Pt.cells, Pt.slots] at X2 l2 y2 z2 st2 hQ2
  subst l2 y2 z2
  obtain ⟨rfl, N2q, eh2⟩ := hQ2
  have N2 := Fr.app N0 N2q
  have ne_t1_a : t1 ≠ a := (Ne.symm (Exa.neArv E_a V_t1 (hw _ (List.mem_of_getElem? (i := 5) rfl))))
  obtain ⟨T3, h3, X3, e3, W3, st3⟩ := putF X2 hx hZ hown (host := "") (Or.inl (hw _ (List.mem_of_getElem? (i := 26) rfl))) Via.refl eh2 F_leastRtt_a E_a (Or.inl (hw _ (List.mem_of_getElem? (i := 27) rfl))) (hw _ (List.mem_of_getElem? (i := 5) rfl)) (ty := .long) (by decide) rfl rfl (g := (mkF m 9 #[.val (.ref a), .val (.long (50 : Int64)), .second] [(.long (0 : Int64)), (.ref a)])) rfl rfl (hb hby d4_9)
  have F_leastRtt_a := F_leastRtt_a.same W3
  have E_a := E_a.wr W3
  have F_window_a := F_window_a.other W3 (Or.inr (slot_ne (Or.inl (hw _ (List.mem_of_getElem? (i := 15) rfl))) (Or.inl (hw _ (List.mem_of_getElem? (i := 27) rfl))) (by decide) (t := .double) (t' := .long) (by decide) (by decide)))
  have F_threshold_a := F_threshold_a.other W3 (Or.inr (slot_ne (Or.inl (hw _ (List.mem_of_getElem? (i := 18) rfl))) (Or.inl (hw _ (List.mem_of_getElem? (i := 27) rfl))) (by decide) (t := .double) (t' := .long) (by decide) (by decide)))
  have F_paceAt_a := F_paceAt_a.other W3 (Or.inr (slot_ne (Or.inl (hw _ (List.mem_of_getElem? (i := 21) rfl))) (Or.inl (hw _ (List.mem_of_getElem? (i := 27) rfl))) (by decide) (t := .double) (t' := .long) (by decide) (by decide)))
  have F_smoothedRtt_a := F_smoothedRtt_a.other W3 (Or.inr (slot_ne (Or.inl (hw _ (List.mem_of_getElem? (i := 24) rfl))) (Or.inl (hw _ (List.mem_of_getElem? (i := 27) rfl))) (by decide) (t := .long) (t' := .long) (by decide) (by decide)))
  have F_latestRtts_a := F_latestRtts_a.other W3 (Or.inr (slot_ne (Or.inr (hw _ (List.mem_of_getElem? (i := 30) rfl))) (Or.inl (hw _ (List.mem_of_getElem? (i := 27) rfl))) (by decide) (t := (.array .long)) (t' := .long) (by decide) (by decide)))
  have F_nextLatest_a := F_nextLatest_a.other W3 (Or.inr (slot_ne (Or.inl (hw _ (List.mem_of_getElem? (i := 40) rfl))) (Or.inl (hw _ (List.mem_of_getElem? (i := 27) rfl))) (by decide) (t := .int) (t' := .long) (by decide) (by decide)))
  have F_latestCount_a := F_latestCount_a.other W3 (Or.inr (slot_ne (Or.inl (hw _ (List.mem_of_getElem? (i := 42) rfl))) (Or.inl (hw _ (List.mem_of_getElem? (i := 27) rfl))) (by decide) (t := .int) (t' := .long) (by decide) (by decide)))
  have F_rttVariation_a := F_rttVariation_a.other W3 (Or.inr (slot_ne (Or.inl (hw _ (List.mem_of_getElem? (i := 46) rfl))) (Or.inl (hw _ (List.mem_of_getElem? (i := 27) rfl))) (by decide) (t := .long) (t' := .long) (by decide) (by decide)))
  have F_onTheWay_a := F_onTheWay_a.other W3 (Or.inr (slot_ne (Or.inl (hw _ (List.mem_of_getElem? (i := 79) rfl))) (Or.inl (hw _ (List.mem_of_getElem? (i := 27) rfl))) (by decide) (t := .int) (t' := .long) (by decide) (by decide)))
  have F_sent_a := F_sent_a.other W3 (Or.inr (slot_ne (Or.inl (hw _ (List.mem_of_getElem? (i := 70) rfl))) (Or.inl (hw _ (List.mem_of_getElem? (i := 27) rfl))) (by decide) (t := .long) (t' := .long) (by decide) (by decide)))
  have F_shrunkAfter_a := F_shrunkAfter_a.other W3 (Or.inr (slot_ne (Or.inl (hw _ (List.mem_of_getElem? (i := 72) rfl))) (Or.inl (hw _ (List.mem_of_getElem? (i := 27) rfl))) (by decide) (t := .long) (t' := .long) (by decide) (by decide)))
  have V_t1 := V_t1.other W3 ne_t1_a
  have O := O.wr W3 g_a
  have K := K.wr W3 (Or.inl (List.mem_of_getElem? (i := 0) rfl))
  have N3 := Fr.snoc X3 N2 g_a
  obtain ⟨T4, X4, e4, st4⟩ := getF X3 hx hZ hown (host := "") (Or.inl (hw _ (List.mem_of_getElem? (i := 29) rfl))) Via.refl e3 F_latestRtts_a (g := (mkF m 13 #[.val (.ref a), .val (.long (50 : Int64)), .second] [(.ref a)])) rfl rfl (hb hby d4_13)
  obtain ⟨T5, X5, e5, st5⟩ := getF X4 hx hZ hown (host := "") (Or.inl (hw _ (List.mem_of_getElem? (i := 39) rfl))) Via.refl e4 F_nextLatest_a (g := (mkF m 17 #[.val (.ref a), .val (.long (50 : Int64)), .second] [(.ref a), (.ref t1)])) rfl rfl (hb hby d4_17)
  obtain ⟨cl6, Ar6, q6, Z6, N6, H6, G6⟩ := id V_t1
  have hin6 : ¬ ((3 : Int32) < 0 ∨ cl6.slots.size ≤ ((3 : Int32)).toNatClampNeg) := inb_of Z6 ⟨by decide, by decide⟩
  obtain ⟨T7, h7, X7, e7, W7, st7⟩ := stJ X5 hx hZ e5 Ar6 (j := (3 : Int32)) hin6 (g := (mkF m 21 #[.val (.ref a), .val (.long (50 : Int64)), .second] [(.long (50 : Int64)), (.int (3 : Int32)), (.ref t1)])) rfl rfl (hb hby d4_21)
  have V_t1 : Arv Z h7 t1 kt .long (4 : Int32) [(.long (0 : Int64)), (.long (50 : Int64)), (.long (50 : Int64)), (.long (50 : Int64))] (.long (0 : Int64)) := Arv.set Ar6 q6 Z6 N6 H6 G6 rfl W7 3 rfl (Nat.le_of_ble_eq_true rfl)
  have E_a := E_a.wr W7
  have F_window_a := F_window_a.other W7 (Or.inl (Ne.symm ne_t1_a))
  have F_threshold_a := F_threshold_a.other W7 (Or.inl (Ne.symm ne_t1_a))
  have F_paceAt_a := F_paceAt_a.other W7 (Or.inl (Ne.symm ne_t1_a))
  have F_smoothedRtt_a := F_smoothedRtt_a.other W7 (Or.inl (Ne.symm ne_t1_a))
  have F_leastRtt_a := F_leastRtt_a.other W7 (Or.inl (Ne.symm ne_t1_a))
  have F_latestRtts_a := F_latestRtts_a.other W7 (Or.inl (Ne.symm ne_t1_a))
  have F_nextLatest_a := F_nextLatest_a.other W7 (Or.inl (Ne.symm ne_t1_a))
  have F_latestCount_a := F_latestCount_a.other W7 (Or.inl (Ne.symm ne_t1_a))
  have F_rttVariation_a := F_rttVariation_a.other W7 (Or.inl (Ne.symm ne_t1_a))
  have F_onTheWay_a := F_onTheWay_a.other W7 (Or.inl (Ne.symm ne_t1_a))
  have F_sent_a := F_sent_a.other W7 (Or.inl (Ne.symm ne_t1_a))
  have F_shrunkAfter_a := F_shrunkAfter_a.other W7 (Or.inl (Ne.symm ne_t1_a))
  have O := O.wr W7 g_t1
  have K := K.wr W7 (Or.inl (List.mem_of_getElem? (i := 1) rfl))
  have N7 := Fr.snoc X7 N3 g_t1
  obtain ⟨T8, X8, e8, st8⟩ := getF X7 hx hZ hown (host := "") (Or.inl (hw _ (List.mem_of_getElem? (i := 39) rfl))) Via.refl e7 F_nextLatest_a (g := (mkF m 24 #[.val (.ref a), .val (.long (50 : Int64)), .second] [(.ref a), (.ref a)])) rfl rfl (hb hby d4_24)
  obtain ⟨T9, h9, X9, e9, W9, st9⟩ := putF X8 hx hZ hown (host := "") (Or.inl (hw _ (List.mem_of_getElem? (i := 39) rfl))) Via.refl e8 F_nextLatest_a E_a (Or.inl (hw _ (List.mem_of_getElem? (i := 40) rfl))) (hw _ (List.mem_of_getElem? (i := 5) rfl)) (ty := .int) (by decide) rfl rfl (g := (mkF m 31 #[.val (.ref a), .val (.long (50 : Int64)), .second] [(.int (0 : Int32)), (.ref a)])) rfl rfl (hb hby d4_31)
  have F_nextLatest_a := F_nextLatest_a.same W9
  have E_a := E_a.wr W9
  have F_window_a := F_window_a.other W9 (Or.inr (slot_ne (Or.inl (hw _ (List.mem_of_getElem? (i := 15) rfl))) (Or.inl (hw _ (List.mem_of_getElem? (i := 40) rfl))) (by decide) (t := .double) (t' := .int) (by decide) (by decide)))
  have F_threshold_a := F_threshold_a.other W9 (Or.inr (slot_ne (Or.inl (hw _ (List.mem_of_getElem? (i := 18) rfl))) (Or.inl (hw _ (List.mem_of_getElem? (i := 40) rfl))) (by decide) (t := .double) (t' := .int) (by decide) (by decide)))
  have F_paceAt_a := F_paceAt_a.other W9 (Or.inr (slot_ne (Or.inl (hw _ (List.mem_of_getElem? (i := 21) rfl))) (Or.inl (hw _ (List.mem_of_getElem? (i := 40) rfl))) (by decide) (t := .double) (t' := .int) (by decide) (by decide)))
  have F_smoothedRtt_a := F_smoothedRtt_a.other W9 (Or.inr (slot_ne (Or.inl (hw _ (List.mem_of_getElem? (i := 24) rfl))) (Or.inl (hw _ (List.mem_of_getElem? (i := 40) rfl))) (by decide) (t := .long) (t' := .int) (by decide) (by decide)))
  have F_leastRtt_a := F_leastRtt_a.other W9 (Or.inr (slot_ne (Or.inl (hw _ (List.mem_of_getElem? (i := 27) rfl))) (Or.inl (hw _ (List.mem_of_getElem? (i := 40) rfl))) (by decide) (t := .long) (t' := .int) (by decide) (by decide)))
  have F_latestRtts_a := F_latestRtts_a.other W9 (Or.inr (slot_ne (Or.inr (hw _ (List.mem_of_getElem? (i := 30) rfl))) (Or.inl (hw _ (List.mem_of_getElem? (i := 40) rfl))) (by decide) (t := (.array .long)) (t' := .int) (by decide) (by decide)))
  have F_latestCount_a := F_latestCount_a.other W9 (Or.inr (slot_ne (Or.inl (hw _ (List.mem_of_getElem? (i := 42) rfl))) (Or.inl (hw _ (List.mem_of_getElem? (i := 40) rfl))) (by decide) (t := .int) (t' := .int) (by decide) (by decide)))
  have F_rttVariation_a := F_rttVariation_a.other W9 (Or.inr (slot_ne (Or.inl (hw _ (List.mem_of_getElem? (i := 46) rfl))) (Or.inl (hw _ (List.mem_of_getElem? (i := 40) rfl))) (by decide) (t := .long) (t' := .int) (by decide) (by decide)))
  have F_onTheWay_a := F_onTheWay_a.other W9 (Or.inr (slot_ne (Or.inl (hw _ (List.mem_of_getElem? (i := 79) rfl))) (Or.inl (hw _ (List.mem_of_getElem? (i := 40) rfl))) (by decide) (t := .int) (t' := .int) (by decide) (by decide)))
  have F_sent_a := F_sent_a.other W9 (Or.inr (slot_ne (Or.inl (hw _ (List.mem_of_getElem? (i := 70) rfl))) (Or.inl (hw _ (List.mem_of_getElem? (i := 40) rfl))) (by decide) (t := .long) (t' := .int) (by decide) (by decide)))
  have F_shrunkAfter_a := F_shrunkAfter_a.other W9 (Or.inr (slot_ne (Or.inl (hw _ (List.mem_of_getElem? (i := 72) rfl))) (Or.inl (hw _ (List.mem_of_getElem? (i := 40) rfl))) (by decide) (t := .long) (t' := .int) (by decide) (by decide)))
  have V_t1 := V_t1.other W9 ne_t1_a
  have O := O.wr W9 g_a
  have K := K.wr W9 (Or.inl (List.mem_of_getElem? (i := 0) rfl))
  have N9 := Fr.snoc X9 N7 g_a
  obtain ⟨T10, X10, e10, st10⟩ := getF X9 hx hZ hown (host := "") (Or.inl (hw _ (List.mem_of_getElem? (i := 41) rfl))) Via.refl e9 F_latestCount_a (g := (mkF m 36 #[.val (.ref a), .val (.long (50 : Int64)), .second] [(.ref a), (.ref a)])) rfl rfl (hb hby d4_36)
  obtain ⟨_, _, ⟨T11, L11, k11, n11⟩, -, X11, ⟨Lc11, hQ11, l11, y11, z11⟩, st11⟩ := Jvm.LawKit.callS X10 hx (y := (⟨"java/lang/Math", "min", "(II)I"⟩ : MethodName)) hown (mvT hZ (hw _ (List.mem_of_getElem? (i := 43) rfl))) (mvT hZ (hw _ (List.mem_of_getElem? (i := 1) rfl))) (mvT hZ (hw _ (List.mem_of_getElem? (i := 2) rfl))) (mvT hZ (hw _ (List.mem_of_getElem? (i := 3) rfl))) (by decide) (backOf (W := 1) (rm1_a l Z a0 hw [] (4 : Int32) (4 : Int32) h9 n0 O (by decide)) hZ (hw _ (List.mem_of_getElem? (i := 3) rfl)) (hw _ (List.mem_of_getElem? (i := 2) rfl)) (by decide) (by decide)) (g := (mkF m 42 #[.val (.ref a), .val (.long (50 : Int64)), .second] [(.int (4 : Int32)), (.int (4 : Int32)), (.ref a)])) rfl (by rw [hml]; rfl) (argsL := [(.int (4 : Int32)), (.int (4 : Int32))]) (rest := [(.ref a)]) (lenOf pd__40II_41I rfl) rfl (by show 2 * 0 + _ ≤ _; exact Nat.le_of_eq rfl) (hb hby d4_42) (fun _ _ => ⟨rfl, e10, (by decide : 0 + 0 ≤ _), (by decide : 0 + 0 ≤ _)⟩)
  dsimp only [Pt.U, Pt.locs, Pt.cells, Pt.slots] at X11 l11 y11 z11 st11 hQ11
  subst l11 y11 z11
  obtain ⟨rfl, N11q, eh11⟩ := hQ11
  have N11 := Fr.app N9 N11q
  obtain ⟨T12, h12, X12, e12, W12, st12⟩ := putF X11 hx hZ hown (host := "") (Or.inl (hw _ (List.mem_of_getElem? (i := 41) rfl))) Via.refl eh11 F_latestCount_a E_a (Or.inl (hw _ (List.mem_of_getElem? (i := 42) rfl))) (hw _ (List.mem_of_getElem? (i := 5) rfl)) (ty := .int) (by decide) rfl rfl (g := (mkF m 45 #[.val (.ref a), .val (.long (50 : Int64)), .second] [(.int (4 : Int32)), (.ref a)])) rfl rfl (hb hby d4_45)
  have F_latestCount_a := F_latestCount_a.same W12
  have E_a := E_a.wr W12
  have F_window_a := F_window_a.other W12 (Or.inr (slot_ne (Or.inl (hw _ (List.mem_of_getElem? (i := 15) rfl))) (Or.inl (hw _ (List.mem_of_getElem? (i := 42) rfl))) (by decide) (t := .double) (t' := .int) (by decide) (by decide)))
  have F_threshold_a := F_threshold_a.other W12 (Or.inr (slot_ne (Or.inl (hw _ (List.mem_of_getElem? (i := 18) rfl))) (Or.inl (hw _ (List.mem_of_getElem? (i := 42) rfl))) (by decide) (t := .double) (t' := .int) (by decide) (by decide)))
  have F_paceAt_a := F_paceAt_a.other W12 (Or.inr (slot_ne (Or.inl (hw _ (List.mem_of_getElem? (i := 21) rfl))) (Or.inl (hw _ (List.mem_of_getElem? (i := 42) rfl))) (by decide) (t := .double) (t' := .int) (by decide) (by decide)))
  have F_smoothedRtt_a := F_smoothedRtt_a.other W12 (Or.inr (slot_ne (Or.inl (hw _ (List.mem_of_getElem? (i := 24) rfl))) (Or.inl (hw _ (List.mem_of_getElem? (i := 42) rfl))) (by decide) (t := .long) (t' := .int) (by decide) (by decide)))
  have F_leastRtt_a := F_leastRtt_a.other W12 (Or.inr (slot_ne (Or.inl (hw _ (List.mem_of_getElem? (i := 27) rfl))) (Or.inl (hw _ (List.mem_of_getElem? (i := 42) rfl))) (by decide) (t := .long) (t' := .int) (by decide) (by decide)))
  have F_latestRtts_a := F_latestRtts_a.other W12 (Or.inr (slot_ne (Or.inr (hw _ (List.mem_of_getElem? (i := 30) rfl))) (Or.inl (hw _ (List.mem_of_getElem? (i := 42) rfl))) (by decide) (t := (.array .long)) (t' := .int) (by decide) (by decide)))
  have F_nextLatest_a := F_nextLatest_a.other W12 (Or.inr (slot_ne (Or.inl (hw _ (List.mem_of_getElem? (i := 40) rfl))) (Or.inl (hw _ (List.mem_of_getElem? (i := 42) rfl))) (by decide) (t := .int) (t' := .int) (by decide) (by decide)))
  have F_rttVariation_a := F_rttVariation_a.other W12 (Or.inr (slot_ne (Or.inl (hw _ (List.mem_of_getElem? (i := 46) rfl))) (Or.inl (hw _ (List.mem_of_getElem? (i := 42) rfl))) (by decide) (t := .long) (t' := .int) (by decide) (by decide)))
  have F_onTheWay_a := F_onTheWay_a.other W12 (Or.inr (slot_ne (Or.inl (hw _ (List.mem_of_getElem? (i := 79) rfl))) (Or.inl (hw _ (List.mem_of_getElem? (i := 42) rfl))) (by decide) (t := .int) (t' := .int) (by decide) (by decide)))
  have F_sent_a := F_sent_a.other W12 (Or.inr (slot_ne (Or.inl (hw _ (List.mem_of_getElem? (i := 70) rfl))) (Or.inl (hw _ (List.mem_of_getElem? (i := 42) rfl))) (by decide) (t := .long) (t' := .int) (by decide) (by decide)))
  have F_shrunkAfter_a := F_shrunkAfter_a.other W12 (Or.inr (slot_ne (Or.inl (hw _ (List.mem_of_getElem? (i := 72) rfl))) (Or.inl (hw _ (List.mem_of_getElem? (i := 42) rfl))) (by decide) (t := .long) (t' := .int) (by decide) (by decide)))
  have V_t1 := V_t1.other W12 ne_t1_a
  have O := O.wr W12 g_a
  have K := K.wr W12 (Or.inl (List.mem_of_getElem? (i := 0) rfl))
  have N12 := Fr.snoc X12 N11 g_a
  obtain ⟨T13, X13, e13, st13⟩ := getF X12 hx hZ hown (host := "") (Or.inl (hw _ (List.mem_of_getElem? (i := 23) rfl))) Via.refl e12 F_smoothedRtt_a (g := (mkF m 49 #[.val (.ref a), .val (.long (50 : Int64)), .second] [(.ref a)])) rfl rfl (hb hby d4_49)
  obtain ⟨T14, X14, e14, st14⟩ := getF X13 hx hZ hown (host := "") (Or.inl (hw _ (List.mem_of_getElem? (i := 45) rfl))) Via.refl e13 F_rttVariation_a (g := (mkF m 79 #[.val (.ref a), .val (.long (50 : Int64)), .second] [(.ref a), (.long (3 : Int64)), (.ref a)])) rfl rfl (hb hby d4_79)
  obtain ⟨T15, X15, e15, st15⟩ := getF X14 hx hZ hown (host := "") (Or.inl (hw _ (List.mem_of_getElem? (i := 23) rfl))) Via.refl e14 F_smoothedRtt_a (g := (mkF m 84 #[.val (.ref a), .val (.long (50 : Int64)), .second] [(.ref a), (.long (60 : Int64)), (.ref a)])) rfl rfl (hb hby d4_84)
  obtain ⟨_, _, ⟨T16, L16, k16, n16⟩, -, X16, ⟨Lc16, hQ16, l16, y16, z16⟩, st16⟩ := Jvm.LawKit.callS X15 hx (y := (⟨"java/lang/Math", "abs", "(J)J"⟩ : MethodName)) hown (mvT hZ (hw _ (List.mem_of_getElem? (i := 49) rfl))) (mvT hZ (hw _ (List.mem_of_getElem? (i := 50) rfl))) (mvT hZ (hw _ (List.mem_of_getElem? (i := 2) rfl))) (mvT hZ (hw _ (List.mem_of_getElem? (i := 51) rfl))) (by decide) (backOf (W := 3) (rm6_b l Z a0 hw [] (-39 : Int64) h12 n0 O (by decide)) hZ (hw _ (List.mem_of_getElem? (i := 51) rfl)) (hw _ (List.mem_of_getElem? (i := 2) rfl)) (by decide) (by decide)) (g := (mkF m 89 #[.val (.ref a), .val (.long (50 : Int64)), .second] [(.long (-39 : Int64)), (.long (60 : Int64)), (.ref a)])) rfl (by rw [hml]; rfl) (argsL := [(.long (-39 : Int64))]) (rest := [(.long (60 : Int64)), (.ref a)]) (lenOf pd__40J_41J rfl) rfl (by show 2 * 0 + _ ≤ _; exact Nat.le_of_eq rfl) (hb hby d4_89) (fun _ _ => ⟨rfl, e15, (by decide : 0 + 0 ≤ _), (by decide : 0 + 0 ≤ _)⟩)
  dsimp only [Pt.U, Pt.locs, Pt.cells, Pt.slots] at X16 l16 y16 z16 st16 hQ16
  subst l16 y16 z16
  obtain ⟨rfl, N16q, eh16⟩ := hQ16
  have N16 := Fr.app N12 N16q
  obtain ⟨T17, h17, X17, e17, W17, st17⟩ := putF X16 hx hZ hown (host := "") (Or.inl (hw _ (List.mem_of_getElem? (i := 45) rfl))) Via.refl eh16 F_rttVariation_a E_a (Or.inl (hw _ (List.mem_of_getElem? (i := 46) rfl))) (hw _ (List.mem_of_getElem? (i := 5) rfl)) (ty := .long) (by decide) rfl rfl (g := (mkF m 97 #[.val (.ref a), .val (.long (50 : Int64)), .second] [(.long (((60 : Int64) + (-(-39 : Int64))) / (4 : Int64))), (.ref a)])) rfl rfl (hb hby d4_97)
  have F_rttVariation_a := F_rttVariation_a.same W17
  have E_a := E_a.wr W17
  have F_window_a := F_window_a.other W17 (Or.inr (slot_ne (Or.inl (hw _ (List.mem_of_getElem? (i := 15) rfl))) (Or.inl (hw _ (List.mem_of_getElem? (i := 46) rfl))) (by decide) (t := .double) (t' := .long) (by decide) (by decide)))
  have F_threshold_a := F_threshold_a.other W17 (Or.inr (slot_ne (Or.inl (hw _ (List.mem_of_getElem? (i := 18) rfl))) (Or.inl (hw _ (List.mem_of_getElem? (i := 46) rfl))) (by decide) (t := .double) (t' := .long) (by decide) (by decide)))
  have F_paceAt_a := F_paceAt_a.other W17 (Or.inr (slot_ne (Or.inl (hw _ (List.mem_of_getElem? (i := 21) rfl))) (Or.inl (hw _ (List.mem_of_getElem? (i := 46) rfl))) (by decide) (t := .double) (t' := .long) (by decide) (by decide)))
  have F_smoothedRtt_a := F_smoothedRtt_a.other W17 (Or.inr (slot_ne (Or.inl (hw _ (List.mem_of_getElem? (i := 24) rfl))) (Or.inl (hw _ (List.mem_of_getElem? (i := 46) rfl))) (by decide) (t := .long) (t' := .long) (by decide) (by decide)))
  have F_leastRtt_a := F_leastRtt_a.other W17 (Or.inr (slot_ne (Or.inl (hw _ (List.mem_of_getElem? (i := 27) rfl))) (Or.inl (hw _ (List.mem_of_getElem? (i := 46) rfl))) (by decide) (t := .long) (t' := .long) (by decide) (by decide)))
  have F_latestRtts_a := F_latestRtts_a.other W17 (Or.inr (slot_ne (Or.inr (hw _ (List.mem_of_getElem? (i := 30) rfl))) (Or.inl (hw _ (List.mem_of_getElem? (i := 46) rfl))) (by decide) (t := (.array .long)) (t' := .long) (by decide) (by decide)))
  have F_nextLatest_a := F_nextLatest_a.other W17 (Or.inr (slot_ne (Or.inl (hw _ (List.mem_of_getElem? (i := 40) rfl))) (Or.inl (hw _ (List.mem_of_getElem? (i := 46) rfl))) (by decide) (t := .int) (t' := .long) (by decide) (by decide)))
  have F_latestCount_a := F_latestCount_a.other W17 (Or.inr (slot_ne (Or.inl (hw _ (List.mem_of_getElem? (i := 42) rfl))) (Or.inl (hw _ (List.mem_of_getElem? (i := 46) rfl))) (by decide) (t := .int) (t' := .long) (by decide) (by decide)))
  have F_onTheWay_a := F_onTheWay_a.other W17 (Or.inr (slot_ne (Or.inl (hw _ (List.mem_of_getElem? (i := 79) rfl))) (Or.inl (hw _ (List.mem_of_getElem? (i := 46) rfl))) (by decide) (t := .int) (t' := .long) (by decide) (by decide)))
  have F_sent_a := F_sent_a.other W17 (Or.inr (slot_ne (Or.inl (hw _ (List.mem_of_getElem? (i := 70) rfl))) (Or.inl (hw _ (List.mem_of_getElem? (i := 46) rfl))) (by decide) (t := .long) (t' := .long) (by decide) (by decide)))
  have F_shrunkAfter_a := F_shrunkAfter_a.other W17 (Or.inr (slot_ne (Or.inl (hw _ (List.mem_of_getElem? (i := 72) rfl))) (Or.inl (hw _ (List.mem_of_getElem? (i := 46) rfl))) (by decide) (t := .long) (t' := .long) (by decide) (by decide)))
  have V_t1 := V_t1.other W17 ne_t1_a
  have O := O.wr W17 g_a
  have K := K.wr W17 (Or.inl (List.mem_of_getElem? (i := 0) rfl))
  have N17 := Fr.snoc X17 N16 g_a
  obtain ⟨T18, X18, e18, st18⟩ := getF X17 hx hZ hown (host := "") (Or.inl (hw _ (List.mem_of_getElem? (i := 23) rfl))) Via.refl e17 F_smoothedRtt_a (g := (mkF m 105 #[.val (.ref a), .val (.long (50 : Int64)), .second] [(.ref a), (.long (7 : Int64)), (.ref a)])) rfl rfl (hb hby d4_105)
  obtain ⟨T19, h19, X19, e19, W19, st19⟩ := putF X18 hx hZ hown (host := "") (Or.inl (hw _ (List.mem_of_getElem? (i := 23) rfl))) Via.refl e18 F_smoothedRtt_a E_a (Or.inl (hw _ (List.mem_of_getElem? (i := 24) rfl))) (hw _ (List.mem_of_getElem? (i := 5) rfl)) (ty := .long) (by decide) rfl rfl (g := (mkF m 115 #[.val (.ref a), .val (.long (50 : Int64)), .second] [(.long (15 : Int64)), (.ref a)])) rfl rfl (hb hby d4_115)
  have F_smoothedRtt_a := F_smoothedRtt_a.same W19
  have E_a := E_a.wr W19
  have F_window_a := F_window_a.other W19 (Or.inr (slot_ne (Or.inl (hw _ (List.mem_of_getElem? (i := 15) rfl))) (Or.inl (hw _ (List.mem_of_getElem? (i := 24) rfl))) (by decide) (t := .double) (t' := .long) (by decide) (by decide)))
  have F_threshold_a := F_threshold_a.other W19 (Or.inr (slot_ne (Or.inl (hw _ (List.mem_of_getElem? (i := 18) rfl))) (Or.inl (hw _ (List.mem_of_getElem? (i := 24) rfl))) (by decide) (t := .double) (t' := .long) (by decide) (by decide)))
  have F_paceAt_a := F_paceAt_a.other W19 (Or.inr (slot_ne (Or.inl (hw _ (List.mem_of_getElem? (i := 21) rfl))) (Or.inl (hw _ (List.mem_of_getElem? (i := 24) rfl))) (by decide) (t := .double) (t' := .long) (by decide) (by decide)))
  have F_leastRtt_a := F_leastRtt_a.other W19 (Or.inr (slot_ne (Or.inl (hw _ (List.mem_of_getElem? (i := 27) rfl))) (Or.inl (hw _ (List.mem_of_getElem? (i := 24) rfl))) (by decide) (t := .long) (t' := .long) (by decide) (by decide)))
  have F_latestRtts_a := F_latestRtts_a.other W19 (Or.inr (slot_ne (Or.inr (hw _ (List.mem_of_getElem? (i := 30) rfl))) (Or.inl (hw _ (List.mem_of_getElem? (i := 24) rfl))) (by decide) (t := (.array .long)) (t' := .long) (by decide) (by decide)))
  have F_nextLatest_a := F_nextLatest_a.other W19 (Or.inr (slot_ne (Or.inl (hw _ (List.mem_of_getElem? (i := 40) rfl))) (Or.inl (hw _ (List.mem_of_getElem? (i := 24) rfl))) (by decide) (t := .int) (t' := .long) (by decide) (by decide)))
  have F_latestCount_a := F_latestCount_a.other W19 (Or.inr (slot_ne (Or.inl (hw _ (List.mem_of_getElem? (i := 42) rfl))) (Or.inl (hw _ (List.mem_of_getElem? (i := 24) rfl))) (by decide) (t := .int) (t' := .long) (by decide) (by decide)))
  have F_rttVariation_a := F_rttVariation_a.other W19 (Or.inr (slot_ne (Or.inl (hw _ (List.mem_of_getElem? (i := 46) rfl))) (Or.inl (hw _ (List.mem_of_getElem? (i := 24) rfl))) (by decide) (t := .long) (t' := .long) (by decide) (by decide)))
  have F_onTheWay_a := F_onTheWay_a.other W19 (Or.inr (slot_ne (Or.inl (hw _ (List.mem_of_getElem? (i := 79) rfl))) (Or.inl (hw _ (List.mem_of_getElem? (i := 24) rfl))) (by decide) (t := .int) (t' := .long) (by decide) (by decide)))
  have F_sent_a := F_sent_a.other W19 (Or.inr (slot_ne (Or.inl (hw _ (List.mem_of_getElem? (i := 70) rfl))) (Or.inl (hw _ (List.mem_of_getElem? (i := 24) rfl))) (by decide) (t := .long) (t' := .long) (by decide) (by decide)))
  have F_shrunkAfter_a := F_shrunkAfter_a.other W19 (Or.inr (slot_ne (Or.inl (hw _ (List.mem_of_getElem? (i := 72) rfl))) (Or.inl (hw _ (List.mem_of_getElem? (i := 24) rfl))) (by decide) (t := .long) (t' := .long) (by decide) (by decide)))
  have V_t1 := V_t1.other W19 ne_t1_a
  have O := O.wr W19 g_a
  have K := K.wr W19 (Or.inl (List.mem_of_getElem? (i := 0) rfl))
  have N19 := Fr.snoc X19 N17 g_a
  have w20 : ∀ t, Steps p.tables e below (T19.setTop (mkF m 118 #[.val (.ref a), .val (.long (50 : Int64)), .second] [])) t → Steps p.tables e below (s₁.setTop (entryFrame m #[(.ref a), (.long (50 : Int64))] 3)) t := fun t k => by
    refine pre0 t ?_
    refine XS.aloadN X0.here hx rfl (hb hby d4_0) rfl rfl ?_
    show Steps p.tables e below (s₁.setTop (mkF m 1 #[.val (.ref a), .val (.long (50 : Int64)), .second] [(.ref a)])) _
    refine XS.aloadN X0.here hx rfl (hb hby d4_1) rfl rfl ?_
    show Steps p.tables e below (s₁.setTop (mkF m 2 #[.val (.ref a), .val (.long (50 : Int64)), .second] [(.ref a), (.ref a)])) _
    refine st1 _ ?_
    show Steps p.tables e below (T1.setTop (mkF m 5 #[.val (.ref a), .val (.long (50 : Int64)), .second] [(.long (0 : Int64)), (.ref a)])) _
    refine XS.lloadN X1.here hx rfl (hb hby d4_5) rfl ?_
    show Steps p.tables e below (T1.setTop (mkF m 6 #[.val (.ref a), .val (.long (50 : Int64)), .second] [(.long (50 : Int64)), (.long (0 : Int64)), (.ref a)])) _
    refine st2 _ ?_
    show Steps p.tables e below (T2.setTop (mkF m 9 #[.val (.ref a), .val (.long (50 : Int64)), .second] [(.long (0 : Int64)), (.ref a)])) _
    refine st3 _ ?_
    show Steps p.tables e below (T3.setTop (mkF m 12 #[.val (.ref a), .val (.long (50 : Int64)), .second] [])) _
    refine XS.aloadN X3.here hx rfl (hb hby d4_12) rfl rfl ?_
    show Steps p.tables e below (T3.setTop (mkF m 13 #[.val (.ref a), .val (.long (50 : Int64)), .second] [(.ref a)])) _
    refine st4 _ ?_
    show Steps p.tables e below (T4.setTop (mkF m 16 #[.val (.ref a), .val (.long (50 : Int64)), .second] [(.ref t1)])) _
    refine XS.aloadN X4.here hx rfl (hb hby d4_16) rfl rfl ?_
    show Steps p.tables e below (T4.setTop (mkF m 17 #[.val (.ref a), .val (.long (50 : Int64)), .second] [(.ref a), (.ref t1)])) _
    refine st5 _ ?_
    show Steps p.tables e below (T5.setTop (mkF m 20 #[.val (.ref a), .val (.long (50 : Int64)), .second] [(.int (3 : Int32)), (.ref t1)])) _
    refine XS.lloadN X5.here hx rfl (hb hby d4_20) rfl ?_
    show Steps p.tables e below (T5.setTop (mkF m 21 #[.val (.ref a), .val (.long (50 : Int64)), .second] [(.long (50 : Int64)), (.int (3 : Int32)), (.ref t1)])) _
    refine st7 _ ?_
    show Steps p.tables e below (T7.setTop (mkF m 22 #[.val (.ref a), .val (.long (50 : Int64)), .second] [])) _
    refine XS.aloadN X7.here hx rfl (hb hby d4_22) rfl rfl ?_
    show Steps p.tables e below (T7.setTop (mkF m 23 #[.val (.ref a), .val (.long (50 : Int64)), .second] [(.ref a)])) _
    refine XS.aloadN X7.here hx rfl (hb hby d4_23) rfl rfl ?_
    show Steps p.tables e below (T7.setTop (mkF m 24 #[.val (.ref a), .val (.long (50 : Int64)), .second] [(.ref a), (.ref a)])) _
    refine st8 _ ?_
    show Steps p.tables e below (T8.setTop (mkF m 27 #[.val (.ref a), .val (.long (50 : Int64)), .second] [(.int (3 : Int32)), (.ref a)])) _
    refine XS.iconst X8.here hx rfl (hb hby d4_27) ?_
    show Steps p.tables e below (T8.setTop (mkF m 28 #[.val (.ref a), .val (.long (50 : Int64)), .second] [(.int (1 : Int32)), (.int (3 : Int32)), (.ref a)])) _
    refine XS.iadd X8.here hx rfl (hb hby d4_28) rfl ?_
    show Steps p.tables e below (T8.setTop (mkF m 29 #[.val (.ref a), .val (.long (50 : Int64)), .second] [(.int (4 : Int32)), (.ref a)])) _
    refine XS.iconst X8.here hx rfl (hb hby d4_29) ?_
    show Steps p.tables e below (T8.setTop (mkF m 30 #[.val (.ref a), .val (.long (50 : Int64)), .second] [(.int (4 : Int32)), (.int (4 : Int32)), (.ref a)])) _
    refine XS.irem X8.here hx rfl (hb hby d4_30) rfl (by decide) ?_
    show Steps p.tables e below (T8.setTop (mkF m 31 #[.val (.ref a), .val (.long (50 : Int64)), .second] [(.int (0 : Int32)), (.ref a)])) _
    refine st9 _ ?_
    show Steps p.tables e below (T9.setTop (mkF m 34 #[.val (.ref a), .val (.long (50 : Int64)), .second] [])) _
    refine XS.aloadN X9.here hx rfl (hb hby d4_34) rfl rfl ?_
    show Steps p.tables e below (T9.setTop (mkF m 35 #[.val (.ref a), .val (.long (50 : Int64)), .second] [(.ref a)])) _
    refine XS.aloadN X9.here hx rfl (hb hby d4_35) rfl rfl ?_
    show Steps p.tables e below (T9.setTop (mkF m 36 #[.val (.ref a), .val (.long (50 : Int64)), .second] [(.ref a), (.ref a)])) _
    refine st10 _ ?_
    show Steps p.tables e below (T10.setTop (mkF m 39 #[.val (.ref a), .val (.long (50 : Int64)), .second] [(.int (3 : Int32)), (.ref a)])) _
    refine XS.iconst X10.here hx rfl (hb hby d4_39) ?_
    show Steps p.tables e below (T10.setTop (mkF m 40 #[.val (.ref a), .val (.long (50 : Int64)), .second] [(.int (1 : Int32)), (.int (3 : Int32)), (.ref a)])) _
    refine XS.iadd X10.here hx rfl (hb hby d4_40) rfl ?_
    show Steps p.tables e below (T10.setTop (mkF m 41 #[.val (.ref a), .val (.long (50 : Int64)), .second] [(.int (4 : Int32)), (.ref a)])) _
    refine XS.iconst X10.here hx rfl (hb hby d4_41) ?_
    show Steps p.tables e below (T10.setTop (mkF m 42 #[.val (.ref a), .val (.long (50 : Int64)), .second] [(.int (4 : Int32)), (.int (4 : Int32)), (.ref a)])) _
    refine st11 _ ?_
    show Steps p.tables e below (T11.setTop (mkF m 45 #[.val (.ref a), .val (.long (50 : Int64)), .second] [(.int (4 : Int32)), (.ref a)])) _
    refine st12 _ ?_
    show Steps p.tables e below (T12.setTop (mkF m 48 #[.val (.ref a), .val (.long (50 : Int64)), .second] [])) _
    refine XS.aloadN X12.here hx rfl (hb hby d4_48) rfl rfl ?_
    show Steps p.tables e below (T12.setTop (mkF m 49 #[.val (.ref a), .val (.long (50 : Int64)), .second] [(.ref a)])) _
    refine st13 _ ?_
    show Steps p.tables e below (T13.setTop (mkF m 52 #[.val (.ref a), .val (.long (50 : Int64)), .second] [(.long (11 : Int64))])) _
    refine XS.lconst X13.here hx rfl (hb hby d4_52) ?_
    show Steps p.tables e below (T13.setTop (mkF m 53 #[.val (.ref a), .val (.long (50 : Int64)), .second] [(.long (0 : Int64)), (.long (11 : Int64))])) _
    refine XS.lcmp X13.here hx rfl (hb hby d4_53) rfl ?_
    show Steps p.tables e below (T13.setTop (mkF m 54 #[.val (.ref a), .val (.long (50 : Int64)), .second] [(.int (1 : Int32))])) _
    refine XS.ifYes X13.here hx rfl (pc0 := 54) (pc' := 74) rfl (hb hby d4_54) rfl ((if0 _ _).trans (flt ((by decide) : ¬ ((1 : Int32) < (0 : Int32)))).2.1) (by decide) (by decide) ?_
    show Steps p.tables e below (T13.setTop (mkF m 74 #[.val (.ref a), .val (.long (50 : Int64)), .second] [])) _
    refine XS.aloadN X13.here hx rfl (hb hby d4_74) rfl rfl ?_
    show Steps p.tables e below (T13.setTop (mkF m 75 #[.val (.ref a), .val (.long (50 : Int64)), .second] [(.ref a)])) _
    refine X13.ldc2Long hx hown (mvT hZ (hw _ (List.mem_of_getElem? (i := 48) rfl))) (g := (mkF m 75 #[.val (.ref a), .val (.long (50 : Int64)), .second] [(.ref a)])) rfl (hb hby d4_75) _ ?_
    show Steps p.tables e below (T13.setTop (mkF m 78 #[.val (.ref a), .val (.long (50 : Int64)), .second] [(.long (3 : Int64)), (.ref a)])) _
    refine XS.aloadN X13.here hx rfl (hb hby d4_78) rfl rfl ?_
    show Steps p.tables e below (T13.setTop (mkF m 79 #[.val (.ref a), .val (.long (50 : Int64)), .second] [(.ref a), (.long (3 : Int64)), (.ref a)])) _
    refine st14 _ ?_
    show Steps p.tables e below (T14.setTop (mkF m 82 #[.val (.ref a), .val (.long (50 : Int64)), .second] [(.long (20 : Int64)), (.long (3 : Int64)), (.ref a)])) _
    refine XS.lmul X14.here hx rfl (hb hby d4_82) rfl ?_
    show Steps p.tables e below (T14.setTop (mkF m 83 #[.val (.ref a), .val (.long (50 : Int64)), .second] [(.long (60 : Int64)), (.ref a)])) _
    refine XS.aloadN X14.here hx rfl (hb hby d4_83) rfl rfl ?_
    show Steps p.tables e below (T14.setTop (mkF m 84 #[.val (.ref a), .val (.long (50 : Int64)), .second] [(.ref a), (.long (60 : Int64)), (.ref a)])) _
    refine st15 _ ?_
    show Steps p.tables e below (T15.setTop (mkF m 87 #[.val (.ref a), .val (.long (50 : Int64)), .second] [(.long (11 : Int64)), (.long (60 : Int64)), (.ref a)])) _
    refine XS.lloadN X15.here hx rfl (hb hby d4_87) rfl ?_
    show Steps p.tables e below (T15.setTop (mkF m 88 #[.val (.ref a), .val (.long (50 : Int64)), .second] [(.long (50 : Int64)), (.long (11 : Int64)), (.long (60 : Int64)), (.ref a)])) _
    refine XS.lsub X15.here hx rfl (hb hby d4_88) rfl ?_
    show Steps p.tables e below (T15.setTop (mkF m 89 #[.val (.ref a), .val (.long (50 : Int64)), .second] [(.long (-39 : Int64)), (.long (60 : Int64)), (.ref a)])) _
    refine st16 _ ?_
    show Steps p.tables e below (T16.setTop (mkF m 92 #[.val (.ref a), .val (.long (50 : Int64)), .second] [(.long (-(-39 : Int64))), (.long (60 : Int64)), (.ref a)])) _
    refine XS.ladd X16.here hx rfl (hb hby d4_92) rfl ?_
    show Steps p.tables e below (T16.setTop (mkF m 93 #[.val (.ref a), .val (.long (50 : Int64)), .second] [(.long ((60 : Int64) + (-(-39 : Int64)))), (.ref a)])) _
    refine X16.ldc2Long hx hown (mvT hZ (hw _ (List.mem_of_getElem? (i := 52) rfl))) (g := (mkF m 93 #[.val (.ref a), .val (.long (50 : Int64)), .second] [(.long ((60 : Int64) + (-(-39 : Int64)))), (.ref a)])) rfl (hb hby d4_93) _ ?_
    show Steps p.tables e below (T16.setTop (mkF m 96 #[.val (.ref a), .val (.long (50 : Int64)), .second] [(.long (4 : Int64)), (.long ((60 : Int64) + (-(-39 : Int64)))), (.ref a)])) _
    refine XS.ldiv X16.here hx rfl (hb hby d4_96) rfl (by decide) ?_
    show Steps p.tables e below (T16.setTop (mkF m 97 #[.val (.ref a), .val (.long (50 : Int64)), .second] [(.long (((60 : Int64) + (-(-39 : Int64))) / (4 : Int64))), (.ref a)])) _
    refine st17 _ ?_
    show Steps p.tables e below (T17.setTop (mkF m 100 #[.val (.ref a), .val (.long (50 : Int64)), .second] [])) _
    refine XS.aloadN X17.here hx rfl (hb hby d4_100) rfl rfl ?_
    show Steps p.tables e below (T17.setTop (mkF m 101 #[.val (.ref a), .val (.long (50 : Int64)), .second] [(.ref a)])) _
    refine X17.ldc2Long hx hown (mvT hZ (hw _ (List.mem_of_getElem? (i := 53) rfl))) (g := (mkF m 101 #[.val (.ref a), .val (.long (50 : Int64)), .second] [(.ref a)])) rfl (hb hby d4_101) _ ?_
    show Steps p.tables e below (T17.setTop (mkF m 104 #[.val (.ref a), .val (.long (50 : Int64)), .second] [(.long (7 : Int64)), (.ref a)])) _
    refine XS.aloadN X17.here hx rfl (hb hby d4_104) rfl rfl ?_
    show Steps p.tables e below (T17.setTop (mkF m 105 #[.val (.ref a), .val (.long (50 : Int64)), .second] [(.ref a), (.long (7 : Int64)), (.ref a)])) _
    refine st18 _ ?_
    show Steps p.tables e below (T18.setTop (mkF m 108 #[.val (.ref a), .val (.long (50 : Int64)), .second] [(.long (11 : Int64)), (.long (7 : Int64)), (.ref a)])) _
    refine XS.lmul X18.here hx rfl (hb hby d4_108) rfl ?_
    show Steps p.tables e below (T18.setTop (mkF m 109 #[.val (.ref a), .val (.long (50 : Int64)), .second] [(.long (77 : Int64)), (.ref a)])) _
    refine XS.lloadN X18.here hx rfl (hb hby d4_109) rfl ?_
    show Steps p.tables e below (T18.setTop (mkF m 110 #[.val (.ref a), .val (.long (50 : Int64)), .second] [(.long (50 : Int64)), (.long (77 : Int64)), (.ref a)])) _
    refine XS.ladd X18.here hx rfl (hb hby d4_110) rfl ?_
    show Steps p.tables e below (T18.setTop (mkF m 111 #[.val (.ref a), .val (.long (50 : Int64)), .second] [(.long (127 : Int64)), (.ref a)])) _
    refine X18.ldc2Long hx hown (mvT hZ (hw _ (List.mem_of_getElem? (i := 54) rfl))) (g := (mkF m 111 #[.val (.ref a), .val (.long (50 : Int64)), .second] [(.long (127 : Int64)), (.ref a)])) rfl (hb hby d4_111) _ ?_
    show Steps p.tables e below (T18.setTop (mkF m 114 #[.val (.ref a), .val (.long (50 : Int64)), .second] [(.long (8 : Int64)), (.long (127 : Int64)), (.ref a)])) _
    refine XS.ldiv X18.here hx rfl (hb hby d4_114) rfl (by decide) ?_
    show Steps p.tables e below (T18.setTop (mkF m 115 #[.val (.ref a), .val (.long (50 : Int64)), .second] [(.long (15 : Int64)), (.ref a)])) _
    refine st19 _ ?_
    show Steps p.tables e below (T19.setTop (mkF m 118 #[.val (.ref a), .val (.long (50 : Int64)), .second] [])) _
    exact k
  obtain ⟨fs, hr, hrun, hended, hW, hsame⟩ := X19.leave (v := none) (fun _ => rfl)
  refine ⟨_, _, w20 _ ?_, hrun, hended, _, _, rfl, ?_, ⟨_, rfl⟩, hW, hsame.mono (by decide) (by decide)⟩
  · exact X19.returnOut hx Bd.returns (hb hby d4_118) hr
  · show Q4_3 Z a t1 kt  h0 n0 _ T19.heap _
    rw [e19]
    exact ⟨rfl, N19, K, F_window_a, F_threshold_a, F_paceAt_a, F_smoothedRtt_a, F_leastRtt_a, F_latestRtts_a, F_nextLatest_a, F_latestCount_a, F_rttVariation_a, F_onTheWay_a, F_sent_a, F_shrunkAfter_a, V_t1⟩
theorem ef_4_4 (m : MethodId) (x0 : Addr) : entryFrame m #[(.ref x0), (.long (50 : Int64))] 3 = mkF m 0 #[.val (.ref x0), .val (.long (50 : Int64)), .second] [] := by first | (simp [entryFrame, mkF, argsToLocals, Value.category]; done) | rfl
def Q4_4 (Z : State) (a : Addr) (t1 : Addr) (kt : ClassId) (h0 : Heap) (n0 : Nat) (v : Option Value) (h : Heap) (L : List Loc) : Prop := v = none ∧ Fr n0 L ∧ Keep h0 h [a, t1] ∧ Fld Z h a "com/example/hashmesh/hashmesh/mesh/Congestion" "window" "D" (.double (4621819117588971520 : UInt64)) ∧ Fld Z h a "com/example/hashmesh/hashmesh/mesh/Congestion" "threshold" "D" (.double (4634204016564240384 : UInt64)) ∧ Fld Z h a "com/example/hashmesh/hashmesh/mesh/Congestion" "paceAt" "D" (.double (18442240474082181120 : UInt64)) ∧ Fld Z h a "com/example/hashmesh/hashmesh/mesh/Congestion" "smoothedRtt" "J" (.long (19 : Int64)) ∧ Fld Z h a "com/example/hashmesh/hashmesh/mesh/Congestion" "leastRtt" "J" (.long (0 : Int64)) ∧ Fld Z h a "com/example/hashmesh/hashmesh/mesh/Congestion" "latestRtts" "[J" (.ref t1) ∧ Fld Z h a "com/example/hashmesh/hashmesh/mesh/Congestion" "nextLatest" "I" (.int (1 : Int32)) ∧ Fld Z h a "com/example/hashmesh/hashmesh/mesh/Congestion" "latestCount" "I" (.int (4 : Int32)) ∧ Fld Z h a "com/example/hashmesh/hashmesh/mesh/Congestion" "rttVariation" "J" (.long (26 : Int64)) ∧ Fld Z h a "com/example/hashmesh/hashmesh/mesh/Congestion" "onTheWay" "I" (.int (0 : Int32)) ∧ Fld Z h a "com/example/hashmesh/hashmesh/mesh/Congestion" "sent" "J" (.long (0 : Int64)) ∧ Fld Z h a "com/example/hashmesh/hashmesh/mesh/Congestion" "shrunkAfter" "J" (.long (0 : Int64)) ∧ Arv Z h t1 kt .long (4 : Int32) [(.long (50 : Int64)), (.long (50 : Int64)), (.long (50 : Int64)), (.long (50 : Int64))] (.long (0 : Int64))
set_option maxRecDepth 65536 in
set_option maxHeartbeats 40000000 in
theorem rm4_4 (l : Launch) (Z : State) (a0 : Array Value) (hw : ∀ d ∈ tables_1, d.before a0 Z = true) (ws : List Jvm.Cond) (a : Addr) (t1 : Addr) (kt : ClassId) (h0 : Heap) (n0 : Nat) (O0 : Old Z n0 h0) (E_a : Exa Z h0 a "com/example/hashmesh/hashmesh/mesh/Congestion") (F_window_a : Fld Z h0 a "com/example/hashmesh/hashmesh/mesh/Congestion" "window" "D" (.double (4621819117588971520 : UInt64))) (F_threshold_a : Fld Z h0 a "com/example/hashmesh/hashmesh/mesh/Congestion" "threshold" "D" (.double (4634204016564240384 : UInt64))) (F_paceAt_a : Fld Z h0 a "com/example/hashmesh/hashmesh/mesh/Congestion" "paceAt" "D" (.double (18442240474082181120 : UInt64))) (F_smoothedRtt_a : Fld Z h0 a "com/example/hashmesh/hashmesh/mesh/Congestion" "smoothedRtt" "J" (.long (15 : Int64))) (F_leastRtt_a : Fld Z h0 a "com/example/hashmesh/hashmesh/mesh/Congestion" "leastRtt" "J" (.long (0 : Int64))) (F_latestRtts_a : Fld Z h0 a "com/example/hashmesh/hashmesh/mesh/Congestion" "latestRtts" "[J" (.ref t1)) (F_nextLatest_a : Fld Z h0 a "com/example/hashmesh/hashmesh/mesh/Congestion" "nextLatest" "I" (.int (0 : Int32))) (F_latestCount_a : Fld Z h0 a "com/example/hashmesh/hashmesh/mesh/Congestion" "latestCount" "I" (.int (4 : Int32))) (F_rttVariation_a : Fld Z h0 a "com/example/hashmesh/hashmesh/mesh/Congestion" "rttVariation" "J" (.long (24 : Int64))) (F_onTheWay_a : Fld Z h0 a "com/example/hashmesh/hashmesh/mesh/Congestion" "onTheWay" "I" (.int (0 : Int32))) (F_sent_a : Fld Z h0 a "com/example/hashmesh/hashmesh/mesh/Congestion" "sent" "J" (.long (0 : Int64))) (F_shrunkAfter_a : Fld Z h0 a "com/example/hashmesh/hashmesh/mesh/Congestion" "shrunkAfter" "J" (.long (0 : Int64))) (V_t1 : Arv Z h0 t1 kt .long (4 : Int32) [(.long (0 : Int64)), (.long (50 : Int64)), (.long (50 : Int64)), (.long (50 : Int64))] (.long (0 : Int64))) (g_a : n0 ≤ a) (g_t1 : n0 ≤ t1) :
    MetFree l (⟨"com/example/hashmesh/hashmesh/mesh/Congestion", "measured", "(J)V"⟩ : MethodName) (head1 (Jvm.Cond.code (⟨"com/example/hashmesh/hashmesh/mesh/Congestion", "measured", "(J)V"⟩ : MethodName) prog_61_method_8_code 3 none :: ws) ({ frames := 1, cells := 0, slots := 0, locals := 16 } : Room)) (fun aA uU => aA = #[(.ref a), (.long (50 : Int64))] ∧ Z.Warmed39 uU.vm ∧ uU.heap = h0) (fun _ _ _ _ _ => True) (fun _ uU oO uU' => ∃ vV lL, oO = .returned vV ∧ Q4_4 Z a t1 kt  h0 n0 vV uU'.heap lL ∧ FrameEnd uU oO uU' lL ({ frames := 1, cells := 0, slots := 0, locals := 16 } : Room).cells ({ frames := 1, cells := 0, slots := 0, locals := 16 } : Room).slots) := by
  refine MetFree.of_bodySF (plainFor_of_name pn_com_example_hashmesh_hashmesh_mesh_Congestion) hisR ?_
  intro p e s m args below meth c s₁ Bd hml0 hP hK
  obtain ⟨rfl, hZ, hh⟩ := hP
  have hx := Bd.exec
  have hby := Bd.bytes
  have hml : c.maxLocals = 3 := hml0
  have hown : s.vm.findClass "com/example/hashmesh/hashmesh/mesh/Congestion" = some m.cls := findClass_of_methodNamed Bd.named
  have hnm := (name_of_methodNamed Bd.named Bd.method).1
  have X0 : Stand p l e ({ frames := 1, cells := 0, slots := 0, locals := 16 } : Room) s m #[(.ref a), (.long (50 : Int64))] below meth c s₁ [] 0 0 := Stand.of_body Bd
  have e0 : s₁.heap = h0 := by rw [← hh, Bd.state]; rfl
  have N0 := Fr.nil n0
  have O := O0
  have K := Keep.refl h0 [a, t1]
  have pre0 : ∀ t, Steps p.tables e below (s₁.setTop (mkF m 0 #[.val (.ref a), .val (.long (50 : Int64)), .second] [])) t → Steps p.tables e below (s₁.setTop (entryFrame m #[(.ref a), (.long (50 : Int64))] 3)) t := fun t k => castTop (ef_4_4 m a) k
  obtain ⟨T1, X1, e1, st1⟩ := getF X0 hx hZ hown (host := "") (Or.inl (hw _ (List.mem_of_getElem? (i := 26) rfl))) Via.refl e0 F_leastRtt_a (g := (mkF m 2 #[.val (.ref a), .val (.long (50 : Int64)), .second] [(.ref a), (.ref a)])) rfl rfl (hb hby d4_2)
  obtain ⟨_, _, ⟨T2, L2, k2, n2⟩, -, X2, ⟨Lc2, hQ2, l2, y2, z2⟩, st2⟩ := Jvm.LawKit.callS X1 hx (y := (⟨"java/lang/Math", "min", "(JJ)J"⟩ : MethodName)) hown (mvT hZ (hw _ (List.mem_of_getElem? (i := 36) rfl))) (mvT hZ (hw _ (List.mem_of_getElem? (i := 37) rfl))) (mvT hZ (hw _ (List.mem_of_getElem? (i := 2) rfl))) (mvT hZ (hw _ (List.mem_of_getElem? (i := 38) rfl))) (by decide) (backOf (W := 1) (rm5_a l Z a0 hw [] (0 : Int64) (50 : Int64) h0 n0 O (by decide)) hZ (hw _ (List.mem_of_getElem? (i := 38) rfl)) (hw _ (List.mem_of_getElem? (i := 2) rfl)) (by decide) (by decide)) (g := (mkF m 6 #[.val (.ref a), .val (.long (50 : Int64)), .second] [(.long (50 : Int64)), (.long (0 : Int64)), (.ref a)])) rfl (by rw [hml]; rfl) (argsL := [(.long (0 : Int64)), (.long (50 : Int64))]) (rest := [(.ref a)]) (lenOf pd__40JJ_41J rfl) rfl (by show 2 * 0 + _ ≤ _; exact Nat.le_of_eq rfl) (hb hby d4_6) (fun _ _ => ⟨rfl, e1, (by decide : 0 + 0 ≤ _), (by decide : 0 + 0 ≤ _)⟩)
  dsimp only [Pt.U, Pt.locs, Pt.cells, Pt.slots] at X2 l2 y2 z2 st2 hQ2
  subst l2 y2 z2
  obtain ⟨rfl, N2q, eh2⟩ := hQ2
  have N2 := Fr.app N0 N2q
  have ne_t1_a : t1 ≠ a := (Ne.symm (Exa.neArv E_a V_t1 (hw _ (List.mem_of_getElem? (i := 5) rfl))))
  obtain ⟨T3, h3, X3, e3, W3, st3⟩ := putF X2 hx hZ hown (host := "") (Or.inl (hw _ (List.mem_of_getElem? (i := 26) rfl))) Via.refl eh2 F_leastRtt_a E_a (Or.inl (hw _ (List.mem_of_getElem? (i := 27) rfl))) (hw _ (List.mem_of_getElem? (i := 5) rfl)) (ty := .long) (by decide) rfl rfl (g := (mkF m 9 #[.val (.ref a), .val (.long (50 : Int64)), .second] [(.long (0 : Int64)), (.ref a)])) rfl rfl (hb hby d4_9)
  have F_leastRtt_a := F_leastRtt_a.same W3
  have E_a := E_a.wr W3
  have F_window_a := F_window_a.other W3 (Or.inr (slot_ne (Or.inl (hw _ (List.mem_of_getElem? (i := 15) rfl))) (Or.inl (hw _ (List.mem_of_getElem? (i := 27) rfl))) (by decide) (t := .double) (t' := .long) (by decide) (by decide)))
  have F_threshold_a := F_threshold_a.other W3 (Or.inr (slot_ne (Or.inl (hw _ (List.mem_of_getElem? (i := 18) rfl))) (Or.inl (hw _ (List.mem_of_getElem? (i := 27) rfl))) (by decide) (t := .double) (t' := .long) (by decide) (by decide)))
  have F_paceAt_a := F_paceAt_a.other W3 (Or.inr (slot_ne (Or.inl (hw _ (List.mem_of_getElem? (i := 21) rfl))) (Or.inl (hw _ (List.mem_of_getElem? (i := 27) rfl))) (by decide) (t := .double) (t' := .long) (by decide) (by decide)))
  have F_smoothedRtt_a := F_smoothedRtt_a.other W3 (Or.inr (slot_ne (Or.inl (hw _ (List.mem_of_getElem? (i := 24) rfl))) (Or.inl (hw _ (List.mem_of_getElem? (i := 27) rfl))) (by decide) (t := .long) (t' := .long) (by decide) (by decide)))
  have F_latestRtts_a := F_latestRtts_a.other W3 (Or.inr (slot_ne (Or.inr (hw _ (List.mem_of_getElem? (i := 30) rfl))) (Or.inl (hw _ (List.mem_of_getElem? (i := 27) rfl))) (by decide) (t := (.array .long)) (t' := .long) (by decide) (by decide)))
  have F_nextLatest_a := F_nextLatest_a.other W3 (Or.inr (slot_ne (Or.inl (hw _ (List.mem_of_getElem? (i := 40) rfl))) (Or.inl (hw _ (List.mem_of_getElem? (i := 27) rfl))) (by decide) (t := .int) (t' := .long) (by decide) (by decide)))
  have F_latestCount_a := F_latestCount_a.other W3 (Or.inr (slot_ne (Or.inl (hw _ (List.mem_of_getElem? (i := 42) rfl))) (Or.inl (hw _ (List.mem_of_getElem? (i := 27) rfl))) (by decide) (t := .int) (t' := .long) (by decide) (by decide)))
  have F_rttVariation_a := F_rttVariation_a.other W3 (Or.inr (slot_ne (Or.inl (hw _ (List.mem_of_getElem? (i := 46) rfl))) (Or.inl (hw _ (List.mem_of_getElem? (i := 27) rfl))) (by decide) (t := .long) (t' := .long) (by decide) (by decide)))
  have F_onTheWay_a := F_onTheWay_a.other W3 (Or.inr (slot_ne (Or.inl (hw _ (List.mem_of_getElem? (i := 79) rfl))) (Or.inl (hw _ (List.mem_of_getElem? (i := 27) rfl))) (by decide) (t := .int) (t' := .long) (by decide) (by decide)))
  have F_sent_a := F_sent_a.other W3 (Or.inr (slot_ne (Or.inl (hw _ (List.mem_of_getElem? (i := 70) rfl))) (Or.inl (hw _ (List.mem_of_getElem? (i := 27) rfl))) (by decide) (t := .long) (t' := .long) (by decide) (by decide)))
  have F_shrunkAfter_a := F_shrunkAfter_a.other W3 (Or.inr (slot_ne (Or.inl (hw _ (List.mem_of_getElem? (i := 72) rfl))) (Or.inl (hw _ (List.mem_of_getElem? (i := 27) rfl))) (by decide) (t := .long) (t' := .long) (by decide) (by decide)))
  have V_t1 := V_t1.other W3 ne_t1_a
  have O := O.wr W3 g_a
  have K := K.wr W3 (Or.inl (List.mem_of_getElem? (i := 0) rfl))
  have N3 := Fr.snoc X3 N2 g_a
  obtain ⟨T4, X4, e4, st4⟩ := getF X3 hx hZ hown (host := "") (Or.inl (hw _ (List.mem_of_getElem? (i := 29) rfl))) Via.refl e3 F_latestRtts_a (g := (mkF m 13 #[.val (.ref a), .val (.long (50 : Int64)), .second] [(.ref a)])) rfl rfl (hb hby d4_13)
  obtain ⟨T5, X5, e5, st5⟩ := getF X4 hx hZ hown (host := "") (Or.inl (hw _ (List.mem_of_getElem? (i := 39) rfl))) Via.refl e4 F_nextLatest_a (g := (mkF m 17 #[.val (.ref a), .val (.long (50 : Int64)), .second] [(.ref a), (.ref t1)])) rfl rfl (hb hby d4_17)
  obtain ⟨cl6, Ar6, q6, Z6, N6, H6, G6⟩ := id V_t1
  have hin6 : ¬ ((0 : Int32) < 0 ∨ cl6.slots.size ≤ ((0 : Int32)).toNatClampNeg) := inb_of Z6 ⟨by decide, by decide⟩
  obtain ⟨T7, h7, X7, e7, W7, st7⟩ := stJ X5 hx hZ e5 Ar6 (j := (0 : Int32)) hin6 (g := (mkF m 21 #[.val (.ref a), .val (.long (50 : Int64)), .second] [(.long (50 : Int64)), (.int (0 : Int32)), (.ref t1)])) rfl rfl (hb hby d4_21)
  have V_t1 : Arv Z h7 t1 kt .long (4 : Int32) [(.long (50 : Int64)), (.long (50 : Int64)), (.long (50 : Int64)), (.long (50 : Int64))] (.long (0 : Int64)) := Arv.set Ar6 q6 Z6 N6 H6 G6 rfl W7 0 rfl (Nat.le_of_ble_eq_true rfl)
  have E_a := E_a.wr W7
  have F_window_a := F_window_a.other W7 (Or.inl (Ne.symm ne_t1_a))
  have F_threshold_a := F_threshold_a.other W7 (Or.inl (Ne.symm ne_t1_a))
  have F_paceAt_a := F_paceAt_a.other W7 (Or.inl (Ne.symm ne_t1_a))
  have F_smoothedRtt_a := F_smoothedRtt_a.other W7 (Or.inl (Ne.symm ne_t1_a))
  have F_leastRtt_a := F_leastRtt_a.other W7 (Or.inl (Ne.symm ne_t1_a))
  have F_latestRtts_a := F_latestRtts_a.other W7 (Or.inl (Ne.symm ne_t1_a))
  have F_nextLatest_a := F_nextLatest_a.other W7 (Or.inl (Ne.symm ne_t1_a))
  have F_latestCount_a := F_latestCount_a.other W7 (Or.inl (Ne.symm ne_t1_a))
  have F_rttVariation_a := F_rttVariation_a.other W7 (Or.inl (Ne.symm ne_t1_a))
  have F_onTheWay_a := F_onTheWay_a.other W7 (Or.inl (Ne.symm ne_t1_a))
  have F_sent_a := F_sent_a.other W7 (Or.inl (Ne.symm ne_t1_a))
  have F_shrunkAfter_a := F_shrunkAfter_a.other W7 (Or.inl (Ne.symm ne_t1_a))
  have O := O.wr W7 g_t1
  have K := K.wr W7 (Or.inl (List.mem_of_getElem? (i := 1) rfl))
  have N7 := Fr.snoc X7 N3 g_t1
  obtain ⟨T8, X8, e8, st8⟩ := getF X7 hx hZ hown (host := "") (Or.inl (hw _ (List.mem_of_getElem? (i := 39) rfl))) Via.refl e7 F_nextLatest_a (g := (mkF m 24 #[.val (.ref a), .val (.long (50 : Int64)), .second] [(.ref a), (.ref a)])) rfl rfl (hb hby d4_24)
  obtain ⟨T9, h9, X9, e9, W9, st9⟩ := putF X8 hx hZ hown (host := "") (Or.inl (hw _ (List.mem_of_getElem? (i := 39) rfl))) Via.refl e8 F_nextLatest_a E_a (Or.inl (hw _ (List.mem_of_getElem? (i := 40) rfl))) (hw _ (List.mem_of_getElem? (i := 5) rfl)) (ty := .int) (by decide) rfl rfl (g := (mkF m 31 #[.val (.ref a), .val (.long (50 : Int64)), .second] [(.int (1 : Int32)), (.ref a)])) rfl rfl (hb hby d4_31)
  have F_nextLatest_a := F_nextLatest_a.same W9
  have E_a := E_a.wr W9
  have F_window_a := F_window_a.other W9 (Or.inr (slot_ne (Or.inl (hw _ (List.mem_of_getElem? (i := 15) rfl))) (Or.inl (hw _ (List.mem_of_getElem? (i := 40) rfl))) (by decide) (t := .double) (t' := .int) (by decide) (by decide)))
  have F_threshold_a := F_threshold_a.other W9 (Or.inr (slot_ne (Or.inl (hw _ (List.mem_of_getElem? (i := 18) rfl))) (Or.inl (hw _ (List.mem_of_getElem? (i := 40) rfl))) (by decide) (t := .double) (t' := .int) (by decide) (by decide)))
  have F_paceAt_a := F_paceAt_a.other W9 (Or.inr (slot_ne (Or.inl (hw _ (List.mem_of_getElem? (i := 21) rfl))) (Or.inl (hw _ (List.mem_of_getElem? (i := 40) rfl))) (by decide) (t := .double) (t' := .int) (by decide) (by decide)))
  have F_smoothedRtt_a := F_smoothedRtt_a.other W9 (Or.inr (slot_ne (Or.inl (hw _ (List.mem_of_getElem? (i := 24) rfl))) (Or.inl (hw _ (List.mem_of_getElem? (i := 40) rfl))) (by decide) (t := .long) (t' := .int) (by decide) (by decide)))
  have F_leastRtt_a := F_leastRtt_a.other W9 (Or.inr (slot_ne (Or.inl (hw _ (List.mem_of_getElem? (i := 27) rfl))) (Or.inl (hw _ (List.mem_of_getElem? (i := 40) rfl))) (by decide) (t := .long) (t' := .int) (by decide) (by decide)))
  have F_latestRtts_a := F_latestRtts_a.other W9 (Or.inr (slot_ne (Or.inr (hw _ (List.mem_of_getElem? (i := 30) rfl))) (Or.inl (hw _ (List.mem_of_getElem? (i := 40) rfl))) (by decide) (t := (.array .long)) (t' := .int) (by decide) (by decide)))
  have F_latestCount_a := F_latestCount_a.other W9 (Or.inr (slot_ne (Or.inl (hw _ (List.mem_of_getElem? (i := 42) rfl))) (Or.inl (hw _ (List.mem_of_getElem? (i := 40) rfl))) (by decide) (t := .int) (t' := .int) (by decide) (by decide)))
  have F_rttVariation_a := F_rttVariation_a.other W9 (Or.inr (slot_ne (Or.inl (hw _ (List.mem_of_getElem? (i := 46) rfl))) (Or.inl (hw _ (List.mem_of_getElem? (i := 40) rfl))) (by decide) (t := .long) (t' := .int) (by decide) (by decide)))
  have F_onTheWay_a := F_onTheWay_a.other W9 (Or.inr (slot_ne (Or.inl (hw _ (List.mem_of_getElem? (i := 79) rfl))) (Or.inl (hw _ (List.mem_of_getElem? (i := 40) rfl))) (by decide) (t := .int) (t' := .int) (by decide) (by decide)))
  have F_sent_a := F_sent_a.other W9 (Or.inr (slot_ne (Or.inl (hw _ (List.mem_of_getElem? (i := 70) rfl))) (Or.inl (hw _ (List.mem_of_getElem? (i := 40) rfl))) (by decide) (t := .long) (t' := .int) (by decide) (by decide)))
  have F_shrunkAfter_a := F_shrunkAfter_a.other W9 (Or.inr (slot_ne (Or.inl (hw _ (List.mem_of_getElem? (i := 72) rfl))) (Or.inl (hw _ (List.mem_of_getElem? (i := 40) rfl))) (by decide) (t := .long) (t' := .int) (by decide) (by decide)))
  have V_t1 := V_t1.other W9 ne_t1_a
  have O := O.wr W9 g_a
  have K := K.wr W9 (Or.inl (List.mem_of_getElem? (i := 0) rfl))
  have N9 := Fr.snoc X9 N7 g_a
  obtain ⟨T10, X10, e10, st10⟩ := getF X9 hx hZ hown (host := "") (Or.inl (hw _ (List.mem_of_getElem? (i := 41) rfl))) Via.refl e9 F_latestCount_a (g := (mkF m 36 #[.val (.ref a), .val (.long (50 : Int64)), .second] [(.ref a), (.ref a)])) rfl rfl (hb hby d4_36)
  obtain ⟨_, _, ⟨T11, L11, k11, n11⟩, -, X11, ⟨Lc11, hQ11, l11, y11, z11⟩, st11⟩ := Jvm.LawKit.callS X10 hx (y := (⟨"java/lang/Math", "min", "(II)I"⟩ : MethodName)) hown (mvT hZ (hw _ (List.mem_of_getElem? (i := 43) rfl))) (mvT hZ (hw _ (List.mem_of_getElem? (i := 1) rfl))) (mvT hZ (hw _ (List.mem_of_getElem? (i := 2) rfl))) (mvT hZ (hw _ (List.mem_of_getElem? (i := 3) rfl))) (by decide) (backOf (W := 1) (rm1_b l Z a0 hw [] (5 : Int32) (4 : Int32) h9 n0 O (by decide)) hZ (hw _ (List.mem_of_getElem? (i := 3) rfl)) (hw _ (List.mem_of_getElem? (i := 2) rfl)) (by decide) (by decide)) (g := (mkF m 42 #[.val (.ref a), .val (.long (50 : Int64)), .second] [(.int (4 : Int32)), (.int (5 : Int32)), (.ref a)])) rfl (by rw [hml]; rfl) (argsL := [(.int (5 : Int32)), (.int (4 : Int32))]) (rest := [(.ref a)]) (lenOf pd__40II_41I rfl) rfl (by show 2 * 0 + _ ≤ _; exact Nat.le_of_eq rfl) (hb hby d4_42) (fun _ _ => ⟨rfl, e10, (by decide : 0 + 0 ≤ _), (by decide : 0 + 0 ≤ _)⟩)
  dsimp only [Pt.U, Pt.locs, Pt.cells, Pt.slots] at X11 l11 y11 z11 st11 hQ11
  subst l11 y11 z11
  obtain ⟨rfl, N11q, eh11⟩ := hQ11
  have N11 := Fr.app N9 N11q
  obtain ⟨T12, h12, X12, e12, W12, st12⟩ := putF X11 hx hZ hown (host := "") (Or.inl (hw _ (List.mem_of_getElem? (i := 41) rfl))) Via.refl eh11 F_latestCount_a E_a (Or.inl (hw _ (List.mem_of_getElem? (i := 42) rfl))) (hw _ (List.mem_of_getElem? (i := 5) rfl)) (ty := .int) (by decide) rfl rfl (g := (mkF m 45 #[.val (.ref a), .val (.long (50 : Int64)), .second] [(.int (4 : Int32)), (.ref a)])) rfl rfl (hb hby d4_45)
  have F_latestCount_a := F_latestCount_a.same W12
  have E_a := E_a.wr W12
  have F_window_a := F_window_a.other W12 (Or.inr (slot_ne (Or.inl (hw _ (List.mem_of_getElem? (i := 15) rfl))) (Or.inl (hw _ (List.mem_of_getElem? (i := 42) rfl))) (by decide) (t := .double) (t' := .int) (by decide) (by decide)))
  have F_threshold_a := F_threshold_a.other W12 (Or.inr (slot_ne (Or.inl (hw _ (List.mem_of_getElem? (i := 18) rfl))) (Or.inl (hw _ (List.mem_of_getElem? (i := 42) rfl))) (by decide) (t := .double) (t' := .int) (by decide) (by decide)))
  have F_paceAt_a := F_paceAt_a.other W12 (Or.inr (slot_ne (Or.inl (hw _ (List.mem_of_getElem? (i := 21) rfl))) (Or.inl (hw _ (List.mem_of_getElem? (i := 42) rfl))) (by decide) (t := .double) (t' := .int) (by decide) (by decide)))
  have F_smoothedRtt_a := F_smoothedRtt_a.other W12 (Or.inr (slot_ne (Or.inl (hw _ (List.mem_of_getElem? (i := 24) rfl))) (Or.inl (hw _ (List.mem_of_getElem? (i := 42) rfl))) (by decide) (t := .long) (t' := .int) (by decide) (by decide)))
  have F_leastRtt_a := F_leastRtt_a.other W12 (Or.inr (slot_ne (Or.inl (hw _ (List.mem_of_getElem? (i := 27) rfl))) (Or.inl (hw _ (List.mem_of_getElem? (i := 42) rfl))) (by decide) (t := .long) (t' := .int) (by decide) (by decide)))
  have F_latestRtts_a := F_latestRtts_a.other W12 (Or.inr (slot_ne (Or.inr (hw _ (List.mem_of_getElem? (i := 30) rfl))) (Or.inl (hw _ (List.mem_of_getElem? (i := 42) rfl))) (by decide) (t := (.array .long)) (t' := .int) (by decide) (by decide)))
  have F_nextLatest_a := F_nextLatest_a.other W12 (Or.inr (slot_ne (Or.inl (hw _ (List.mem_of_getElem? (i := 40) rfl))) (Or.inl (hw _ (List.mem_of_getElem? (i := 42) rfl))) (by decide) (t := .int) (t' := .int) (by decide) (by decide)))
  have F_rttVariation_a := F_rttVariation_a.other W12 (Or.inr (slot_ne (Or.inl (hw _ (List.mem_of_getElem? (i := 46) rfl))) (Or.inl (hw _ (List.mem_of_getElem? (i := 42) rfl))) (by decide) (t := .long) (t' := .int) (by decide) (by decide)))
  have F_onTheWay_a := F_onTheWay_a.other W12 (Or.inr (slot_ne (Or.inl (hw _ (List.mem_of_getElem? (i := 79) rfl))) (Or.inl (hw _ (List.mem_of_getElem? (i := 42) rfl))) (by decide) (t := .int) (t' := .int) (by decide) (by decide)))
  have F_sent_a := F_sent_a.other W12 (Or.inr (slot_ne (Or.inl (hw _ (List.mem_of_getElem? (i := 70) rfl))) (Or.inl (hw _ (List.mem_of_getElem? (i := 42) rfl))) (by decide) (t := .long) (t' := .int) (by decide) (by decide)))
  have F_shrunkAfter_a := F_shrunkAfter_a.other W12 (Or.inr (slot_ne (Or.inl (hw _ (List.mem_of_getElem? (i := 72) rfl))) (Or.inl (hw _ (List.mem_of_getElem? (i := 42) rfl))) (by decide) (t := .long) (t' := .int) (by decide) (by decide)))
  have V_t1 := V_t1.other W12 ne_t1_a
  have O := O.wr W12 g_a
  have K := K.wr W12 (Or.inl (List.mem_of_getElem? (i := 0) rfl))
  have N12 := Fr.snoc X12 N11 g_a
  obtain ⟨T13, X13, e13, st13⟩ := getF X12 hx hZ hown (host := "") (Or.inl (hw _ (List.mem_of_getElem? (i := 23) rfl))) Via.refl e12 F_smoothedRtt_a (g := (mkF m 49 #[.val (.ref a), .val (.long (50 : Int64)), .second] [(.ref a)])) rfl rfl (hb hby d4_49)
  obtain ⟨T14, X14, e14, st14⟩ := getF X13 hx hZ hown (host := "") (Or.inl (hw _ (List.mem_of_getElem? (i := 45) rfl))) Via.refl e13 F_rttVariation_a (g := (mkF m 79 #[.val (.ref a), .val (.long (50 : Int64)), .second] [(.ref a), (.long (3 : Int64)), (.ref a)])) rfl rfl (hb hby d4_79)
  obtain ⟨T15, X15, e15, st15⟩ := getF X14 hx hZ hown (host := "") (Or.inl (hw _ (List.mem_of_getElem? (i := 23) rfl))) Via.refl e14 F_smoothedRtt_a (g := (mkF m 84 #[.val (.ref a), .val (.long (50 : Int64)), .second] [(.ref a), (.long (72 : Int64)), (.ref a)])) rfl rfl (hb hby d4_84)
  obtain ⟨_, _, ⟨T16, L16, k16, n16⟩, -, X16, ⟨Lc16, hQ16, l16, y16, z16⟩, st16⟩ := Jvm.LawKit.callS X15 hx (y := (⟨"java/lang/Math", "abs", "(J)J"⟩ : MethodName)) hown (mvT hZ (hw _ (List.mem_of_getElem? (i := 49) rfl))) (mvT hZ (hw _ (List.mem_of_getElem? (i := 50) rfl))) (mvT hZ (hw _ (List.mem_of_getElem? (i := 2) rfl))) (mvT hZ (hw _ (List.mem_of_getElem? (i := 51) rfl))) (by decide) (backOf (W := 3) (rm6_b l Z a0 hw [] (-35 : Int64) h12 n0 O (by decide)) hZ (hw _ (List.mem_of_getElem? (i := 51) rfl)) (hw _ (List.mem_of_getElem? (i := 2) rfl)) (by decide) (by decide)) (g := (mkF m 89 #[.val (.ref a), .val (.long (50 : Int64)), .second] [(.long (-35 : Int64)), (.long (72 : Int64)), (.ref a)])) rfl (by rw [hml]; rfl) (argsL := [(.long (-35 : Int64))]) (rest := [(.long (72 : Int64)), (.ref a)]) (lenOf pd__40J_41J rfl) rfl (by show 2 * 0 + _ ≤ _; exact Nat.le_of_eq rfl) (hb hby d4_89) (fun _ _ => ⟨rfl, e15, (by decide : 0 + 0 ≤ _), (by decide : 0 + 0 ≤ _)⟩)
  dsimp only [Pt.U, Pt.locs, Pt.cells, Pt.slots] at X16 l16 y16 z16 st16 hQ16
  subst l16 y16 z16
  obtain ⟨rfl, N16q, eh16⟩ := hQ16
  have N16 := Fr.app N12 N16q
  obtain ⟨T17, h17, X17, e17, W17, st17⟩ := putF X16 hx hZ hown (host := "") (Or.inl (hw _ (List.mem_of_getElem? (i := 45) rfl))) Via.refl eh16 F_rttVariation_a E_a (Or.inl (hw _ (List.mem_of_getElem? (i := 46) rfl))) (hw _ (List.mem_of_getElem? (i := 5) rfl)) (ty := .long) (by decide) rfl rfl (g := (mkF m 97 #[.val (.ref a), .val (.long (50 : Int64)), .second] [(.long (((72 : Int64) + (-(-35 : Int64))) / (4 : Int64))), (.ref a)])) rfl rfl (hb hby d4_97)
  have F_rttVariation_a := F_rttVariation_a.same W17
  have E_a := E_a.wr W17
  have F_window_a := F_window_a.other W17 (Or.inr (slot_ne (Or.inl (hw _ (List.mem_of_getElem? (i := 15) rfl))) (Or.inl (hw _ (List.mem_of_getElem? (i := 46) rfl))) (by decide) (t := .double) (t' := .long) (by decide) (by decide)))
  have F_threshold_a := F_threshold_a.other W17 (Or.inr (slot_ne (Or.inl (hw _ (List.mem_of_getElem? (i := 18) rfl))) (Or.inl (hw _ (List.mem_of_getElem? (i := 46) rfl))) (by decide) (t := .double) (t' := .long) (by decide) (by decide)))
  have F_paceAt_a := F_paceAt_a.other W17 (Or.inr (slot_ne (Or.inl (hw _ (List.mem_of_getElem? (i := 21) rfl))) (Or.inl (hw _ (List.mem_of_getElem? (i := 46) rfl))) (by decide) (t := .double) (t' := .long) (by decide) (by decide)))
  have F_smoothedRtt_a := F_smoothedRtt_a.other W17 (Or.inr (slot_ne (Or.inl (hw _ (List.mem_of_getElem? (i := 24) rfl))) (Or.inl (hw _ (List.mem_of_getElem? (i := 46) rfl))) (by decide) (t := .long) (t' := .long) (by decide) (by decide)))
  have F_leastRtt_a := F_leastRtt_a.other W17 (Or.inr (slot_ne (Or.inl (hw _ (List.mem_of_getElem? (i := 27) rfl))) (Or.inl (hw _ (List.mem_of_getElem? (i := 46) rfl))) (by decide) (t := .long) (t' := .long) (by decide) (by decide)))
  have F_latestRtts_a := F_latestRtts_a.other W17 (Or.inr (slot_ne (Or.inr (hw _ (List.mem_of_getElem? (i := 30) rfl))) (Or.inl (hw _ (List.mem_of_getElem? (i := 46) rfl))) (by decide) (t := (.array .long)) (t' := .long) (by decide) (by decide)))
  have F_nextLatest_a := F_nextLatest_a.other W17 (Or.inr (slot_ne (Or.inl (hw _ (List.mem_of_getElem? (i := 40) rfl))) (Or.inl (hw _ (List.mem_of_getElem? (i := 46) rfl))) (by decide) (t := .int) (t' := .long) (by decide) (by decide)))
  have F_latestCount_a := F_latestCount_a.other W17 (Or.inr (slot_ne (Or.inl (hw _ (List.mem_of_getElem? (i := 42) rfl))) (Or.inl (hw _ (List.mem_of_getElem? (i := 46) rfl))) (by decide) (t := .int) (t' := .long) (by decide) (by decide)))
  have F_onTheWay_a := F_onTheWay_a.other W17 (Or.inr (slot_ne (Or.inl (hw _ (List.mem_of_getElem? (i := 79) rfl))) (Or.inl (hw _ (List.mem_of_getElem? (i := 46) rfl))) (by decide) (t := .int) (t' := .long) (by decide) (by decide)))
  have F_sent_a := F_sent_a.other W17 (Or.inr (slot_ne (Or.inl (hw _ (List.mem_of_getElem? (i := 70) rfl))) (Or.inl (hw _ (List.mem_of_getElem? (i := 46) rfl))) (by decide) (t := .long) (t' := .long) (by decide) (by decide)))
  have F_shrunkAfter_a := F_shrunkAfter_a.other W17 (Or.inr (slot_ne (Or.inl (hw _ (List.mem_of_getElem? (i := 72) rfl))) (Or.inl (hw _ (List.mem_of_getElem? (i := 46) rfl))) (by decide) (t := .long) (t' := .long) (by decide) (by decide)))
  have V_t1 := V_t1.other W17 ne_t1_a
  have O := O.wr W17 g_a
  have K := K.wr W17 (Or.inl (List.mem_of_getElem? (i := 0) rfl))
  have N17 := Fr.snoc X17 N16 g_a
  obtain ⟨T18, X18, e18, st18⟩ := getF X17 hx hZ hown (host := "") (Or.inl (hw _ (List.mem_of_getElem? (i := 23) rfl))) Via.refl e17 F_smoothedRtt_a (g := (mkF m 105 #[.val (.ref a), .val (.long (50 : Int64)), .second] [(.ref a), (.long (7 : Int64)), (.ref a)])) rfl rfl (hb hby d4_105)
  obtain ⟨T19, h19, X19, e19, W19, st19⟩ := putF X18 hx hZ hown (host := "") (Or.inl (hw _ (List.mem_of_getElem? (i := 23) rfl))) Via.refl e18 F_smoothedRtt_a E_a (Or.inl (hw _ (List.mem_of_getElem? (i := 24) rfl))) (hw _ (List.mem_of_getElem? (i := 5) rfl)) (ty := .long) (by decide) rfl rfl (g := (mkF m 115 #[.val (.ref a), .val (.long (50 : Int64)), .second] [(.long (19 : Int64)), (.ref a)])) rfl rfl (hb hby d4_115)
  have F_smoothedRtt_a := F_smoothedRtt_a.same W19
  have E_a := E_a.wr W19
  have F_window_a := F_window_a.other W19 (Or.inr (slot_ne (Or.inl (hw _ (List.mem_of_getElem? (i := 15) rfl))) (Or.inl (hw _ (List.mem_of_getElem? (i := 24) rfl))) (by decide) (t := .double) (t' := .long) (by decide) (by decide)))
  have F_threshold_a := F_threshold_a.other W19 (Or.inr (slot_ne (Or.inl (hw _ (List.mem_of_getElem? (i := 18) rfl))) (Or.inl (hw _ (List.mem_of_getElem? (i := 24) rfl))) (by decide) (t := .double) (t' := .long) (by decide) (by decide)))
  have F_paceAt_a := F_paceAt_a.other W19 (Or.inr (slot_ne (Or.inl (hw _ (List.mem_of_getElem? (i := 21) rfl))) (Or.inl (hw _ (List.mem_of_getElem? (i := 24) rfl))) (by decide) (t := .double) (t' := .long) (by decide) (by decide)))
  have F_leastRtt_a := F_leastRtt_a.other W19 (Or.inr (slot_ne (Or.inl (hw _ (List.mem_of_getElem? (i := 27) rfl))) (Or.inl (hw _ (List.mem_of_getElem? (i := 24) rfl))) (by decide) (t := .long) (t' := .long) (by decide) (by decide)))
  have F_latestRtts_a := F_latestRtts_a.other W19 (Or.inr (slot_ne (Or.inr (hw _ (List.mem_of_getElem? (i := 30) rfl))) (Or.inl (hw _ (List.mem_of_getElem? (i := 24) rfl))) (by decide) (t := (.array .long)) (t' := .long) (by decide) (by decide)))
  have F_nextLatest_a := F_nextLatest_a.other W19 (Or.inr (slot_ne (Or.inl (hw _ (List.mem_of_getElem? (i := 40) rfl))) (Or.inl (hw _ (List.mem_of_getElem? (i := 24) rfl))) (by decide) (t := .int) (t' := .long) (by decide) (by decide)))
  have F_latestCount_a := F_latestCount_a.other W19 (Or.inr (slot_ne (Or.inl (hw _ (List.mem_of_getElem? (i := 42) rfl))) (Or.inl (hw _ (List.mem_of_getElem? (i := 24) rfl))) (by decide) (t := .int) (t' := .long) (by decide) (by decide)))
  have F_rttVariation_a := F_rttVariation_a.other W19 (Or.inr (slot_ne (Or.inl (hw _ (List.mem_of_getElem? (i := 46) rfl))) (Or.inl (hw _ (List.mem_of_getElem? (i := 24) rfl))) (by decide) (t := .long) (t' := .long) (by decide) (by decide)))
  have F_onTheWay_a := F_onTheWay_a.other W19 (Or.inr (slot_ne (Or.inl (hw _ (List.mem_of_getElem? (i := 79) rfl))) (Or.inl (hw _ (List.mem_of_getElem? (i := 24) rfl))) (by decide) (t := .int) (t' := .long) (by decide) (by decide)))
  have F_sent_a := F_sent_a.other W19 (Or.inr (slot_ne (Or.inl (hw _ (List.mem_of_getElem? (i := 70) rfl))) (Or.inl (hw _ (List.mem_of_getElem? (i := 24) rfl))) (by decide) (t := .long) (t' := .long) (by decide) (by decide)))
  have F_shrunkAfter_a := F_shrunkAfter_a.other W19 (Or.inr (slot_ne (Or.inl (hw _ (List.mem_of_getElem? (i := 72) rfl))) (Or.inl (hw _ (List.mem_of_getElem? (i := 24) rfl))) (by decide) (t := .long) (t' := .long) (by decide) (by decide)))
  have V_t1 := V_t1.other W19 ne_t1_a
  have O := O.wr W19 g_a
  have K := K.wr W19 (Or.inl (List.mem_of_getElem? (i := 0) rfl))
  have N19 := Fr.snoc X19 N17 g_a
  have w20 : ∀ t, Steps p.tables e below (T19.setTop (mkF m 118 #[.val (.ref a), .val (.long (50 : Int64)), .second] [])) t → Steps p.tables e below (s₁.setTop (entryFrame m #[(.ref a), (.long (50 : Int64))] 3)) t := fun t k => by
    refine pre0 t ?_
    refine XS.aloadN X0.here hx rfl (hb hby d4_0) rfl rfl ?_
    show Steps p.tables e below (s₁.setTop (mkF m 1 #[.val (.ref a), .val (.long (50 : Int64)), .second] [(.ref a)])) _
    refine XS.aloadN X0.here hx rfl (hb hby d4_1) rfl rfl ?_
    show Steps p.tables e below (s₁.setTop (mkF m 2 #[.val (.ref a), .val (.long (50 : Int64)), .second] [(.ref a), (.ref a)])) _
    refine st1 _ ?_
    show Steps p.tables e below (T1.setTop (mkF m 5 #[.val (.ref a), .val (.long (50 : Int64)), .second] [(.long (0 : Int64)), (.ref a)])) _
    refine XS.lloadN X1.here hx rfl (hb hby d4_5) rfl ?_
    show Steps p.tables e below (T1.setTop (mkF m 6 #[.val (.ref a), .val (.long (50 : Int64)), .second] [(.long (50 : Int64)), (.long (0 : Int64)), (.ref a)])) _
    refine st2 _ ?_
    show Steps p.tables e below (T2.setTop (mkF m 9 #[.val (.ref a), .val (.long (50 : Int64)), .second] [(.long (0 : Int64)), (.ref a)])) _
    refine st3 _ ?_
    show Steps p.tables e below (T3.setTop (mkF m 12 #[.val (.ref a), .val (.long (50 : Int64)), .second] [])) _
    refine XS.aloadN X3.here hx rfl (hb hby d4_12) rfl rfl ?_
    show Steps p.tables e below (T3.setTop (mkF m 13 #[.val (.ref a), .val (.long (50 : Int64)), .second] [(.ref a)])) _
    refine st4 _ ?_
    show Steps p.tables e below (T4.setTop (mkF m 16 #[.val (.ref a), .val (.long (50 : Int64)), .second] [(.ref t1)])) _
    refine XS.aloadN X4.here hx rfl (hb hby d4_16) rfl rfl ?_
    show Steps p.tables e below (T4.setTop (mkF m 17 #[.val (.ref a), .val (.long (50 : Int64)), .second] [(.ref a), (.ref t1)])) _
    refine st5 _ ?_
    show Steps p.tables e below (T5.setTop (mkF m 20 #[.val (.ref a), .val (.long (50 : Int64)), .second] [(.int (0 : Int32)), (.ref t1)])) _
    refine XS.lloadN X5.here hx rfl (hb hby d4_20) rfl ?_
    show Steps p.tables e below (T5.setTop (mkF m 21 #[.val (.ref a), .val (.long (50 : Int64)), .second] [(.long (50 : Int64)), (.int (0 : Int32)), (.ref t1)])) _
    refine st7 _ ?_
    show Steps p.tables e below (T7.setTop (mkF m 22 #[.val (.ref a), .val (.long (50 : Int64)), .second] [])) _
    refine XS.aloadN X7.here hx rfl (hb hby d4_22) rfl rfl ?_
    show Steps p.tables e below (T7.setTop (mkF m 23 #[.val (.ref a), .val (.long (50 : Int64)), .second] [(.ref a)])) _
    refine XS.aloadN X7.here hx rfl (hb hby d4_23) rfl rfl ?_
    show Steps p.tables e below (T7.setTop (mkF m 24 #[.val (.ref a), .val (.long (50 : Int64)), .second] [(.ref a), (.ref a)])) _
    refine st8 _ ?_
    show Steps p.tables e below (T8.setTop (mkF m 27 #[.val (.ref a), .val (.long (50 : Int64)), .second] [(.int (0 : Int32)), (.ref a)])) _
    refine XS.iconst X8.here hx rfl (hb hby d4_27) ?_
    show Steps p.tables e below (T8.setTop (mkF m 28 #[.val (.ref a), .val (.long (50 : Int64)), .second] [(.int (1 : Int32)), (.int (0 : Int32)), (.ref a)])) _
    refine XS.iadd X8.here hx rfl (hb hby d4_28) rfl ?_
    show Steps p.tables e below (T8.setTop (mkF m 29 #[.val (.ref a), .val (.long (50 : Int64)), .second] [(.int (1 : Int32)), (.ref a)])) _
    refine XS.iconst X8.here hx rfl (hb hby d4_29) ?_
    show Steps p.tables e below (T8.setTop (mkF m 30 #[.val (.ref a), .val (.long (50 : Int64)), .second] [(.int (4 : Int32)), (.int (1 : Int32)), (.ref a)])) _
    refine XS.irem X8.here hx rfl (hb hby d4_30) rfl (by decide) ?_
    show Steps p.tables e below (T8.setTop (mkF m 31 #[.val (.ref a), .val (.long (50 : Int64)), .second] [(.int (1 : Int32)), (.ref a)])) _
    refine st9 _ ?_
    show Steps p.tables e below (T9.setTop (mkF m 34 #[.val (.ref a), .val (.long (50 : Int64)), .second] [])) _
    refine XS.aloadN X9.here hx rfl (hb hby d4_34) rfl rfl ?_
    show Steps p.tables e below (T9.setTop (mkF m 35 #[.val (.ref a), .val (.long (50 : Int64)), .second] [(.ref a)])) _
    refine XS.aloadN X9.here hx rfl (hb hby d4_35) rfl rfl ?_
    show Steps p.tables e below (T9.setTop (mkF m 36 #[.val (.ref a), .val (.long (50 : Int64)), .second] [(.ref a), (.ref a)])) _
    refine st10 _ ?_
    show Steps p.tables e below (T10.setTop (mkF m 39 #[.val (.ref a), .val (.long (50 : Int64)), .second] [(.int (4 : Int32)), (.ref a)])) _
    refine XS.iconst X10.here hx rfl (hb hby d4_39) ?_
    show Steps p.tables e below (T10.setTop (mkF m 40 #[.val (.ref a), .val (.long (50 : Int64)), .second] [(.int (1 : Int32)), (.int (4 : Int32)), (.ref a)])) _
    refine XS.iadd X10.here hx rfl (hb hby d4_40) rfl ?_
    show Steps p.tables e below (T10.setTop (mkF m 41 #[.val (.ref a), .val (.long (50 : Int64)), .second] [(.int (5 : Int32)), (.ref a)])) _
    refine XS.iconst X10.here hx rfl (hb hby d4_41) ?_
    show Steps p.tables e below (T10.setTop (mkF m 42 #[.val (.ref a), .val (.long (50 : Int64)), .second] [(.int (4 : Int32)), (.int (5 : Int32)), (.ref a)])) _
    refine st11 _ ?_
    show Steps p.tables e below (T11.setTop (mkF m 45 #[.val (.ref a), .val (.long (50 : Int64)), .second] [(.int (4 : Int32)), (.ref a)])) _
    refine st12 _ ?_
    show Steps p.tables e below (T12.setTop (mkF m 48 #[.val (.ref a), .val (.long (50 : Int64)), .second] [])) _
    refine XS.aloadN X12.here hx rfl (hb hby d4_48) rfl rfl ?_
    show Steps p.tables e below (T12.setTop (mkF m 49 #[.val (.ref a), .val (.long (50 : Int64)), .second] [(.ref a)])) _
    refine st13 _ ?_
    show Steps p.tables e below (T13.setTop (mkF m 52 #[.val (.ref a), .val (.long (50 : Int64)), .second] [(.long (15 : Int64))])) _
    refine XS.lconst X13.here hx rfl (hb hby d4_52) ?_
    show Steps p.tables e below (T13.setTop (mkF m 53 #[.val (.ref a), .val (.long (50 : Int64)), .second] [(.long (0 : Int64)), (.long (15 : Int64))])) _
    refine XS.lcmp X13.here hx rfl (hb hby d4_53) rfl ?_
    show Steps p.tables e below (T13.setTop (mkF m 54 #[.val (.ref a), .val (.long (50 : Int64)), .second] [(.int (1 : Int32))])) _
    refine XS.ifYes X13.here hx rfl (pc0 := 54) (pc' := 74) rfl (hb hby d4_54) rfl ((if0 _ _).trans (flt ((by decide) : ¬ ((1 : Int32) < (0 : Int32)))).2.1) (by decide) (by decide) ?_
    show Steps p.tables e below (T13.setTop (mkF m 74 #[.val (.ref a), .val (.long (50 : Int64)), .second] [])) _
    refine XS.aloadN X13.here hx rfl (hb hby d4_74) rfl rfl ?_
    show Steps p.tables e below (T13.setTop (mkF m 75 #[.val (.ref a), .val (.long (50 : Int64)), .second] [(.ref a)])) _
    refine X13.ldc2Long hx hown (mvT hZ (hw _ (List.mem_of_getElem? (i := 48) rfl))) (g := (mkF m 75 #[.val (.ref a), .val (.long (50 : Int64)), .second] [(.ref a)])) rfl (hb hby d4_75) _ ?_
    show Steps p.tables e below (T13.setTop (mkF m 78 #[.val (.ref a), .val (.long (50 : Int64)), .second] [(.long (3 : Int64)), (.ref a)])) _
    refine XS.aloadN X13.here hx rfl (hb hby d4_78) rfl rfl ?_
    show Steps p.tables e below (T13.setTop (mkF m 79 #[.val (.ref a), .val (.long (50 : Int64)), .second] [(.ref a), (.long (3 : Int64)), (.ref a)])) _
    refine st14 _ ?_
    show Steps p.tables e below (T14.setTop (mkF m 82 #[.val (.ref a), .val (.long (50 : Int64)), .second] [(.long (24 : Int64)), (.long (3 : Int64)), (.ref a)])) _
    refine XS.lmul X14.here hx rfl (hb hby d4_82) rfl ?_
    show Steps p.tables e below (T14.setTop (mkF m 83 #[.val (.ref a), .val (.long (50 : Int64)), .second] [(.long (72 : Int64)), (.ref a)])) _
    refine XS.aloadN X14.here hx rfl (hb hby d4_83) rfl rfl ?_
    show Steps p.tables e below (T14.setTop (mkF m 84 #[.val (.ref a), .val (.long (50 : Int64)), .second] [(.ref a), (.long (72 : Int64)), (.ref a)])) _
    refine st15 _ ?_
    show Steps p.tables e below (T15.setTop (mkF m 87 #[.val (.ref a), .val (.long (50 : Int64)), .second] [(.long (15 : Int64)), (.long (72 : Int64)), (.ref a)])) _
    refine XS.lloadN X15.here hx rfl (hb hby d4_87) rfl ?_
    show Steps p.tables e below (T15.setTop (mkF m 88 #[.val (.ref a), .val (.long (50 : Int64)), .second] [(.long (50 : Int64)), (.long (15 : Int64)), (.long (72 : Int64)), (.ref a)])) _
    refine XS.lsub X15.here hx rfl (hb hby d4_88) rfl ?_
    show Steps p.tables e below (T15.setTop (mkF m 89 #[.val (.ref a), .val (.long (50 : Int64)), .second] [(.long (-35 : Int64)), (.long (72 : Int64)), (.ref a)])) _
    refine st16 _ ?_
    show Steps p.tables e below (T16.setTop (mkF m 92 #[.val (.ref a), .val (.long (50 : Int64)), .second] [(.long (-(-35 : Int64))), (.long (72 : Int64)), (.ref a)])) _
    refine XS.ladd X16.here hx rfl (hb hby d4_92) rfl ?_
    show Steps p.tables e below (T16.setTop (mkF m 93 #[.val (.ref a), .val (.long (50 : Int64)), .second] [(.long ((72 : Int64) + (-(-35 : Int64)))), (.ref a)])) _
    refine X16.ldc2Long hx hown (mvT hZ (hw _ (List.mem_of_getElem? (i := 52) rfl))) (g := (mkF m 93 #[.val (.ref a), .val (.long (50 : Int64)), .second] [(.long ((72 : Int64) + (-(-35 : Int64)))), (.ref a)])) rfl (hb hby d4_93) _ ?_
    show Steps p.tables e below (T16.setTop (mkF m 96 #[.val (.ref a), .val (.long (50 : Int64)), .second] [(.long (4 : Int64)), (.long ((72 : Int64) + (-(-35 : Int64)))), (.ref a)])) _
    refine XS.ldiv X16.here hx rfl (hb hby d4_96) rfl (by decide) ?_
    show Steps p.tables e below (T16.setTop (mkF m 97 #[.val (.ref a), .val (.long (50 : Int64)), .second] [(.long (((72 : Int64) + (-(-35 : Int64))) / (4 : Int64))), (.ref a)])) _
    refine st17 _ ?_
    show Steps p.tables e below (T17.setTop (mkF m 100 #[.val (.ref a), .val (.long (50 : Int64)), .second] [])) _
    refine XS.aloadN X17.here hx rfl (hb hby d4_100) rfl rfl ?_
    show Steps p.tables e below (T17.setTop (mkF m 101 #[.val (.ref a), .val (.long (50 : Int64)), .second] [(.ref a)])) _
    refine X17.ldc2Long hx hown (mvT hZ (hw _ (List.mem_of_getElem? (i := 53) rfl))) (g := (mkF m 101 #[.val (.ref a), .val (.long (50 : Int64)), .second] [(.ref a)])) rfl (hb hby d4_101) _ ?_
    show Steps p.tables e below (T17.setTop (mkF m 104 #[.val (.ref a), .val (.long (50 : Int64)), .second] [(.long (7 : Int64)), (.ref a)])) _
    refine XS.aloadN X17.here hx rfl (hb hby d4_104) rfl rfl ?_
    show Steps p.tables e below (T17.setTop (mkF m 105 #[.val (.ref a), .val (.long (50 : Int64)), .second] [(.ref a), (.long (7 : Int64)), (.ref a)])) _
    refine st18 _ ?_
    show Steps p.tables e below (T18.setTop (mkF m 108 #[.val (.ref a), .val (.long (50 : Int64)), .second] [(.long (15 : Int64)), (.long (7 : Int64)), (.ref a)])) _
    refine XS.lmul X18.here hx rfl (hb hby d4_108) rfl ?_
    show Steps p.tables e below (T18.setTop (mkF m 109 #[.val (.ref a), .val (.long (50 : Int64)), .second] [(.long (105 : Int64)), (.ref a)])) _
    refine XS.lloadN X18.here hx rfl (hb hby d4_109) rfl ?_
    show Steps p.tables e below (T18.setTop (mkF m 110 #[.val (.ref a), .val (.long (50 : Int64)), .second] [(.long (50 : Int64)), (.long (105 : Int64)), (.ref a)])) _
    refine XS.ladd X18.here hx rfl (hb hby d4_110) rfl ?_
    show Steps p.tables e below (T18.setTop (mkF m 111 #[.val (.ref a), .val (.long (50 : Int64)), .second] [(.long (155 : Int64)), (.ref a)])) _
    refine X18.ldc2Long hx hown (mvT hZ (hw _ (List.mem_of_getElem? (i := 54) rfl))) (g := (mkF m 111 #[.val (.ref a), .val (.long (50 : Int64)), .second] [(.long (155 : Int64)), (.ref a)])) rfl (hb hby d4_111) _ ?_
    show Steps p.tables e below (T18.setTop (mkF m 114 #[.val (.ref a), .val (.long (50 : Int64)), .second] [(.long (8 : Int64)), (.long (155 : Int64)), (.ref a)])) _
    refine XS.ldiv X18.here hx rfl (hb hby d4_114) rfl (by decide) ?_
    show Steps p.tables e below (T18.setTop (mkF m 115 #[.val (.ref a), .val (.long (50 : Int64)), .second] [(.long (19 : Int64)), (.ref a)])) _
    refine st19 _ ?_
    show Steps p.tables e below (T19.setTop (mkF m 118 #[.val (.ref a), .val (.long (50 : Int64)), .second] [])) _
    exact k
  obtain ⟨fs, hr, hrun, hended, hW, hsame⟩ := X19.leave (v := none) (fun _ => rfl)
  refine ⟨_, _, w20 _ ?_, hrun, hended, _, _, rfl, ?_, ⟨_, rfl⟩, hW, hsame.mono (by decide) (by decide)⟩
  · exact X19.returnOut hx Bd.returns (hb hby d4_118) hr
  · show Q4_4 Z a t1 kt  h0 n0 _ T19.heap _
    rw [e19]
    exact ⟨rfl, N19, K, F_window_a, F_threshold_a, F_paceAt_a, F_smoothedRtt_a, F_leastRtt_a, F_latestRtts_a, F_nextLatest_a, F_latestCount_a, F_rttVariation_a, F_onTheWay_a, F_sent_a, F_shrunkAfter_a, V_t1⟩
theorem d8_0 : decode prog_61_method_11_code 0 = .ok (.ldc2_w 37, 3) := by decide +kernel
theorem d8_3 : decode prog_61_method_11_code 3 = .ok (.lstore_n 1, 1) := by decide +kernel
theorem d8_4 : decode prog_61_method_11_code 4 = .ok (.iconst 0, 1) := by decide +kernel
theorem d8_5 : decode prog_61_method_11_code 5 = .ok (.istore_n 3, 1) := by decide +kernel
theorem d8_6 : decode prog_61_method_11_code 6 = .ok (.iload_n 3, 1) := by decide +kernel
theorem d8_7 : decode prog_61_method_11_code 7 = .ok (.aload_n 0, 1) := by decide +kernel
theorem d8_8 : decode prog_61_method_11_code 8 = .ok (.getfield 85, 3) := by decide +kernel
theorem d8_11 : decode prog_61_method_11_code 11 = .ok (.if_icmp .ge 20, 3) := by decide +kernel
theorem d8_14 : decode prog_61_method_11_code 14 = .ok (.lload_n 1, 1) := by decide +kernel
theorem d8_15 : decode prog_61_method_11_code 15 = .ok (.aload_n 0, 1) := by decide +kernel
theorem d8_16 : decode prog_61_method_11_code 16 = .ok (.getfield 42, 3) := by decide +kernel
theorem d8_19 : decode prog_61_method_11_code 19 = .ok (.iload_n 3, 1) := by decide +kernel
theorem d8_20 : decode prog_61_method_11_code 20 = .ok (.laload, 1) := by decide +kernel
theorem d8_21 : decode prog_61_method_11_code 21 = .ok (.invokestatic 79, 3) := by decide +kernel
theorem d8_24 : decode prog_61_method_11_code 24 = .ok (.lstore_n 1, 1) := by decide +kernel
theorem d8_25 : decode prog_61_method_11_code 25 = .ok (.iinc 3 1, 3) := by decide +kernel
theorem d8_28 : decode prog_61_method_11_code 28 = .ok (.goto (-22), 3) := by decide +kernel
theorem d8_31 : decode prog_61_method_11_code 31 = .ok (.aload_n 0, 1) := by decide +kernel
theorem d8_32 : decode prog_61_method_11_code 32 = .ok (.getfield 85, 3) := by decide +kernel
theorem d8_35 : decode prog_61_method_11_code 35 = .ok (.ifCond .le 20, 3) := by decide +kernel
theorem d8_38 : decode prog_61_method_11_code 38 = .ok (.lload_n 1, 1) := by decide +kernel
theorem d8_39 : decode prog_61_method_11_code 39 = .ok (.aload_n 0, 1) := by decide +kernel
theorem d8_40 : decode prog_61_method_11_code 40 = .ok (.getfield 39, 3) := by decide +kernel
theorem d8_43 : decode prog_61_method_11_code 43 = .ok (.lsub, 1) := by decide +kernel
theorem d8_44 : decode prog_61_method_11_code 44 = .ok (.ldc2_w 108, 3) := by decide +kernel
theorem d8_47 : decode prog_61_method_11_code 47 = .ok (.lcmp, 1) := by decide +kernel
theorem d8_48 : decode prog_61_method_11_code 48 = .ok (.ifCond .le 7, 3) := by decide +kernel
theorem d8_51 : decode prog_61_method_11_code 51 = .ok (.iconst 1, 1) := by decide +kernel
theorem d8_52 : decode prog_61_method_11_code 52 = .ok (.goto 4, 3) := by decide +kernel
theorem d8_56 : decode prog_61_method_11_code 56 = .ok (.ireturn, 1) := by decide +kernel
theorem ef_8 (m : MethodId) (x0 : Addr) : entryFrame m #[(.ref x0)] 4 = mkF m 0 #[.val (.ref x0), .unset, .unset, .unset] [] := by first | (simp [entryFrame, mkF, argsToLocals, Value.category]; done) | rfl
def Q8 (Z : State) (a : Addr) (t1 : Addr) (kt : ClassId) (h0 : Heap) (n0 : Nat) (v : Option Value) (h : Heap) (L : List Loc) : Prop := v = some (.int (1 : Int32)) ∧ Fr n0 L ∧ h = h0
set_option maxRecDepth 65536 in
set_option maxHeartbeats 40000000 in
theorem rm8 (l : Launch) (Z : State) (a0 : Array Value) (hw : ∀ d ∈ tables_1, d.before a0 Z = true) (ws : List Jvm.Cond) (a : Addr) (t1 : Addr) (kt : ClassId) (h0 : Heap) (n0 : Nat) (O0 : Old Z n0 h0) (E_a : Exa Z h0 a "com/example/hashmesh/hashmesh/mesh/Congestion") (F_leastRtt_a : Fld Z h0 a "com/example/hashmesh/hashmesh/mesh/Congestion" "leastRtt" "J" (.long (0 : Int64))) (F_latestRtts_a : Fld Z h0 a "com/example/hashmesh/hashmesh/mesh/Congestion" "latestRtts" "[J" (.ref t1)) (F_latestCount_a : Fld Z h0 a "com/example/hashmesh/hashmesh/mesh/Congestion" "latestCount" "I" (.int (4 : Int32))) (V_t1 : Arv Z h0 t1 kt .long (4 : Int32) [(.long (50 : Int64)), (.long (50 : Int64)), (.long (50 : Int64)), (.long (50 : Int64))] (.long (0 : Int64))) :
    MetFree l (⟨"com/example/hashmesh/hashmesh/mesh/Congestion", "queueShows", "()Z"⟩ : MethodName) (head1 (Jvm.Cond.code (⟨"com/example/hashmesh/hashmesh/mesh/Congestion", "queueShows", "()Z"⟩ : MethodName) prog_61_method_11_code 4 (some .boolean) :: ws) ({ frames := 1, cells := 0, slots := 0, locals := 15 } : Room)) (fun aA uU => aA = #[(.ref a)] ∧ Z.Warmed39 uU.vm ∧ uU.heap = h0) (fun _ _ _ _ _ => True) (fun _ uU oO uU' => ∃ vV lL, oO = .returned vV ∧ Q8 Z a t1 kt  h0 n0 vV uU'.heap lL ∧ FrameEnd uU oO uU' lL ({ frames := 1, cells := 0, slots := 0, locals := 15 } : Room).cells ({ frames := 1, cells := 0, slots := 0, locals := 15 } : Room).slots) := by
  refine MetFree.of_bodySF (plainFor_of_name pn_com_example_hashmesh_hashmesh_mesh_Congestion) hisR ?_
  intro p e s m args below meth c s₁ Bd hml0 hP hK
  obtain ⟨rfl, hZ, hh⟩ := hP
  have hx := Bd.exec
  have hby := Bd.bytes
  have hml : c.maxLocals = 4 := hml0
  have hown : s.vm.findClass "com/example/hashmesh/hashmesh/mesh/Congestion" = some m.cls := findClass_of_methodNamed Bd.named
  have hnm := (name_of_methodNamed Bd.named Bd.method).1
  have X0 : Stand p l e ({ frames := 1, cells := 0, slots := 0, locals := 15 } : Room) s m #[(.ref a)] below meth c s₁ [] 0 0 := Stand.of_body Bd
  have e0 : s₁.heap = h0 := by rw [← hh, Bd.state]; rfl
  have N0 := Fr.nil n0
  have O := O0
  have pre0 : ∀ t, Steps p.tables e below (s₁.setTop (mkF m 0 #[.val (.ref a), .unset, .unset, .unset] [])) t → Steps p.tables e below (s₁.setTop (entryFrame m #[(.ref a)] 4)) t := fun t k => castTop (ef_8 m a) k
  obtain ⟨T1, X1, e1, st1⟩ := getF X0 hx hZ hown (host := "") (Or.inl (hw _ (List.mem_of_getElem? (i := 41) rfl))) Via.refl e0 F_latestCount_a (g := (mkF m 8 #[.val (.ref a), .val (.long (9223372036854775807 : Int64)), .second, .val (.int (0 : Int32))] [(.ref a), (.int (0 : Int32))])) rfl rfl (hb hby d8_8)
  obtain ⟨T2, X2, e2, st2⟩ := getF X1 hx hZ hown (host := "") (Or.inl (hw _ (List.mem_of_getElem? (i := 29) rfl))) Via.refl e1 F_latestRtts_a (g := (mkF m 16 #[.val (.ref a), .val (.long (9223372036854775807 : Int64)), .second, .val (.int (0 : Int32))] [(.ref a), (.long (9223372036854775807 : Int64))])) rfl rfl (hb hby d8_16)
  obtain ⟨cl3, Ar3, q3, Z3, N3, H3, G3⟩ := id V_t1
  have hin3 : ¬ ((0 : Int32) < 0 ∨ cl3.slots.size ≤ ((0 : Int32)).toNatClampNeg) := inb_of Z3 ⟨by decide, by decide⟩
  have hat3 : cl3.slots[((0 : Int32)).toNatClampNeg]? = some (.long (50 : Int64)) := H3.at hin3 rfl
  obtain ⟨_, _, ⟨T4, L4, k4, n4⟩, -, X4, ⟨Lc4, hQ4, l4, y4, z4⟩, st4⟩ := Jvm.LawKit.callS X2 hx (y := (⟨"java/lang/Math", "min", "(JJ)J"⟩ : MethodName)) hown (mvT hZ (hw _ (List.mem_of_getElem? (i := 36) rfl))) (mvT hZ (hw _ (List.mem_of_getElem? (i := 37) rfl))) (mvT hZ (hw _ (List.mem_of_getElem? (i := 2) rfl))) (mvT hZ (hw _ (List.mem_of_getElem? (i := 38) rfl))) (by decide) (backOf (W := 0) (rm5_b l Z a0 hw [] (9223372036854775807 : Int64) (50 : Int64) h0 n0 O (by decide)) hZ (hw _ (List.mem_of_getElem? (i := 38) rfl)) (hw _ (List.mem_of_getElem? (i := 2) rfl)) (by decide) (by decide)) (g := (mkF m 21 #[.val (.ref a), .val (.long (9223372036854775807 : Int64)), .second, .val (.int (0 : Int32))] [(.long (50 : Int64)), (.long (9223372036854775807 : Int64))])) rfl (by rw [hml]; rfl) (argsL := [(.long (9223372036854775807 : Int64)), (.long (50 : Int64))]) (rest := []) (lenOf pd__40JJ_41J rfl) rfl (by show 2 * 0 + _ ≤ _; exact Nat.le_of_eq rfl) (hb hby d8_21) (fun _ _ => ⟨rfl, e2, (by decide : 0 + 0 ≤ _), (by decide : 0 + 0 ≤ _)⟩)
  dsimp only [Pt.U, Pt.locs, Pt.cells, Pt.slots] at X4 l4 y4 z4 st4 hQ4
  subst l4 y4 z4
  obtain ⟨rfl, N4q, eh4⟩ := hQ4
  have N4 := Fr.app N0 N4q
  obtain ⟨T5, X5, e5, st5⟩ := getF X4 hx hZ hown (host := "") (Or.inl (hw _ (List.mem_of_getElem? (i := 41) rfl))) Via.refl eh4 F_latestCount_a (g := (mkF m 8 #[.val (.ref a), .val (.long (50 : Int64)), .second, .val (.int (1 : Int32))] [(.ref a), (.int (1 : Int32))])) rfl rfl (hb hby d8_8)
  obtain ⟨T6, X6, e6, st6⟩ := getF X5 hx hZ hown (host := "") (Or.inl (hw _ (List.mem_of_getElem? (i := 29) rfl))) Via.refl e5 F_latestRtts_a (g := (mkF m 16 #[.val (.ref a), .val (.long (50 : Int64)), .second, .val (.int (1 : Int32))] [(.ref a), (.long (50 : Int64))])) rfl rfl (hb hby d8_16)
  obtain ⟨cl7, Ar7, q7, Z7, N7, H7, G7⟩ := id V_t1
  have hin7 : ¬ ((1 : Int32) < 0 ∨ cl7.slots.size ≤ ((1 : Int32)).toNatClampNeg) := inb_of Z7 ⟨by decide, by decide⟩
  have hat7 : cl7.slots[((1 : Int32)).toNatClampNeg]? = some (.long (50 : Int64)) := H7.at hin7 rfl
  obtain ⟨_, _, ⟨T8, L8, k8, n8⟩, -, X8, ⟨Lc8, hQ8, l8, y8, z8⟩, st8⟩ := Jvm.LawKit.callS X6 hx (y := (⟨"java/lang/Math", "min", "(JJ)J"⟩ : MethodName)) hown (mvT hZ (hw _ (List.mem_of_getElem? (i := 36) rfl))) (mvT hZ (hw _ (List.mem_of_getElem? (i := 37) rfl))) (mvT hZ (hw _ (List.mem_of_getElem? (i := 2) rfl))) (mvT hZ (hw _ (List.mem_of_getElem? (i := 38) rfl))) (by decide) (backOf (W := 0) (rm5_a l Z a0 hw [] (50 : Int64) (50 : Int64) h0 n0 O (by decide)) hZ (hw _ (List.mem_of_getElem? (i := 38) rfl)) (hw _ (List.mem_of_getElem? (i := 2) rfl)) (by decide) (by decide)) (g := (mkF m 21 #[.val (.ref a), .val (.long (50 : Int64)), .second, .val (.int (1 : Int32))] [(.long (50 : Int64)), (.long (50 : Int64))])) rfl (by rw [hml]; rfl) (argsL := [(.long (50 : Int64)), (.long (50 : Int64))]) (rest := []) (lenOf pd__40JJ_41J rfl) rfl (by show 2 * 0 + _ ≤ _; exact Nat.le_of_eq rfl) (hb hby d8_21) (fun _ _ => ⟨rfl, e6, (by decide : 0 + 0 ≤ _), (by decide : 0 + 0 ≤ _)⟩)
  dsimp only [Pt.U, Pt.locs, Pt.cells, Pt.slots] at X8 l8 y8 z8 st8 hQ8
  subst l8 y8 z8
  obtain ⟨rfl, N8q, eh8⟩ := hQ8
  have N8 := Fr.app N4 N8q
  obtain ⟨T9, X9, e9, st9⟩ := getF X8 hx hZ hown (host := "") (Or.inl (hw _ (List.mem_of_getElem? (i := 41) rfl))) Via.refl eh8 F_latestCount_a (g := (mkF m 8 #[.val (.ref a), .val (.long (50 : Int64)), .second, .val (.int (2 : Int32))] [(.ref a), (.int (2 : Int32))])) rfl rfl (hb hby d8_8)
  obtain ⟨T10, X10, e10, st10⟩ := getF X9 hx hZ hown (host := "") (Or.inl (hw _ (List.mem_of_getElem? (i := 29) rfl))) Via.refl e9 F_latestRtts_a (g := (mkF m 16 #[.val (.ref a), .val (.long (50 : Int64)), .second, .val (.int (2 : Int32))] [(.ref a), (.long (50 : Int64))])) rfl rfl (hb hby d8_16)
  obtain ⟨cl11, Ar11, q11, Z11, N11, H11, G11⟩ := id V_t1
  have hin11 : ¬ ((2 : Int32) < 0 ∨ cl11.slots.size ≤ ((2 : Int32)).toNatClampNeg) := inb_of Z11 ⟨by decide, by decide⟩
  have hat11 : cl11.slots[((2 : Int32)).toNatClampNeg]? = some (.long (50 : Int64)) := H11.at hin11 rfl
  obtain ⟨_, _, ⟨T12, L12, k12, n12⟩, -, X12, ⟨Lc12, hQ12, l12, y12, z12⟩, st12⟩ := Jvm.LawKit.callS X10 hx (y := (⟨"java/lang/Math", "min", "(JJ)J"⟩ : MethodName)) hown (mvT hZ (hw _ (List.mem_of_getElem? (i := 36) rfl))) (mvT hZ (hw _ (List.mem_of_getElem? (i := 37) rfl))) (mvT hZ (hw _ (List.mem_of_getElem? (i := 2) rfl))) (mvT hZ (hw _ (List.mem_of_getElem? (i := 38) rfl))) (by decide) (backOf (W := 0) (rm5_a l Z a0 hw [] (50 : Int64) (50 : Int64) h0 n0 O (by decide)) hZ (hw _ (List.mem_of_getElem? (i := 38) rfl)) (hw _ (List.mem_of_getElem? (i := 2) rfl)) (by decide) (by decide)) (g := (mkF m 21 #[.val (.ref a), .val (.long (50 : Int64)), .second, .val (.int (2 : Int32))] [(.long (50 : Int64)), (.long (50 : Int64))])) rfl (by rw [hml]; rfl) (argsL := [(.long (50 : Int64)), (.long (50 : Int64))]) (rest := []) (lenOf pd__40JJ_41J rfl) rfl (by show 2 * 0 + _ ≤ _; exact Nat.le_of_eq rfl) (hb hby d8_21) (fun _ _ => ⟨rfl, e10, (by decide : 0 + 0 ≤ _), (by decide : 0 + 0 ≤ _)⟩)
  dsimp only [Pt.U, Pt.locs, Pt.cells, Pt.slots] at X12 l12 y12 z12 st12 hQ12
  subst l12 y12 z12
  obtain ⟨rfl, N12q, eh12⟩ := hQ12
  have N12 := Fr.app N8 N12q
  obtain ⟨T13, X13, e13, st13⟩ := getF X12 hx hZ hown (host := "") (Or.inl (hw _ (List.mem_of_getElem? (i := 41) rfl))) Via.refl eh12 F_latestCount_a (g := (mkF m 8 #[.val (.ref a), .val (.long (50 : Int64)), .second, .val (.int (3 : Int32))] [(.ref a), (.int (3 : Int32))])) rfl rfl (hb hby d8_8)
  obtain ⟨T14, X14, e14, st14⟩ := getF X13 hx hZ hown (host := "") (Or.inl (hw _ (List.mem_of_getElem? (i := 29) rfl))) Via.refl e13 F_latestRtts_a (g := (mkF m 16 #[.val (.ref a), .val (.long (50 : Int64)), .second, .val (.int (3 : Int32))] [(.ref a), (.long (50 : Int64))])) rfl rfl (hb hby d8_16)
  obtain ⟨cl15, Ar15, q15, Z15, N15, H15, G15⟩ := id V_t1
  have hin15 : ¬ ((3 : Int32) < 0 ∨ cl15.slots.size ≤ ((3 : Int32)).toNatClampNeg) := inb_of Z15 ⟨by decide, by decide⟩
  have hat15 : cl15.slots[((3 : Int32)).toNatClampNeg]? = some (.long (50 : Int64)) := H15.at hin15 rfl
  obtain ⟨_, _, ⟨T16, L16, k16, n16⟩, -, X16, ⟨Lc16, hQ16, l16, y16, z16⟩, st16⟩ := Jvm.LawKit.callS X14 hx (y := (⟨"java/lang/Math", "min", "(JJ)J"⟩ : MethodName)) hown (mvT hZ (hw _ (List.mem_of_getElem? (i := 36) rfl))) (mvT hZ (hw _ (List.mem_of_getElem? (i := 37) rfl))) (mvT hZ (hw _ (List.mem_of_getElem? (i := 2) rfl))) (mvT hZ (hw _ (List.mem_of_getElem? (i := 38) rfl))) (by decide) (backOf (W := 0) (rm5_a l Z a0 hw [] (50 : Int64) (50 : Int64) h0 n0 O (by decide)) hZ (hw _ (List.mem_of_getElem? (i := 38) rfl)) (hw _ (List.mem_of_getElem? (i := 2) rfl)) (by decide) (by decide)) (g := (mkF m 21 #[.val (.ref a), .val (.long (50 : Int64)), .second, .val (.int (3 : Int32))] [(.long (50 : Int64)), (.long (50 : Int64))])) rfl (by rw [hml]; rfl) (argsL := [(.long (50 : Int64)), (.long (50 : Int64))]) (rest := []) (lenOf pd__40JJ_41J rfl) rfl (by show 2 * 0 + _ ≤ _; exact Nat.le_of_eq rfl) (hb hby d8_21) (fun _ _ => ⟨rfl, e14, (by decide : 0 + 0 ≤ _), (by decide : 0 + 0 ≤ _)⟩)
  dsimp only [Pt.U, Pt.locs, Pt.cells, Pt.slots] at X16 l16 y16 z16 st16 hQ16
  subst l16 y16 z16
  obtain ⟨rfl, N16q, eh16⟩ := hQ16
  have N16 := Fr.app N12 N16q
  obtain ⟨T17, X17, e17, st17⟩ := getF X16 hx hZ hown (host := "") (Or.inl (hw _ (List.mem_of_getElem? (i := 41) rfl))) Via.refl eh16 F_latestCount_a (g := (mkF m 8 #[.val (.ref a), .val (.long (50 : Int64)), .second, .val (.int (4 : Int32))] [(.ref a), (.int (4 : Int32))])) rfl rfl (hb hby d8_8)
  obtain ⟨T18, X18, e18, st18⟩ := getF X17 hx hZ hown (host := "") (Or.inl (hw _ (List.mem_of_getElem? (i := 41) rfl))) Via.refl e17 F_latestCount_a (g := (mkF m 32 #[.val (.ref a), .val (.long (50 : Int64)), .second, .val (.int (4 : Int32))] [(.ref a)])) rfl rfl (hb hby d8_32)
  obtain ⟨T19, X19, e19, st19⟩ := getF X18 hx hZ hown (host := "") (Or.inl (hw _ (List.mem_of_getElem? (i := 26) rfl))) Via.refl e18 F_leastRtt_a (g := (mkF m 40 #[.val (.ref a), .val (.long (50 : Int64)), .second, .val (.int (4 : Int32))] [(.ref a), (.long (50 : Int64))])) rfl rfl (hb hby d8_40)
  have w20 : ∀ t, Steps p.tables e below (T19.setTop (mkF m 56 #[.val (.ref a), .val (.long (50 : Int64)), .second, .val (.int (4 : Int32))] [(.int (1 : Int32))])) t → Steps p.tables e below (s₁.setTop (entryFrame m #[(.ref a)] 4)) t := fun t k => by
    refine pre0 t ?_
    refine X0.ldc2Long hx hown (mvT hZ (hw _ (List.mem_of_getElem? (i := 25) rfl))) (g := (mkF m 0 #[.val (.ref a), .unset, .unset, .unset] [])) rfl (hb hby d8_0) _ ?_
    show Steps p.tables e below (s₁.setTop (mkF m 3 #[.val (.ref a), .unset, .unset, .unset] [(.long (9223372036854775807 : Int64))])) _
    refine XS.lstoreN X0.here hx rfl (hb hby d8_3) rfl (l' := #[.val (.ref a), .val (.long (9223372036854775807 : Int64)), .second, .unset]) rfl ?_
    show Steps p.tables e below (s₁.setTop (mkF m 4 #[.val (.ref a), .val (.long (9223372036854775807 : Int64)), .second, .unset] [])) _
    refine XS.iconst X0.here hx rfl (hb hby d8_4) ?_
    show Steps p.tables e below (s₁.setTop (mkF m 5 #[.val (.ref a), .val (.long (9223372036854775807 : Int64)), .second, .unset] [(.int (0 : Int32))])) _
    refine XS.istoreN X0.here hx rfl (hb hby d8_5) rfl (l' := #[.val (.ref a), .val (.long (9223372036854775807 : Int64)), .second, .val (.int (0 : Int32))]) rfl ?_
    show Steps p.tables e below (s₁.setTop (mkF m 6 #[.val (.ref a), .val (.long (9223372036854775807 : Int64)), .second, .val (.int (0 : Int32))] [])) _
    refine XS.iloadN X0.here hx rfl (hb hby d8_6) rfl ?_
    show Steps p.tables e below (s₁.setTop (mkF m 7 #[.val (.ref a), .val (.long (9223372036854775807 : Int64)), .second, .val (.int (0 : Int32))] [(.int (0 : Int32))])) _
    refine XS.aloadN X0.here hx rfl (hb hby d8_7) rfl rfl ?_
    show Steps p.tables e below (s₁.setTop (mkF m 8 #[.val (.ref a), .val (.long (9223372036854775807 : Int64)), .second, .val (.int (0 : Int32))] [(.ref a), (.int (0 : Int32))])) _
    refine st1 _ ?_
    show Steps p.tables e below (T1.setTop (mkF m 11 #[.val (.ref a), .val (.long (9223372036854775807 : Int64)), .second, .val (.int (0 : Int32))] [(.int (4 : Int32)), (.int (0 : Int32))])) _
    refine XS.icmpNo X1.here hx rfl (hb hby d8_11) rfl (tlt ((by decide) : (0 : Int32) < (4 : Int32))).2.1 ?_
    show Steps p.tables e below (T1.setTop (mkF m 14 #[.val (.ref a), .val (.long (9223372036854775807 : Int64)), .second, .val (.int (0 : Int32))] [])) _
    refine XS.lloadN X1.here hx rfl (hb hby d8_14) rfl ?_
    show Steps p.tables e below (T1.setTop (mkF m 15 #[.val (.ref a), .val (.long (9223372036854775807 : Int64)), .second, .val (.int (0 : Int32))] [(.long (9223372036854775807 : Int64))])) _
    refine XS.aloadN X1.here hx rfl (hb hby d8_15) rfl rfl ?_
    show Steps p.tables e below (T1.setTop (mkF m 16 #[.val (.ref a), .val (.long (9223372036854775807 : Int64)), .second, .val (.int (0 : Int32))] [(.ref a), (.long (9223372036854775807 : Int64))])) _
    refine st2 _ ?_
    show Steps p.tables e below (T2.setTop (mkF m 19 #[.val (.ref a), .val (.long (9223372036854775807 : Int64)), .second, .val (.int (0 : Int32))] [(.ref t1), (.long (9223372036854775807 : Int64))])) _
    refine XS.iloadN X2.here hx rfl (hb hby d8_19) rfl ?_
    show Steps p.tables e below (T2.setTop (mkF m 20 #[.val (.ref a), .val (.long (9223372036854775807 : Int64)), .second, .val (.int (0 : Int32))] [(.int (0 : Int32)), (.ref t1), (.long (9223372036854775807 : Int64))])) _
    refine X2.laload hx (j := (0 : Int32)) (v := (.long (50 : Int64))) (by rw [e2]; exact Ar3.1) (State.isArrayOf_alike hZ.alike Ar3.2.1) Ar3.2.2 hin3 hat3 (g := (mkF m 20 #[.val (.ref a), .val (.long (9223372036854775807 : Int64)), .second, .val (.int (0 : Int32))] [(.int (0 : Int32)), (.ref t1), (.long (9223372036854775807 : Int64))])) rfl rfl (hb hby d8_20) _ ?_
    show Steps p.tables e below (T2.setTop (mkF m 21 #[.val (.ref a), .val (.long (9223372036854775807 : Int64)), .second, .val (.int (0 : Int32))] [(.long (50 : Int64)), (.long (9223372036854775807 : Int64))])) _
    refine st4 _ ?_
    show Steps p.tables e below (T4.setTop (mkF m 24 #[.val (.ref a), .val (.long (9223372036854775807 : Int64)), .second, .val (.int (0 : Int32))] [(.long (50 : Int64))])) _
    refine XS.lstoreN X4.here hx rfl (hb hby d8_24) rfl (l' := #[.val (.ref a), .val (.long (50 : Int64)), .second, .val (.int (0 : Int32))]) rfl ?_
    show Steps p.tables e below (T4.setTop (mkF m 25 #[.val (.ref a), .val (.long (50 : Int64)), .second, .val (.int (0 : Int32))] [])) _
    refine XS.iinc X4.here hx rfl (hb hby d8_25) rfl (l' := #[.val (.ref a), .val (.long (50 : Int64)), .second, .val (.int (1 : Int32))]) rfl ?_
    show Steps p.tables e below (T4.setTop (mkF m 28 #[.val (.ref a), .val (.long (50 : Int64)), .second, .val (.int (1 : Int32))] [])) _
    refine XS.goto X4.here hx rfl (pc0 := 28) (pc' := 6) rfl (hb hby d8_28) (by decide) (by decide) ?_
    show Steps p.tables e below (T4.setTop (mkF m 6 #[.val (.ref a), .val (.long (50 : Int64)), .second, .val (.int (1 : Int32))] [])) _
    refine XS.iloadN X4.here hx rfl (hb hby d8_6) rfl ?_
    show Steps p.tables e below (T4.setTop (mkF m 7 #[.val (.ref a), .val (.long (50 : Int64)), .second, .val (.int (1 : Int32))] [(.int (1 : Int32))])) _
    refine XS.aloadN X4.here hx rfl (hb hby d8_7) rfl rfl ?_
    show Steps p.tables e below (T4.setTop (mkF m 8 #[.val (.ref a), .val (.long (50 : Int64)), .second, .val (.int (1 : Int32))] [(.ref a), (.int (1 : Int32))])) _
    refine st5 _ ?_
    show Steps p.tables e below (T5.setTop (mkF m 11 #[.val (.ref a), .val (.long (50 : Int64)), .second, .val (.int (1 : Int32))] [(.int (4 : Int32)), (.int (1 : Int32))])) _
    refine XS.icmpNo X5.here hx rfl (hb hby d8_11) rfl (tlt ((by decide) : (1 : Int32) < (4 : Int32))).2.1 ?_
    show Steps p.tables e below (T5.setTop (mkF m 14 #[.val (.ref a), .val (.long (50 : Int64)), .second, .val (.int (1 : Int32))] [])) _
    refine XS.lloadN X5.here hx rfl (hb hby d8_14) rfl ?_
    show Steps p.tables e below (T5.setTop (mkF m 15 #[.val (.ref a), .val (.long (50 : Int64)), .second, .val (.int (1 : Int32))] [(.long (50 : Int64))])) _
    refine XS.aloadN X5.here hx rfl (hb hby d8_15) rfl rfl ?_
    show Steps p.tables e below (T5.setTop (mkF m 16 #[.val (.ref a), .val (.long (50 : Int64)), .second, .val (.int (1 : Int32))] [(.ref a), (.long (50 : Int64))])) _
    refine st6 _ ?_
    show Steps p.tables e below (T6.setTop (mkF m 19 #[.val (.ref a), .val (.long (50 : Int64)), .second, .val (.int (1 : Int32))] [(.ref t1), (.long (50 : Int64))])) _
    refine XS.iloadN X6.here hx rfl (hb hby d8_19) rfl ?_
    show Steps p.tables e below (T6.setTop (mkF m 20 #[.val (.ref a), .val (.long (50 : Int64)), .second, .val (.int (1 : Int32))] [(.int (1 : Int32)), (.ref t1), (.long (50 : Int64))])) _
    refine X6.laload hx (j := (1 : Int32)) (v := (.long (50 : Int64))) (by rw [e6]; exact Ar7.1) (State.isArrayOf_alike hZ.alike Ar7.2.1) Ar7.2.2 hin7 hat7 (g := (mkF m 20 #[.val (.ref a), .val (.long (50 : Int64)), .second, .val (.int (1 : Int32))] [(.int (1 : Int32)), (.ref t1), (.long (50 : Int64))])) rfl rfl (hb hby d8_20) _ ?_
    show Steps p.tables e below (T6.setTop (mkF m 21 #[.val (.ref a), .val (.long (50 : Int64)), .second, .val (.int (1 : Int32))] [(.long (50 : Int64)), (.long (50 : Int64))])) _
    refine st8 _ ?_
    show Steps p.tables e below (T8.setTop (mkF m 24 #[.val (.ref a), .val (.long (50 : Int64)), .second, .val (.int (1 : Int32))] [(.long (50 : Int64))])) _
    refine XS.lstoreN X8.here hx rfl (hb hby d8_24) rfl (l' := #[.val (.ref a), .val (.long (50 : Int64)), .second, .val (.int (1 : Int32))]) rfl ?_
    show Steps p.tables e below (T8.setTop (mkF m 25 #[.val (.ref a), .val (.long (50 : Int64)), .second, .val (.int (1 : Int32))] [])) _
    refine XS.iinc X8.here hx rfl (hb hby d8_25) rfl (l' := #[.val (.ref a), .val (.long (50 : Int64)), .second, .val (.int (2 : Int32))]) rfl ?_
    show Steps p.tables e below (T8.setTop (mkF m 28 #[.val (.ref a), .val (.long (50 : Int64)), .second, .val (.int (2 : Int32))] [])) _
    refine XS.goto X8.here hx rfl (pc0 := 28) (pc' := 6) rfl (hb hby d8_28) (by decide) (by decide) ?_
    show Steps p.tables e below (T8.setTop (mkF m 6 #[.val (.ref a), .val (.long (50 : Int64)), .second, .val (.int (2 : Int32))] [])) _
    refine XS.iloadN X8.here hx rfl (hb hby d8_6) rfl ?_
    show Steps p.tables e below (T8.setTop (mkF m 7 #[.val (.ref a), .val (.long (50 : Int64)), .second, .val (.int (2 : Int32))] [(.int (2 : Int32))])) _
    refine XS.aloadN X8.here hx rfl (hb hby d8_7) rfl rfl ?_
    show Steps p.tables e below (T8.setTop (mkF m 8 #[.val (.ref a), .val (.long (50 : Int64)), .second, .val (.int (2 : Int32))] [(.ref a), (.int (2 : Int32))])) _
    refine st9 _ ?_
    show Steps p.tables e below (T9.setTop (mkF m 11 #[.val (.ref a), .val (.long (50 : Int64)), .second, .val (.int (2 : Int32))] [(.int (4 : Int32)), (.int (2 : Int32))])) _
    refine XS.icmpNo X9.here hx rfl (hb hby d8_11) rfl (tlt ((by decide) : (2 : Int32) < (4 : Int32))).2.1 ?_
    show Steps p.tables e below (T9.setTop (mkF m 14 #[.val (.ref a), .val (.long (50 : Int64)), .second, .val (.int (2 : Int32))] [])) _
    refine XS.lloadN X9.here hx rfl (hb hby d8_14) rfl ?_
    show Steps p.tables e below (T9.setTop (mkF m 15 #[.val (.ref a), .val (.long (50 : Int64)), .second, .val (.int (2 : Int32))] [(.long (50 : Int64))])) _
    refine XS.aloadN X9.here hx rfl (hb hby d8_15) rfl rfl ?_
    show Steps p.tables e below (T9.setTop (mkF m 16 #[.val (.ref a), .val (.long (50 : Int64)), .second, .val (.int (2 : Int32))] [(.ref a), (.long (50 : Int64))])) _
    refine st10 _ ?_
    show Steps p.tables e below (T10.setTop (mkF m 19 #[.val (.ref a), .val (.long (50 : Int64)), .second, .val (.int (2 : Int32))] [(.ref t1), (.long (50 : Int64))])) _
    refine XS.iloadN X10.here hx rfl (hb hby d8_19) rfl ?_
    show Steps p.tables e below (T10.setTop (mkF m 20 #[.val (.ref a), .val (.long (50 : Int64)), .second, .val (.int (2 : Int32))] [(.int (2 : Int32)), (.ref t1), (.long (50 : Int64))])) _
    refine X10.laload hx (j := (2 : Int32)) (v := (.long (50 : Int64))) (by rw [e10]; exact Ar11.1) (State.isArrayOf_alike hZ.alike Ar11.2.1) Ar11.2.2 hin11 hat11 (g := (mkF m 20 #[.val (.ref a), .val (.long (50 : Int64)), .second, .val (.int (2 : Int32))] [(.int (2 : Int32)), (.ref t1), (.long (50 : Int64))])) rfl rfl (hb hby d8_20) _ ?_
    show Steps p.tables e below (T10.setTop (mkF m 21 #[.val (.ref a), .val (.long (50 : Int64)), .second, .val (.int (2 : Int32))] [(.long (50 : Int64)), (.long (50 : Int64))])) _
    refine st12 _ ?_
    show Steps p.tables e below (T12.setTop (mkF m 24 #[.val (.ref a), .val (.long (50 : Int64)), .second, .val (.int (2 : Int32))] [(.long (50 : Int64))])) _
    refine XS.lstoreN X12.here hx rfl (hb hby d8_24) rfl (l' := #[.val (.ref a), .val (.long (50 : Int64)), .second, .val (.int (2 : Int32))]) rfl ?_
    show Steps p.tables e below (T12.setTop (mkF m 25 #[.val (.ref a), .val (.long (50 : Int64)), .second, .val (.int (2 : Int32))] [])) _
    refine XS.iinc X12.here hx rfl (hb hby d8_25) rfl (l' := #[.val (.ref a), .val (.long (50 : Int64)), .second, .val (.int (3 : Int32))]) rfl ?_
    show Steps p.tables e below (T12.setTop (mkF m 28 #[.val (.ref a), .val (.long (50 : Int64)), .second, .val (.int (3 : Int32))] [])) _
    refine XS.goto X12.here hx rfl (pc0 := 28) (pc' := 6) rfl (hb hby d8_28) (by decide) (by decide) ?_
    show Steps p.tables e below (T12.setTop (mkF m 6 #[.val (.ref a), .val (.long (50 : Int64)), .second, .val (.int (3 : Int32))] [])) _
    refine XS.iloadN X12.here hx rfl (hb hby d8_6) rfl ?_
    show Steps p.tables e below (T12.setTop (mkF m 7 #[.val (.ref a), .val (.long (50 : Int64)), .second, .val (.int (3 : Int32))] [(.int (3 : Int32))])) _
    refine XS.aloadN X12.here hx rfl (hb hby d8_7) rfl rfl ?_
    show Steps p.tables e below (T12.setTop (mkF m 8 #[.val (.ref a), .val (.long (50 : Int64)), .second, .val (.int (3 : Int32))] [(.ref a), (.int (3 : Int32))])) _
    refine st13 _ ?_
    show Steps p.tables e below (T13.setTop (mkF m 11 #[.val (.ref a), .val (.long (50 : Int64)), .second, .val (.int (3 : Int32))] [(.int (4 : Int32)), (.int (3 : Int32))])) _
    refine XS.icmpNo X13.here hx rfl (hb hby d8_11) rfl (tlt ((by decide) : (3 : Int32) < (4 : Int32))).2.1 ?_
    show Steps p.tables e below (T13.setTop (mkF m 14 #[.val (.ref a), .val (.long (50 : Int64)), .second, .val (.int (3 : Int32))] [])) _
    refine XS.lloadN X13.here hx rfl (hb hby d8_14) rfl ?_
    show Steps p.tables e below (T13.setTop (mkF m 15 #[.val (.ref a), .val (.long (50 : Int64)), .second, .val (.int (3 : Int32))] [(.long (50 : Int64))])) _
    refine XS.aloadN X13.here hx rfl (hb hby d8_15) rfl rfl ?_
    show Steps p.tables e below (T13.setTop (mkF m 16 #[.val (.ref a), .val (.long (50 : Int64)), .second, .val (.int (3 : Int32))] [(.ref a), (.long (50 : Int64))])) _
    refine st14 _ ?_
    show Steps p.tables e below (T14.setTop (mkF m 19 #[.val (.ref a), .val (.long (50 : Int64)), .second, .val (.int (3 : Int32))] [(.ref t1), (.long (50 : Int64))])) _
    refine XS.iloadN X14.here hx rfl (hb hby d8_19) rfl ?_
    show Steps p.tables e below (T14.setTop (mkF m 20 #[.val (.ref a), .val (.long (50 : Int64)), .second, .val (.int (3 : Int32))] [(.int (3 : Int32)), (.ref t1), (.long (50 : Int64))])) _
    refine X14.laload hx (j := (3 : Int32)) (v := (.long (50 : Int64))) (by rw [e14]; exact Ar15.1) (State.isArrayOf_alike hZ.alike Ar15.2.1) Ar15.2.2 hin15 hat15 (g := (mkF m 20 #[.val (.ref a), .val (.long (50 : Int64)), .second, .val (.int (3 : Int32))] [(.int (3 : Int32)), (.ref t1), (.long (50 : Int64))])) rfl rfl (hb hby d8_20) _ ?_
    show Steps p.tables e below (T14.setTop (mkF m 21 #[.val (.ref a), .val (.long (50 : Int64)), .second, .val (.int (3 : Int32))] [(.long (50 : Int64)), (.long (50 : Int64))])) _
    refine st16 _ ?_
    show Steps p.tables e below (T16.setTop (mkF m 24 #[.val (.ref a), .val (.long (50 : Int64)), .second, .val (.int (3 : Int32))] [(.long (50 : Int64))])) _
    refine XS.lstoreN X16.here hx rfl (hb hby d8_24) rfl (l' := #[.val (.ref a), .val (.long (50 : Int64)), .second, .val (.int (3 : Int32))]) rfl ?_
    show Steps p.tables e below (T16.setTop (mkF m 25 #[.val (.ref a), .val (.long (50 : Int64)), .second, .val (.int (3 : Int32))] [])) _
    refine XS.iinc X16.here hx rfl (hb hby d8_25) rfl (l' := #[.val (.ref a), .val (.long (50 : Int64)), .second, .val (.int (4 : Int32))]) rfl ?_
    show Steps p.tables e below (T16.setTop (mkF m 28 #[.val (.ref a), .val (.long (50 : Int64)), .second, .val (.int (4 : Int32))] [])) _
    refine XS.goto X16.here hx rfl (pc0 := 28) (pc' := 6) rfl (hb hby d8_28) (by decide) (by decide) ?_
    show Steps p.tables e below (T16.setTop (mkF m 6 #[.val (.ref a), .val (.long (50 : Int64)), .second, .val (.int (4 : Int32))] [])) _
    refine XS.iloadN X16.here hx rfl (hb hby d8_6) rfl ?_
    show Steps p.tables e below (T16.setTop (mkF m 7 #[.val (.ref a), .val (.long (50 : Int64)), .second, .val (.int (4 : Int32))] [(.int (4 : Int32))])) _
    refine XS.aloadN X16.here hx rfl (hb hby d8_7) rfl rfl ?_
    show Steps p.tables e below (T16.setTop (mkF m 8 #[.val (.ref a), .val (.long (50 : Int64)), .second, .val (.int (4 : Int32))] [(.ref a), (.int (4 : Int32))])) _
    refine st17 _ ?_
    show Steps p.tables e below (T17.setTop (mkF m 11 #[.val (.ref a), .val (.long (50 : Int64)), .second, .val (.int (4 : Int32))] [(.int (4 : Int32)), (.int (4 : Int32))])) _
    refine XS.icmpYes X17.here hx rfl (pc0 := 11) (pc' := 31) rfl (hb hby d8_11) rfl (flt ((by decide) : ¬ ((4 : Int32) < (4 : Int32)))).2.1 (by decide) (by decide) ?_
    show Steps p.tables e below (T17.setTop (mkF m 31 #[.val (.ref a), .val (.long (50 : Int64)), .second, .val (.int (4 : Int32))] [])) _
    refine XS.aloadN X17.here hx rfl (hb hby d8_31) rfl rfl ?_
    show Steps p.tables e below (T17.setTop (mkF m 32 #[.val (.ref a), .val (.long (50 : Int64)), .second, .val (.int (4 : Int32))] [(.ref a)])) _
    refine st18 _ ?_
    show Steps p.tables e below (T18.setTop (mkF m 35 #[.val (.ref a), .val (.long (50 : Int64)), .second, .val (.int (4 : Int32))] [(.int (4 : Int32))])) _
    refine XS.ifNo X18.here hx rfl (hb hby d8_35) rfl ((if0 _ _).trans (tlt ((by decide) : (0 : Int32) < (4 : Int32))).2.2.2) ?_
    show Steps p.tables e below (T18.setTop (mkF m 38 #[.val (.ref a), .val (.long (50 : Int64)), .second, .val (.int (4 : Int32))] [])) _
    refine XS.lloadN X18.here hx rfl (hb hby d8_38) rfl ?_
    show Steps p.tables e below (T18.setTop (mkF m 39 #[.val (.ref a), .val (.long (50 : Int64)), .second, .val (.int (4 : Int32))] [(.long (50 : Int64))])) _
    refine XS.aloadN X18.here hx rfl (hb hby d8_39) rfl rfl ?_
    show Steps p.tables e below (T18.setTop (mkF m 40 #[.val (.ref a), .val (.long (50 : Int64)), .second, .val (.int (4 : Int32))] [(.ref a), (.long (50 : Int64))])) _
    refine st19 _ ?_
    show Steps p.tables e below (T19.setTop (mkF m 43 #[.val (.ref a), .val (.long (50 : Int64)), .second, .val (.int (4 : Int32))] [(.long (0 : Int64)), (.long (50 : Int64))])) _
    refine XS.lsub X19.here hx rfl (hb hby d8_43) rfl ?_
    show Steps p.tables e below (T19.setTop (mkF m 44 #[.val (.ref a), .val (.long (50 : Int64)), .second, .val (.int (4 : Int32))] [(.long (50 : Int64))])) _
    refine X19.ldc2Long hx hown (mvT hZ (hw _ (List.mem_of_getElem? (i := 64) rfl))) (g := (mkF m 44 #[.val (.ref a), .val (.long (50 : Int64)), .second, .val (.int (4 : Int32))] [(.long (50 : Int64))])) rfl (hb hby d8_44) _ ?_
    show Steps p.tables e below (T19.setTop (mkF m 47 #[.val (.ref a), .val (.long (50 : Int64)), .second, .val (.int (4 : Int32))] [(.long (5 : Int64)), (.long (50 : Int64))])) _
    refine XS.lcmp X19.here hx rfl (hb hby d8_47) rfl ?_
    show Steps p.tables e below (T19.setTop (mkF m 48 #[.val (.ref a), .val (.long (50 : Int64)), .second, .val (.int (4 : Int32))] [(.int (1 : Int32))])) _
    refine XS.ifNo X19.here hx rfl (hb hby d8_48) rfl ((if0 _ _).trans (tlt ((by decide) : (0 : Int32) < (1 : Int32))).2.2.2) ?_
    show Steps p.tables e below (T19.setTop (mkF m 51 #[.val (.ref a), .val (.long (50 : Int64)), .second, .val (.int (4 : Int32))] [])) _
    refine XS.iconst X19.here hx rfl (hb hby d8_51) ?_
    show Steps p.tables e below (T19.setTop (mkF m 52 #[.val (.ref a), .val (.long (50 : Int64)), .second, .val (.int (4 : Int32))] [(.int (1 : Int32))])) _
    refine XS.goto X19.here hx rfl (pc0 := 52) (pc' := 56) rfl (hb hby d8_52) (by decide) (by decide) ?_
    show Steps p.tables e below (T19.setTop (mkF m 56 #[.val (.ref a), .val (.long (50 : Int64)), .second, .val (.int (4 : Int32))] [(.int (1 : Int32))])) _
    exact k
  obtain ⟨fs, hr, hrun, hended, hW, hsame⟩ := X19.leave (v := some (.int (1 : Int32))) (fun h => by rw [Bd.returns] at h; cases h)
  refine ⟨_, _, w20 _ ?_, hrun, hended, _, _, rfl, ?_, ⟨_, rfl⟩, hW, hsame.mono (by decide) (by decide)⟩
  · exact retN X19 hx (t := .boolean) Bd.returns (by simp) (hb hby d8_56) hr
  · show Q8 Z a t1 kt  h0 n0 _ T19.heap _
    rw [e19]
    exact ⟨rfl, N16, rfl⟩
theorem d7_0 : decode prog_61_method_7_code 0 = .ok (.aload_n 0, 1) := by decide +kernel
theorem d7_1 : decode prog_61_method_7_code 1 = .ok (.invokevirtual 72, 3) := by decide +kernel
theorem pd__40_41Z : parseMethodDescriptor "()Z" = some ⟨[], some .boolean⟩ := by decide +kernel
theorem d7_4 : decode prog_61_method_7_code 4 = .ok (.ifCond .ne 4, 3) := by decide +kernel
theorem d7_8 : decode prog_61_method_7_code 8 = .ok (.aload_n 0, 1) := by decide +kernel
theorem d7_9 : decode prog_61_method_7_code 9 = .ok (.getfield 11, 3) := by decide +kernel
theorem d7_12 : decode prog_61_method_7_code 12 = .ok (.dconst 1, 1) := by decide +kernel
theorem d7_13 : decode prog_61_method_7_code 13 = .ok (.dcmp .l, 1) := by decide +kernel
theorem d7_14 : decode prog_61_method_7_code 14 = .ok (.ifCond .le 21, 3) := by decide +kernel
theorem d7_17 : decode prog_61_method_7_code 17 = .ok (.aload_n 0, 1) := by decide +kernel
theorem d7_18 : decode prog_61_method_7_code 18 = .ok (.aload_n 0, 1) := by decide +kernel
theorem d7_19 : decode prog_61_method_7_code 19 = .ok (.getfield 11, 3) := by decide +kernel
theorem d7_22 : decode prog_61_method_7_code 22 = .ok (.ldc2_w 56, 3) := by decide +kernel
theorem d7_25 : decode prog_61_method_7_code 25 = .ok (.ddiv, 1) := by decide +kernel
theorem d7_26 : decode prog_61_method_7_code 26 = .ok (.ldc2_w 56, 3) := by decide +kernel
theorem d7_29 : decode prog_61_method_7_code 29 = .ok (.invokestatic 62, 3) := by decide +kernel
theorem pd__40DD_41D : parseMethodDescriptor "(DD)D" = some ⟨[.double, .double], some .double⟩ := by decide +kernel
theorem d7_32 : decode prog_61_method_7_code 32 = .ok (.putfield 19, 3) := by decide +kernel
theorem d7_35 : decode prog_61_method_7_code 35 = .ok (.aload_n 0, 1) := by decide +kernel
theorem d7_36 : decode prog_61_method_7_code 36 = .ok (.dconst 1, 1) := by decide +kernel
theorem d7_37 : decode prog_61_method_7_code 37 = .ok (.putfield 11, 3) := by decide +kernel
theorem d7_40 : decode prog_61_method_7_code 40 = .ok (.aload_n 0, 1) := by decide +kernel
theorem d7_41 : decode prog_61_method_7_code 41 = .ok (.aload_n 0, 1) := by decide +kernel
theorem d7_42 : decode prog_61_method_7_code 42 = .ok (.getfield 66, 3) := by decide +kernel
theorem d7_45 : decode prog_61_method_7_code 45 = .ok (.putfield 69, 3) := by decide +kernel
theorem d7_48 : decode prog_61_method_7_code 48 = .ok (.return_, 1) := by decide +kernel
theorem ef_7 (m : MethodId) (x0 : Addr) : entryFrame m #[(.ref x0)] 1 = mkF m 0 #[.val (.ref x0)] [] := by first | (simp [entryFrame, mkF, argsToLocals, Value.category]; done) | rfl
def Q7 (Z : State) (a : Addr) (t1 : Addr) (kt : ClassId) (h0 : Heap) (n0 : Nat) (v : Option Value) (h : Heap) (L : List Loc) : Prop := v = none ∧ Fr n0 L ∧ Keep h0 h [a] ∧ Fld Z h a "com/example/hashmesh/hashmesh/mesh/Congestion" "window" "D" (.double (4607182418800017408 : UInt64)) ∧ Fld Z h a "com/example/hashmesh/hashmesh/mesh/Congestion" "threshold" "D" (.double (4617315517961601024 : UInt64)) ∧ Fld Z h a "com/example/hashmesh/hashmesh/mesh/Congestion" "paceAt" "D" (.double (18442240474082181120 : UInt64)) ∧ Fld Z h a "com/example/hashmesh/hashmesh/mesh/Congestion" "smoothedRtt" "J" (.long (19 : Int64)) ∧ Fld Z h a "com/example/hashmesh/hashmesh/mesh/Congestion" "leastRtt" "J" (.long (0 : Int64)) ∧ Fld Z h a "com/example/hashmesh/hashmesh/mesh/Congestion" "latestRtts" "[J" (.ref t1) ∧ Fld Z h a "com/example/hashmesh/hashmesh/mesh/Congestion" "nextLatest" "I" (.int (1 : Int32)) ∧ Fld Z h a "com/example/hashmesh/hashmesh/mesh/Congestion" "latestCount" "I" (.int (4 : Int32)) ∧ Fld Z h a "com/example/hashmesh/hashmesh/mesh/Congestion" "rttVariation" "J" (.long (26 : Int64)) ∧ Fld Z h a "com/example/hashmesh/hashmesh/mesh/Congestion" "onTheWay" "I" (.int (0 : Int32)) ∧ Fld Z h a "com/example/hashmesh/hashmesh/mesh/Congestion" "sent" "J" (.long (0 : Int64)) ∧ Fld Z h a "com/example/hashmesh/hashmesh/mesh/Congestion" "shrunkAfter" "J" (.long (0 : Int64))
set_option maxRecDepth 65536 in
set_option maxHeartbeats 40000000 in
theorem rm7 (l : Launch) (Z : State) (a0 : Array Value) (hw : ∀ d ∈ tables_1, d.before a0 Z = true) (ws : List Jvm.Cond) (a : Addr) (t1 : Addr) (kt : ClassId) (h0 : Heap) (n0 : Nat) (O0 : Old Z n0 h0) (E_a : Exa Z h0 a "com/example/hashmesh/hashmesh/mesh/Congestion") (F_window_a : Fld Z h0 a "com/example/hashmesh/hashmesh/mesh/Congestion" "window" "D" (.double (4621819117588971520 : UInt64))) (F_threshold_a : Fld Z h0 a "com/example/hashmesh/hashmesh/mesh/Congestion" "threshold" "D" (.double (4634204016564240384 : UInt64))) (F_paceAt_a : Fld Z h0 a "com/example/hashmesh/hashmesh/mesh/Congestion" "paceAt" "D" (.double (18442240474082181120 : UInt64))) (F_smoothedRtt_a : Fld Z h0 a "com/example/hashmesh/hashmesh/mesh/Congestion" "smoothedRtt" "J" (.long (19 : Int64))) (F_leastRtt_a : Fld Z h0 a "com/example/hashmesh/hashmesh/mesh/Congestion" "leastRtt" "J" (.long (0 : Int64))) (F_latestRtts_a : Fld Z h0 a "com/example/hashmesh/hashmesh/mesh/Congestion" "latestRtts" "[J" (.ref t1)) (F_nextLatest_a : Fld Z h0 a "com/example/hashmesh/hashmesh/mesh/Congestion" "nextLatest" "I" (.int (1 : Int32))) (F_latestCount_a : Fld Z h0 a "com/example/hashmesh/hashmesh/mesh/Congestion" "latestCount" "I" (.int (4 : Int32))) (F_rttVariation_a : Fld Z h0 a "com/example/hashmesh/hashmesh/mesh/Congestion" "rttVariation" "J" (.long (26 : Int64))) (F_onTheWay_a : Fld Z h0 a "com/example/hashmesh/hashmesh/mesh/Congestion" "onTheWay" "I" (.int (0 : Int32))) (F_sent_a : Fld Z h0 a "com/example/hashmesh/hashmesh/mesh/Congestion" "sent" "J" (.long (0 : Int64))) (F_shrunkAfter_a : Fld Z h0 a "com/example/hashmesh/hashmesh/mesh/Congestion" "shrunkAfter" "J" (.long (0 : Int64))) (V_t1 : Arv Z h0 t1 kt .long (4 : Int32) [(.long (50 : Int64)), (.long (50 : Int64)), (.long (50 : Int64)), (.long (50 : Int64))] (.long (0 : Int64))) (g_a : n0 ≤ a) :
    MetFree l (⟨"com/example/hashmesh/hashmesh/mesh/Congestion", "timedOut", "()V"⟩ : MethodName) (head1 (Jvm.Cond.code (⟨"com/example/hashmesh/hashmesh/mesh/Congestion", "timedOut", "()V"⟩ : MethodName) prog_61_method_7_code 1 none :: ws) ({ frames := 2, cells := 0, slots := 0, locals := 30 } : Room)) (fun aA uU => aA = #[(.ref a)] ∧ Z.Warmed39 uU.vm ∧ uU.heap = h0) (fun _ _ _ _ _ => True) (fun _ uU oO uU' => ∃ vV lL, oO = .returned vV ∧ Q7 Z a t1 kt  h0 n0 vV uU'.heap lL ∧ FrameEnd uU oO uU' lL ({ frames := 2, cells := 0, slots := 0, locals := 30 } : Room).cells ({ frames := 2, cells := 0, slots := 0, locals := 30 } : Room).slots) := by
  refine MetFree.of_bodySF (plainFor_of_name pn_com_example_hashmesh_hashmesh_mesh_Congestion) hisR ?_
  intro p e s m args below meth c s₁ Bd hml0 hP hK
  obtain ⟨rfl, hZ, hh⟩ := hP
  have hx := Bd.exec
  have hby := Bd.bytes
  have hml : c.maxLocals = 1 := hml0
  have hown : s.vm.findClass "com/example/hashmesh/hashmesh/mesh/Congestion" = some m.cls := findClass_of_methodNamed Bd.named
  have hnm := (name_of_methodNamed Bd.named Bd.method).1
  have X0 : Stand p l e ({ frames := 2, cells := 0, slots := 0, locals := 30 } : Room) s m #[(.ref a)] below meth c s₁ [] 0 0 := Stand.of_body Bd
  have e0 : s₁.heap = h0 := by rw [← hh, Bd.state]; rfl
  have N0 := Fr.nil n0
  have O := O0
  have K := Keep.refl h0 [a]
  have pre0 : ∀ t, Steps p.tables e below (s₁.setTop (mkF m 0 #[.val (.ref a)] [])) t → Steps p.tables e below (s₁.setTop (entryFrame m #[(.ref a)] 1)) t := fun t k => castTop (ef_7 m a) k
  obtain ⟨cq1, q1, q1'⟩ := E_a.cell
  obtain ⟨_, _, ⟨T1, L1, k1, n1⟩, -, X1, ⟨Lc1, hQ1, l1, y1, z1⟩, st1⟩ := X0.privateBack hx (y := (⟨"com/example/hashmesh/hashmesh/mesh/Congestion", "queueShows", "()Z"⟩ : MethodName)) hown (mvT hZ (hw _ (List.mem_of_getElem? (i := 60) rfl))) (mvT hZ (hw _ (List.mem_of_getElem? (i := 61) rfl))) (mvT hZ (own_selP (y := (⟨"com/example/hashmesh/hashmesh/mesh/Congestion", "queueShows", "()Z"⟩ : MethodName)) (hw _ (List.mem_of_getElem? (i := 5) rfl)) (hw _ (List.mem_of_getElem? (i := 62) rfl)) (hw _ (List.mem_of_getElem? (i := 61) rfl)) (by decide))) (Cond.privateMethod_at (mvP hZ (hw _ (List.mem_of_getElem? (i := 62) rfl)) (args := #[]))) (mvT hZ (hw _ (List.mem_of_getElem? (i := 63) rfl))) (by decide) (backOf (W := 0) (rm8 l Z a0 hw [] a t1 kt h0 n0 O E_a F_leastRtt_a F_latestRtts_a F_latestCount_a V_t1) hZ (hw _ (List.mem_of_getElem? (i := 63) rfl)) (hw _ (List.mem_of_getElem? (i := 6) rfl)) (by decide) (by decide)) (g := (mkF m 1 #[.val (.ref a)] [(.ref a)])) rfl (by rw [hml]; rfl) (Steps.refl _) (a := a) (by rw [e0]; exact q1) q1' (argsL := []) (rest := []) (lenOf pd__40_41Z rfl) rfl (by show 2 * 0 + _ ≤ _; exact Nat.le_of_eq rfl) (hb hby d7_1) (fun _ _ => ⟨rfl, e0, (by decide : 0 + 0 ≤ _), (by decide : 0 + 0 ≤ _)⟩)
  dsimp only [Pt.U, Pt.locs, Pt.cells, Pt.slots] at X1 l1 y1 z1 st1 hQ1
  subst l1 y1 z1
  obtain ⟨rfl, N1q, eh1⟩ := hQ1
  have N1 := Fr.app N0 N1q
  obtain ⟨T2, X2, e2, st2⟩ := getF X1 hx hZ hown (host := "") (Or.inl (hw _ (List.mem_of_getElem? (i := 14) rfl))) Via.refl eh1 F_window_a (g := (mkF m 9 #[.val (.ref a)] [(.ref a)])) rfl rfl (hb hby d7_9)
  obtain ⟨T3, X3, e3, st3⟩ := getF X2 hx hZ hown (host := "") (Or.inl (hw _ (List.mem_of_getElem? (i := 14) rfl))) Via.refl e2 F_window_a (g := (mkF m 19 #[.val (.ref a)] [(.ref a), (.ref a)])) rfl rfl (hb hby d7_19)
  obtain ⟨_, vm4, ⟨T4, L4, k4, n4⟩, -, X4, ⟨rfl, hB4⟩, st4⟩ := Jvm.LawKit.callS X3 hx (y := (⟨"java/lang/Math", "max", "(DD)D"⟩ : MethodName)) hown (mvT hZ (hw _ (List.mem_of_getElem? (i := 66) rfl))) (mvT hZ (hw _ (List.mem_of_getElem? (i := 67) rfl))) (mvT hZ (hw _ (List.mem_of_getElem? (i := 2) rfl))) (mvT hZ (hw _ (List.mem_of_getElem? (i := 68) rfl))) (by decide) (Jvm.Free.Fl.Abs.maxD_pays (W := 1) (4617315517961601024 : UInt64) (4611686018427387904 : UInt64) (mvT hZ (hw _ (List.mem_of_getElem? (i := 68) rfl))) (by decide) (by decide)) (g := (mkF m 29 #[.val (.ref a)] [(.double (4611686018427387904 : UInt64)), (.double (4617315517961601024 : UInt64)), (.ref a)])) rfl (by rw [hml]; rfl) (argsL := [(.double (4617315517961601024 : UInt64)), (.double (4611686018427387904 : UInt64))]) (rest := [(.ref a)]) (lenOf pd__40DD_41D rfl) rfl (by show 2 * 0 + _ ≤ _; exact Nat.le_of_eq rfl) (hb hby d7_29) (fun _ _ => ⟨(by decide : 0 ≤ _), (by decide : 0 ≤ _), rfl, (show (4617315517961601024 : UInt64) &&& 0x7fffffffffffffff ≤ 0x7ff0000000000000 by decide +kernel), (show (4611686018427387904 : UInt64) &&& 0x7fffffffffffffff ≤ 0x7ff0000000000000 by decide +kernel)⟩)
  cases hB4
  dsimp only [Pt.U, Pt.locs, Pt.cells, Pt.slots] at X4 st4
  have eh4 : (T3.setVm vm4).heap = h0 := e3
  have ne_t1_a : t1 ≠ a := (Ne.symm (Exa.neArv E_a V_t1 (hw _ (List.mem_of_getElem? (i := 5) rfl))))
  obtain ⟨T5, h5, X5, e5, W5, st5⟩ := putF X4 hx hZ hown (host := "") (Or.inl (hw _ (List.mem_of_getElem? (i := 17) rfl))) Via.refl eh4 F_threshold_a E_a (Or.inl (hw _ (List.mem_of_getElem? (i := 18) rfl))) (hw _ (List.mem_of_getElem? (i := 5) rfl)) (ty := .double) (by decide) rfl rfl (g := (mkF m 32 #[.val (.ref a)] [(.double (4617315517961601024 : UInt64)), (.ref a)])) rfl rfl (hb hby d7_32)
  have F_threshold_a := F_threshold_a.same W5
  have E_a := E_a.wr W5
  have F_window_a := F_window_a.other W5 (Or.inr (slot_ne (Or.inl (hw _ (List.mem_of_getElem? (i := 15) rfl))) (Or.inl (hw _ (List.mem_of_getElem? (i := 18) rfl))) (by decide) (t := .double) (t' := .double) (by decide) (by decide)))
  have F_paceAt_a := F_paceAt_a.other W5 (Or.inr (slot_ne (Or.inl (hw _ (List.mem_of_getElem? (i := 21) rfl))) (Or.inl (hw _ (List.mem_of_getElem? (i := 18) rfl))) (by decide) (t := .double) (t' := .double) (by decide) (by decide)))
  have F_smoothedRtt_a := F_smoothedRtt_a.other W5 (Or.inr (slot_ne (Or.inl (hw _ (List.mem_of_getElem? (i := 24) rfl))) (Or.inl (hw _ (List.mem_of_getElem? (i := 18) rfl))) (by decide) (t := .long) (t' := .double) (by decide) (by decide)))
  have F_leastRtt_a := F_leastRtt_a.other W5 (Or.inr (slot_ne (Or.inl (hw _ (List.mem_of_getElem? (i := 27) rfl))) (Or.inl (hw _ (List.mem_of_getElem? (i := 18) rfl))) (by decide) (t := .long) (t' := .double) (by decide) (by decide)))
  have F_latestRtts_a := F_latestRtts_a.other W5 (Or.inr (slot_ne (Or.inr (hw _ (List.mem_of_getElem? (i := 30) rfl))) (Or.inl (hw _ (List.mem_of_getElem? (i := 18) rfl))) (by decide) (t := (.array .long)) (t' := .double) (by decide) (by decide)))
  have F_nextLatest_a := F_nextLatest_a.other W5 (Or.inr (slot_ne (Or.inl (hw _ (List.mem_of_getElem? (i := 40) rfl))) (Or.inl (hw _ (List.mem_of_getElem? (i := 18) rfl))) (by decide) (t := .int) (t' := .double) (by decide) (by decide)))
  have F_latestCount_a := F_latestCount_a.other W5 (Or.inr (slot_ne (Or.inl (hw _ (List.mem_of_getElem? (i := 42) rfl))) (Or.inl (hw _ (List.mem_of_getElem? (i := 18) rfl))) (by decide) (t := .int) (t' := .double) (by decide) (by decide)))
  have F_rttVariation_a := F_rttVariation_a.other W5 (Or.inr (slot_ne (Or.inl (hw _ (List.mem_of_getElem? (i := 46) rfl))) (Or.inl (hw _ (List.mem_of_getElem? (i := 18) rfl))) (by decide) (t := .long) (t' := .double) (by decide) (by decide)))
  have F_onTheWay_a := F_onTheWay_a.other W5 (Or.inr (slot_ne (Or.inl (hw _ (List.mem_of_getElem? (i := 79) rfl))) (Or.inl (hw _ (List.mem_of_getElem? (i := 18) rfl))) (by decide) (t := .int) (t' := .double) (by decide) (by decide)))
  have F_sent_a := F_sent_a.other W5 (Or.inr (slot_ne (Or.inl (hw _ (List.mem_of_getElem? (i := 70) rfl))) (Or.inl (hw _ (List.mem_of_getElem? (i := 18) rfl))) (by decide) (t := .long) (t' := .double) (by decide) (by decide)))
  have F_shrunkAfter_a := F_shrunkAfter_a.other W5 (Or.inr (slot_ne (Or.inl (hw _ (List.mem_of_getElem? (i := 72) rfl))) (Or.inl (hw _ (List.mem_of_getElem? (i := 18) rfl))) (by decide) (t := .long) (t' := .double) (by decide) (by decide)))
  have V_t1 := V_t1.other W5 ne_t1_a
  have O := O.wr W5 g_a
  have K := K.wr W5 (Or.inl (List.mem_of_getElem? (i := 0) rfl))
  have N5 := Fr.snoc X5 N1 g_a
  obtain ⟨T6, h6, X6, e6, W6, st6⟩ := putF X5 hx hZ hown (host := "") (Or.inl (hw _ (List.mem_of_getElem? (i := 14) rfl))) Via.refl e5 F_window_a E_a (Or.inl (hw _ (List.mem_of_getElem? (i := 15) rfl))) (hw _ (List.mem_of_getElem? (i := 5) rfl)) (ty := .double) (by decide) rfl rfl (g := (mkF m 37 #[.val (.ref a)] [(.double (4607182418800017408 : UInt64)), (.ref a)])) rfl rfl (hb hby d7_37)
  have F_window_a := F_window_a.same W6
  have E_a := E_a.wr W6
  have F_threshold_a := F_threshold_a.other W6 (Or.inr (slot_ne (Or.inl (hw _ (List.mem_of_getElem? (i := 18) rfl))) (Or.inl (hw _ (List.mem_of_getElem? (i := 15) rfl))) (by decide) (t := .double) (t' := .double) (by decide) (by decide)))
  have F_paceAt_a := F_paceAt_a.other W6 (Or.inr (slot_ne (Or.inl (hw _ (List.mem_of_getElem? (i := 21) rfl))) (Or.inl (hw _ (List.mem_of_getElem? (i := 15) rfl))) (by decide) (t := .double) (t' := .double) (by decide) (by decide)))
  have F_smoothedRtt_a := F_smoothedRtt_a.other W6 (Or.inr (slot_ne (Or.inl (hw _ (List.mem_of_getElem? (i := 24) rfl))) (Or.inl (hw _ (List.mem_of_getElem? (i := 15) rfl))) (by decide) (t := .long) (t' := .double) (by decide) (by decide)))
  have F_leastRtt_a := F_leastRtt_a.other W6 (Or.inr (slot_ne (Or.inl (hw _ (List.mem_of_getElem? (i := 27) rfl))) (Or.inl (hw _ (List.mem_of_getElem? (i := 15) rfl))) (by decide) (t := .long) (t' := .double) (by decide) (by decide)))
  have F_latestRtts_a := F_latestRtts_a.other W6 (Or.inr (slot_ne (Or.inr (hw _ (List.mem_of_getElem? (i := 30) rfl))) (Or.inl (hw _ (List.mem_of_getElem? (i := 15) rfl))) (by decide) (t := (.array .long)) (t' := .double) (by decide) (by decide)))
  have F_nextLatest_a := F_nextLatest_a.other W6 (Or.inr (slot_ne (Or.inl (hw _ (List.mem_of_getElem? (i := 40) rfl))) (Or.inl (hw _ (List.mem_of_getElem? (i := 15) rfl))) (by decide) (t := .int) (t' := .double) (by decide) (by decide)))
  have F_latestCount_a := F_latestCount_a.other W6 (Or.inr (slot_ne (Or.inl (hw _ (List.mem_of_getElem? (i := 42) rfl))) (Or.inl (hw _ (List.mem_of_getElem? (i := 15) rfl))) (by decide) (t := .int) (t' := .double) (by decide) (by decide)))
  have F_rttVariation_a := F_rttVariation_a.other W6 (Or.inr (slot_ne (Or.inl (hw _ (List.mem_of_getElem? (i := 46) rfl))) (Or.inl (hw _ (List.mem_of_getElem? (i := 15) rfl))) (by decide) (t := .long) (t' := .double) (by decide) (by decide)))
  have F_onTheWay_a := F_onTheWay_a.other W6 (Or.inr (slot_ne (Or.inl (hw _ (List.mem_of_getElem? (i := 79) rfl))) (Or.inl (hw _ (List.mem_of_getElem? (i := 15) rfl))) (by decide) (t := .int) (t' := .double) (by decide) (by decide)))
  have F_sent_a := F_sent_a.other W6 (Or.inr (slot_ne (Or.inl (hw _ (List.mem_of_getElem? (i := 70) rfl))) (Or.inl (hw _ (List.mem_of_getElem? (i := 15) rfl))) (by decide) (t := .long) (t' := .double) (by decide) (by decide)))
  have F_shrunkAfter_a := F_shrunkAfter_a.other W6 (Or.inr (slot_ne (Or.inl (hw _ (List.mem_of_getElem? (i := 72) rfl))) (Or.inl (hw _ (List.mem_of_getElem? (i := 15) rfl))) (by decide) (t := .long) (t' := .double) (by decide) (by decide)))
  have V_t1 := V_t1.other W6 ne_t1_a
  have O := O.wr W6 g_a
  have K := K.wr W6 (Or.inl (List.mem_of_getElem? (i := 0) rfl))
  have N6 := Fr.snoc X6 N5 g_a
  obtain ⟨T7, X7, e7, st7⟩ := getF X6 hx hZ hown (host := "") (Or.inl (hw _ (List.mem_of_getElem? (i := 69) rfl))) Via.refl e6 F_sent_a (g := (mkF m 42 #[.val (.ref a)] [(.ref a), (.ref a)])) rfl rfl (hb hby d7_42)
  obtain ⟨T8, h8, X8, e8, W8, st8⟩ := putF X7 hx hZ hown (host := "") (Or.inl (hw _ (List.mem_of_getElem? (i := 71) rfl))) Via.refl e7 F_shrunkAfter_a E_a (Or.inl (hw _ (List.mem_of_getElem? (i := 72) rfl))) (hw _ (List.mem_of_getElem? (i := 5) rfl)) (ty := .long) (by decide) rfl rfl (g := (mkF m 45 #[.val (.ref a)] [(.long (0 : Int64)), (.ref a)])) rfl rfl (hb hby d7_45)
  have F_shrunkAfter_a := F_shrunkAfter_a.same W8
  have E_a := E_a.wr W8
  have F_window_a := F_window_a.other W8 (Or.inr (slot_ne (Or.inl (hw _ (List.mem_of_getElem? (i := 15) rfl))) (Or.inl (hw _ (List.mem_of_getElem? (i := 72) rfl))) (by decide) (t := .double) (t' := .long) (by decide) (by decide)))
  have F_threshold_a := F_threshold_a.other W8 (Or.inr (slot_ne (Or.inl (hw _ (List.mem_of_getElem? (i := 18) rfl))) (Or.inl (hw _ (List.mem_of_getElem? (i := 72) rfl))) (by decide) (t := .double) (t' := .long) (by decide) (by decide)))
  have F_paceAt_a := F_paceAt_a.other W8 (Or.inr (slot_ne (Or.inl (hw _ (List.mem_of_getElem? (i := 21) rfl))) (Or.inl (hw _ (List.mem_of_getElem? (i := 72) rfl))) (by decide) (t := .double) (t' := .long) (by decide) (by decide)))
  have F_smoothedRtt_a := F_smoothedRtt_a.other W8 (Or.inr (slot_ne (Or.inl (hw _ (List.mem_of_getElem? (i := 24) rfl))) (Or.inl (hw _ (List.mem_of_getElem? (i := 72) rfl))) (by decide) (t := .long) (t' := .long) (by decide) (by decide)))
  have F_leastRtt_a := F_leastRtt_a.other W8 (Or.inr (slot_ne (Or.inl (hw _ (List.mem_of_getElem? (i := 27) rfl))) (Or.inl (hw _ (List.mem_of_getElem? (i := 72) rfl))) (by decide) (t := .long) (t' := .long) (by decide) (by decide)))
  have F_latestRtts_a := F_latestRtts_a.other W8 (Or.inr (slot_ne (Or.inr (hw _ (List.mem_of_getElem? (i := 30) rfl))) (Or.inl (hw _ (List.mem_of_getElem? (i := 72) rfl))) (by decide) (t := (.array .long)) (t' := .long) (by decide) (by decide)))
  have F_nextLatest_a := F_nextLatest_a.other W8 (Or.inr (slot_ne (Or.inl (hw _ (List.mem_of_getElem? (i := 40) rfl))) (Or.inl (hw _ (List.mem_of_getElem? (i := 72) rfl))) (by decide) (t := .int) (t' := .long) (by decide) (by decide)))
  have F_latestCount_a := F_latestCount_a.other W8 (Or.inr (slot_ne (Or.inl (hw _ (List.mem_of_getElem? (i := 42) rfl))) (Or.inl (hw _ (List.mem_of_getElem? (i := 72) rfl))) (by decide) (t := .int) (t' := .long) (by decide) (by decide)))
  have F_rttVariation_a := F_rttVariation_a.other W8 (Or.inr (slot_ne (Or.inl (hw _ (List.mem_of_getElem? (i := 46) rfl))) (Or.inl (hw _ (List.mem_of_getElem? (i := 72) rfl))) (by decide) (t := .long) (t' := .long) (by decide) (by decide)))
  have F_onTheWay_a := F_onTheWay_a.other W8 (Or.inr (slot_ne (Or.inl (hw _ (List.mem_of_getElem? (i := 79) rfl))) (Or.inl (hw _ (List.mem_of_getElem? (i := 72) rfl))) (by decide) (t := .int) (t' := .long) (by decide) (by decide)))
  have F_sent_a := F_sent_a.other W8 (Or.inr (slot_ne (Or.inl (hw _ (List.mem_of_getElem? (i := 70) rfl))) (Or.inl (hw _ (List.mem_of_getElem? (i := 72) rfl))) (by decide) (t := .long) (t' := .long) (by decide) (by decide)))
  have V_t1 := V_t1.other W8 ne_t1_a
  have O := O.wr W8 g_a
  have K := K.wr W8 (Or.inl (List.mem_of_getElem? (i := 0) rfl))
  have N8 := Fr.snoc X8 N6 g_a
  have w9 : ∀ t, Steps p.tables e below (T8.setTop (mkF m 48 #[.val (.ref a)] [])) t → Steps p.tables e below (s₁.setTop (entryFrame m #[(.ref a)] 1)) t := fun t k => by
    refine pre0 t ?_
    refine XS.aloadN X0.here hx rfl (hb hby d7_0) rfl rfl ?_
    show Steps p.tables e below (s₁.setTop (mkF m 1 #[.val (.ref a)] [(.ref a)])) _
    refine st1.trans ?_
    show Steps p.tables e below (T1.setTop (mkF m 4 #[.val (.ref a)] [(.int (1 : Int32))])) _
    refine XS.ifYes X1.here hx rfl (pc0 := 4) (pc' := 8) rfl (hb hby d7_4) rfl ((if0 _ _).trans (feq ((by decide) : ¬ ((1 : Int32) = (0 : Int32)))).2) (by decide) (by decide) ?_
    show Steps p.tables e below (T1.setTop (mkF m 8 #[.val (.ref a)] [])) _
    refine XS.aloadN X1.here hx rfl (hb hby d7_8) rfl rfl ?_
    show Steps p.tables e below (T1.setTop (mkF m 9 #[.val (.ref a)] [(.ref a)])) _
    refine st2 _ ?_
    show Steps p.tables e below (T2.setTop (mkF m 12 #[.val (.ref a)] [(.double (4621819117588971520 : UInt64))])) _
    refine XS.dconst1 X2.here hx rfl (hb hby d7_12) (v := (4607182418800017408 : UInt64)) (by decide +kernel) ?_
    show Steps p.tables e below (T2.setTop (mkF m 13 #[.val (.ref a)] [(.double (4607182418800017408 : UInt64)), (.double (4621819117588971520 : UInt64))])) _
    refine XS.dcmpS X2.here hx rfl (hb hby d7_13) rfl (v := (1 : Int32)) (by decide +kernel) ?_
    show Steps p.tables e below (T2.setTop (mkF m 14 #[.val (.ref a)] [(.int (1 : Int32))])) _
    refine XS.ifNo X2.here hx rfl (hb hby d7_14) rfl ((if0 _ _).trans (tlt ((by decide) : (0 : Int32) < (1 : Int32))).2.2.2) ?_
    show Steps p.tables e below (T2.setTop (mkF m 17 #[.val (.ref a)] [])) _
    refine XS.aloadN X2.here hx rfl (hb hby d7_17) rfl rfl ?_
    show Steps p.tables e below (T2.setTop (mkF m 18 #[.val (.ref a)] [(.ref a)])) _
    refine XS.aloadN X2.here hx rfl (hb hby d7_18) rfl rfl ?_
    show Steps p.tables e below (T2.setTop (mkF m 19 #[.val (.ref a)] [(.ref a), (.ref a)])) _
    refine st3 _ ?_
    show Steps p.tables e below (T3.setTop (mkF m 22 #[.val (.ref a)] [(.double (4621819117588971520 : UInt64)), (.ref a)])) _
    refine X3.ldc2DoubleC hx hown (mvT hZ (hw _ (List.mem_of_getElem? (i := 65) rfl))) (g := (mkF m 22 #[.val (.ref a)] [(.double (4621819117588971520 : UInt64)), (.ref a)])) rfl (hb hby d7_22) _ ?_
    show Steps p.tables e below (T3.setTop (mkF m 25 #[.val (.ref a)] [(.double (4611686018427387904 : UInt64)), (.double (4621819117588971520 : UInt64)), (.ref a)])) _
    refine XS.ddivS X3.here hx rfl (hb hby d7_25) rfl (v := (4617315517961601024 : UInt64)) (show (FP.ddiv (4621819117588971520 : UInt64) (4611686018427387904 : UInt64)) &&& 0x7fffffffffffffff ≤ 0x7ff0000000000000 by decide +kernel) (by decide +kernel : FP.ddiv (4621819117588971520 : UInt64) (4611686018427387904 : UInt64) = (4617315517961601024 : UInt64)) ?_
    show Steps p.tables e below (T3.setTop (mkF m 26 #[.val (.ref a)] [(.double (4617315517961601024 : UInt64)), (.ref a)])) _
    refine X3.ldc2DoubleC hx hown (mvT hZ (hw _ (List.mem_of_getElem? (i := 65) rfl))) (g := (mkF m 26 #[.val (.ref a)] [(.double (4617315517961601024 : UInt64)), (.ref a)])) rfl (hb hby d7_26) _ ?_
    show Steps p.tables e below (T3.setTop (mkF m 29 #[.val (.ref a)] [(.double (4611686018427387904 : UInt64)), (.double (4617315517961601024 : UInt64)), (.ref a)])) _
    refine st4 _ ?_
    rw [show (Native.java_lang_Math.nans.pick64 true (4617315517961601024 : UInt64) (4611686018427387904 : UInt64)) = (4617315517961601024 : UInt64) from by decide +kernel]
    show Steps p.tables e below ((T3.setVm vm4).setTop (mkF m 32 #[.val (.ref a)] [(.double (4617315517961601024 : UInt64)), (.ref a)])) _
    refine st5 _ ?_
    show Steps p.tables e below (T5.setTop (mkF m 35 #[.val (.ref a)] [])) _
    refine XS.aloadN X5.here hx rfl (hb hby d7_35) rfl rfl ?_
    show Steps p.tables e below (T5.setTop (mkF m 36 #[.val (.ref a)] [(.ref a)])) _
    refine XS.dconst1 X5.here hx rfl (hb hby d7_36) (v := (4607182418800017408 : UInt64)) (by decide +kernel) ?_
    show Steps p.tables e below (T5.setTop (mkF m 37 #[.val (.ref a)] [(.double (4607182418800017408 : UInt64)), (.ref a)])) _
    refine st6 _ ?_
    show Steps p.tables e below (T6.setTop (mkF m 40 #[.val (.ref a)] [])) _
    refine XS.aloadN X6.here hx rfl (hb hby d7_40) rfl rfl ?_
    show Steps p.tables e below (T6.setTop (mkF m 41 #[.val (.ref a)] [(.ref a)])) _
    refine XS.aloadN X6.here hx rfl (hb hby d7_41) rfl rfl ?_
    show Steps p.tables e below (T6.setTop (mkF m 42 #[.val (.ref a)] [(.ref a), (.ref a)])) _
    refine st7 _ ?_
    show Steps p.tables e below (T7.setTop (mkF m 45 #[.val (.ref a)] [(.long (0 : Int64)), (.ref a)])) _
    refine st8 _ ?_
    show Steps p.tables e below (T8.setTop (mkF m 48 #[.val (.ref a)] [])) _
    exact k
  obtain ⟨fs, hr, hrun, hended, hW, hsame⟩ := X8.leave (v := none) (fun _ => rfl)
  refine ⟨_, _, w9 _ ?_, hrun, hended, _, _, rfl, ?_, ⟨_, rfl⟩, hW, hsame.mono (by decide) (by decide)⟩
  · exact X8.returnOut hx Bd.returns (hb hby d7_48) hr
  · show Q7 Z a t1 kt  h0 n0 _ T8.heap _
    rw [e8]
    exact ⟨rfl, N8, K, F_window_a, F_threshold_a, F_paceAt_a, F_smoothedRtt_a, F_leastRtt_a, F_latestRtts_a, F_nextLatest_a, F_latestCount_a, F_rttVariation_a, F_onTheWay_a, F_sent_a, F_shrunkAfter_a⟩
theorem d11_0 : decode prog_61_method_4_code 0 = .ok (.aload_n 0, 1) := by decide +kernel
theorem d11_1 : decode prog_61_method_4_code 1 = .ok (.getfield 31, 3) := by decide +kernel
theorem d11_4 : decode prog_61_method_4_code 4 = .ok (.lconst 0, 1) := by decide +kernel
theorem d11_5 : decode prog_61_method_4_code 5 = .ok (.lcmp, 1) := by decide +kernel
theorem d11_6 : decode prog_61_method_4_code 6 = .ok (.ifCond .lt 57, 3) := by decide +kernel
theorem d11_9 : decode prog_61_method_4_code 9 = .ok (.aload_n 0, 1) := by decide +kernel
theorem d11_10 : decode prog_61_method_4_code 10 = .ok (.getfield 31, 3) := by decide +kernel
theorem d11_13 : decode prog_61_method_4_code 13 = .ok (.l2d, 1) := by decide +kernel
theorem d11_14 : decode prog_61_method_4_code 14 = .ok (.aload_n 0, 1) := by decide +kernel
theorem d11_15 : decode prog_61_method_4_code 15 = .ok (.getfield 11, 3) := by decide +kernel
theorem d11_18 : decode prog_61_method_4_code 18 = .ok (.aload_n 0, 1) := by decide +kernel
theorem d11_19 : decode prog_61_method_4_code 19 = .ok (.getfield 11, 3) := by decide +kernel
theorem d11_22 : decode prog_61_method_4_code 22 = .ok (.aload_n 0, 1) := by decide +kernel
theorem d11_23 : decode prog_61_method_4_code 23 = .ok (.getfield 19, 3) := by decide +kernel
theorem d11_26 : decode prog_61_method_4_code 26 = .ok (.dcmp .g, 1) := by decide +kernel
theorem d11_27 : decode prog_61_method_4_code 27 = .ok (.ifCond .ge 9, 3) := by decide +kernel
theorem d11_30 : decode prog_61_method_4_code 30 = .ok (.ldc2_w 56, 3) := by decide +kernel
theorem d11_33 : decode prog_61_method_4_code 33 = .ok (.goto 6, 3) := by decide +kernel
theorem d11_39 : decode prog_61_method_4_code 39 = .ok (.dmul, 1) := by decide +kernel
theorem d11_40 : decode prog_61_method_4_code 40 = .ok (.ddiv, 1) := by decide +kernel
theorem d11_41 : decode prog_61_method_4_code 41 = .ok (.dstore_n 3, 1) := by decide +kernel
theorem d11_42 : decode prog_61_method_4_code 42 = .ok (.aload_n 0, 1) := by decide +kernel
theorem d11_43 : decode prog_61_method_4_code 43 = .ok (.aload_n 0, 1) := by decide +kernel
theorem d11_44 : decode prog_61_method_4_code 44 = .ok (.getfield 26, 3) := by decide +kernel
theorem d11_47 : decode prog_61_method_4_code 47 = .ok (.lload_n 1, 1) := by decide +kernel
theorem d11_48 : decode prog_61_method_4_code 48 = .ok (.l2d, 1) := by decide +kernel
theorem d11_49 : decode prog_61_method_4_code 49 = .ok (.ldc2_w 60, 3) := by decide +kernel
theorem d11_52 : decode prog_61_method_4_code 52 = .ok (.dload_n 3, 1) := by decide +kernel
theorem d11_53 : decode prog_61_method_4_code 53 = .ok (.dmul, 1) := by decide +kernel
theorem d11_54 : decode prog_61_method_4_code 54 = .ok (.dsub, 1) := by decide +kernel
theorem d11_55 : decode prog_61_method_4_code 55 = .ok (.invokestatic 62, 3) := by decide +kernel
theorem d11_58 : decode prog_61_method_4_code 58 = .ok (.dload_n 3, 1) := by decide +kernel
theorem d11_59 : decode prog_61_method_4_code 59 = .ok (.dadd, 1) := by decide +kernel
theorem d11_60 : decode prog_61_method_4_code 60 = .ok (.putfield 26, 3) := by decide +kernel
theorem d11_63 : decode prog_61_method_4_code 63 = .ok (.aload_n 0, 1) := by decide +kernel
theorem d11_64 : decode prog_61_method_4_code 64 = .ok (.dup, 1) := by decide +kernel
theorem d11_65 : decode prog_61_method_4_code 65 = .ok (.getfield 46, 3) := by decide +kernel
theorem d11_68 : decode prog_61_method_4_code 68 = .ok (.iconst 1, 1) := by decide +kernel
theorem d11_69 : decode prog_61_method_4_code 69 = .ok (.iadd, 1) := by decide +kernel
theorem d11_70 : decode prog_61_method_4_code 70 = .ok (.putfield 46, 3) := by decide +kernel
theorem d11_73 : decode prog_61_method_4_code 73 = .ok (.aload_n 0, 1) := by decide +kernel
theorem d11_74 : decode prog_61_method_4_code 74 = .ok (.dup, 1) := by decide +kernel
theorem d11_75 : decode prog_61_method_4_code 75 = .ok (.getfield 66, 3) := by decide +kernel
theorem d11_78 : decode prog_61_method_4_code 78 = .ok (.lconst 1, 1) := by decide +kernel
theorem d11_79 : decode prog_61_method_4_code 79 = .ok (.ladd, 1) := by decide +kernel
theorem d11_80 : decode prog_61_method_4_code 80 = .ok (.dup2_x1, 1) := by decide +kernel
theorem d11_81 : decode prog_61_method_4_code 81 = .ok (.putfield 66, 3) := by decide +kernel
theorem d11_84 : decode prog_61_method_4_code 84 = .ok (.lreturn, 1) := by decide +kernel
theorem ef_11 (m : MethodId) (x0 : Addr) (x1 : Int64) : entryFrame m #[(.ref x0), (.long x1)] 5 = mkF m 0 #[.val (.ref x0), .val (.long x1), .second, .unset, .unset] [] := by first | (simp [entryFrame, mkF, argsToLocals, Value.category]; done) | rfl
def Q11 (Z : State) (a : Addr) (q : Int64) (t1 : Addr) (d : UInt64) (i : Int32) (n1 : Int64) (h0 : Heap) (n0 : Nat) (v : Option Value) (h : Heap) (L : List Loc) : Prop := ∃ d2 : UInt64, v = some (.long (n1 + (1 : Int64))) ∧ Fr n0 L ∧ Keep h0 h [a] ∧ Fld Z h a "com/example/hashmesh/hashmesh/mesh/Congestion" "window" "D" (.double (4607182418800017408 : UInt64)) ∧ Fld Z h a "com/example/hashmesh/hashmesh/mesh/Congestion" "threshold" "D" (.double (4617315517961601024 : UInt64)) ∧ Fld Z h a "com/example/hashmesh/hashmesh/mesh/Congestion" "paceAt" "D" (.double d2) ∧ Fld Z h a "com/example/hashmesh/hashmesh/mesh/Congestion" "smoothedRtt" "J" (.long (19 : Int64)) ∧ Fld Z h a "com/example/hashmesh/hashmesh/mesh/Congestion" "leastRtt" "J" (.long (0 : Int64)) ∧ Fld Z h a "com/example/hashmesh/hashmesh/mesh/Congestion" "latestRtts" "[J" (.ref t1) ∧ Fld Z h a "com/example/hashmesh/hashmesh/mesh/Congestion" "nextLatest" "I" (.int (1 : Int32)) ∧ Fld Z h a "com/example/hashmesh/hashmesh/mesh/Congestion" "latestCount" "I" (.int (4 : Int32)) ∧ Fld Z h a "com/example/hashmesh/hashmesh/mesh/Congestion" "rttVariation" "J" (.long (26 : Int64)) ∧ Fld Z h a "com/example/hashmesh/hashmesh/mesh/Congestion" "onTheWay" "I" (.int (i + (1 : Int32))) ∧ Fld Z h a "com/example/hashmesh/hashmesh/mesh/Congestion" "sent" "J" (.long (n1 + (1 : Int64))) ∧ Fld Z h a "com/example/hashmesh/hashmesh/mesh/Congestion" "shrunkAfter" "J" (.long (0 : Int64)) ∧ Jvm.Free.Fl.NoNaN64 d2
set_option maxRecDepth 65536 in
set_option maxHeartbeats 40000000 in
theorem rm11 (l : Launch) (Z : State) (a0 : Array Value) (hw : ∀ d ∈ tables_1, d.before a0 Z = true) (ws : List Jvm.Cond) (a : Addr) (q : Int64) (t1 : Addr) (d : UInt64) (i : Int32) (n1 : Int64) (h0 : Heap) (n0 : Nat) (O0 : Old Z n0 h0) (E_a : Exa Z h0 a "com/example/hashmesh/hashmesh/mesh/Congestion") (F_window_a : Fld Z h0 a "com/example/hashmesh/hashmesh/mesh/Congestion" "window" "D" (.double (4607182418800017408 : UInt64))) (F_threshold_a : Fld Z h0 a "com/example/hashmesh/hashmesh/mesh/Congestion" "threshold" "D" (.double (4617315517961601024 : UInt64))) (F_paceAt_a : Fld Z h0 a "com/example/hashmesh/hashmesh/mesh/Congestion" "paceAt" "D" (.double d)) (F_smoothedRtt_a : Fld Z h0 a "com/example/hashmesh/hashmesh/mesh/Congestion" "smoothedRtt" "J" (.long (19 : Int64))) (F_leastRtt_a : Fld Z h0 a "com/example/hashmesh/hashmesh/mesh/Congestion" "leastRtt" "J" (.long (0 : Int64))) (F_latestRtts_a : Fld Z h0 a "com/example/hashmesh/hashmesh/mesh/Congestion" "latestRtts" "[J" (.ref t1)) (F_nextLatest_a : Fld Z h0 a "com/example/hashmesh/hashmesh/mesh/Congestion" "nextLatest" "I" (.int (1 : Int32))) (F_latestCount_a : Fld Z h0 a "com/example/hashmesh/hashmesh/mesh/Congestion" "latestCount" "I" (.int (4 : Int32))) (F_rttVariation_a : Fld Z h0 a "com/example/hashmesh/hashmesh/mesh/Congestion" "rttVariation" "J" (.long (26 : Int64))) (F_onTheWay_a : Fld Z h0 a "com/example/hashmesh/hashmesh/mesh/Congestion" "onTheWay" "I" (.int i)) (F_sent_a : Fld Z h0 a "com/example/hashmesh/hashmesh/mesh/Congestion" "sent" "J" (.long n1)) (F_shrunkAfter_a : Fld Z h0 a "com/example/hashmesh/hashmesh/mesh/Congestion" "shrunkAfter" "J" (.long (0 : Int64))) (hd : Jvm.Free.Fl.NoNaN64 d) (g_a : n0 ≤ a) :
    MetFree l (⟨"com/example/hashmesh/hashmesh/mesh/Congestion", "sent", "(J)J"⟩ : MethodName) (head1 (Jvm.Cond.code (⟨"com/example/hashmesh/hashmesh/mesh/Congestion", "sent", "(J)J"⟩ : MethodName) prog_61_method_4_code 5 (some .long) :: ws) ({ frames := 1, cells := 0, slots := 0, locals := 16 } : Room)) (fun aA uU => aA = #[(.ref a), (.long q)] ∧ Z.Warmed39 uU.vm ∧ uU.heap = h0) (fun _ _ _ _ _ => True) (fun _ uU oO uU' => ∃ vV lL, oO = .returned vV ∧ Q11 Z a q t1 d i n1  h0 n0 vV uU'.heap lL ∧ FrameEnd uU oO uU' lL ({ frames := 1, cells := 0, slots := 0, locals := 16 } : Room).cells ({ frames := 1, cells := 0, slots := 0, locals := 16 } : Room).slots) := by
  refine MetFree.of_bodySF (plainFor_of_name pn_com_example_hashmesh_hashmesh_mesh_Congestion) hisR ?_
  intro p e s m args below meth c s₁ Bd hml0 hP hK
  obtain ⟨rfl, hZ, hh⟩ := hP
  have hx := Bd.exec
  have hby := Bd.bytes
  have hml : c.maxLocals = 5 := hml0
  have hown : s.vm.findClass "com/example/hashmesh/hashmesh/mesh/Congestion" = some m.cls := findClass_of_methodNamed Bd.named
  have hnm := (name_of_methodNamed Bd.named Bd.method).1
  have X0 : Stand p l e ({ frames := 1, cells := 0, slots := 0, locals := 16 } : Room) s m #[(.ref a), (.long q)] below meth c s₁ [] 0 0 := Stand.of_body Bd
  have e0 : s₁.heap = h0 := by rw [← hh, Bd.state]; rfl
  have N0 := Fr.nil n0
  have O := O0
  have K := Keep.refl h0 [a]
  have pre0 : ∀ t, Steps p.tables e below (s₁.setTop (mkF m 0 #[.val (.ref a), .val (.long q), .second, .unset, .unset] [])) t → Steps p.tables e below (s₁.setTop (entryFrame m #[(.ref a), (.long q)] 5)) t := fun t k => castTop (ef_11 m a q) k
  obtain ⟨T1, X1, e1, st1⟩ := getF X0 hx hZ hown (host := "") (Or.inl (hw _ (List.mem_of_getElem? (i := 23) rfl))) Via.refl e0 F_smoothedRtt_a (g := (mkF m 1 #[.val (.ref a), .val (.long q), .second, .unset, .unset] [(.ref a)])) rfl rfl (hb hby d11_1)
  obtain ⟨T2, X2, e2, st2⟩ := getF X1 hx hZ hown (host := "") (Or.inl (hw _ (List.mem_of_getElem? (i := 23) rfl))) Via.refl e1 F_smoothedRtt_a (g := (mkF m 10 #[.val (.ref a), .val (.long q), .second, .unset, .unset] [(.ref a)])) rfl rfl (hb hby d11_10)
  obtain ⟨T3, X3, e3, st3⟩ := getF X2 hx hZ hown (host := "") (Or.inl (hw _ (List.mem_of_getElem? (i := 14) rfl))) Via.refl e2 F_window_a (g := (mkF m 15 #[.val (.ref a), .val (.long q), .second, .unset, .unset] [(.ref a), (.double (4626041242239631360 : UInt64))])) rfl rfl (hb hby d11_15)
  obtain ⟨T4, X4, e4, st4⟩ := getF X3 hx hZ hown (host := "") (Or.inl (hw _ (List.mem_of_getElem? (i := 14) rfl))) Via.refl e3 F_window_a (g := (mkF m 19 #[.val (.ref a), .val (.long q), .second, .unset, .unset] [(.ref a), (.double (4607182418800017408 : UInt64)), (.double (4626041242239631360 : UInt64))])) rfl rfl (hb hby d11_19)
  obtain ⟨T5, X5, e5, st5⟩ := getF X4 hx hZ hown (host := "") (Or.inl (hw _ (List.mem_of_getElem? (i := 17) rfl))) Via.refl e4 F_threshold_a (g := (mkF m 23 #[.val (.ref a), .val (.long q), .second, .unset, .unset] [(.ref a), (.double (4607182418800017408 : UInt64)), (.double (4607182418800017408 : UInt64)), (.double (4626041242239631360 : UInt64))])) rfl rfl (hb hby d11_23)
  obtain ⟨T6, X6, e6, st6⟩ := getF X5 hx hZ hown (host := "") (Or.inl (hw _ (List.mem_of_getElem? (i := 20) rfl))) Via.refl e5 F_paceAt_a (g := (mkF m 44 #[.val (.ref a), .val (.long q), .second, .val (.double (4621537642612260864 : UInt64)), .second] [(.ref a), (.ref a)])) rfl rfl (hb hby d11_44)
  obtain ⟨_, vm7, ⟨T7, L7, k7, n7⟩, -, X7, ⟨rfl, hB7⟩, st7⟩ := Jvm.LawKit.callS X6 hx (y := (⟨"java/lang/Math", "max", "(DD)D"⟩ : MethodName)) hown (mvT hZ (hw _ (List.mem_of_getElem? (i := 66) rfl))) (mvT hZ (hw _ (List.mem_of_getElem? (i := 67) rfl))) (mvT hZ (hw _ (List.mem_of_getElem? (i := 2) rfl))) (mvT hZ (hw _ (List.mem_of_getElem? (i := 68) rfl))) (by decide) (Jvm.Free.Fl.Abs.maxD_pays (W := 1) d (FP.dsub (FP.l2d q) (4635716944564060160 : UInt64)) (mvT hZ (hw _ (List.mem_of_getElem? (i := 68) rfl))) (by decide) (by decide)) (g := (mkF m 55 #[.val (.ref a), .val (.long q), .second, .val (.double (4621537642612260864 : UInt64)), .second] [(.double (FP.dsub (FP.l2d q) (4635716944564060160 : UInt64))), (.double d), (.ref a)])) rfl (by rw [hml]; rfl) (argsL := [(.double d), (.double (FP.dsub (FP.l2d q) (4635716944564060160 : UInt64)))]) (rest := [(.ref a)]) (lenOf pd__40DD_41D rfl) rfl (by show 2 * 0 + _ ≤ _; exact Nat.le_of_eq rfl) (hb hby d11_55) (fun _ _ => ⟨(by decide : 0 ≤ _), (by decide : 0 ≤ _), rfl, hd, (Jvm.Free.Fl.dsub_out (Jvm.Free.Fl.l2d_fin q).noNaN (show (4635716944564060160 : UInt64) &&& 0x7fffffffffffffff < 0x7ff0000000000000 by decide +kernel))⟩)
  cases hB7
  dsimp only [Pt.U, Pt.locs, Pt.cells, Pt.slots] at X7 st7
  have eh7 : (T6.setVm vm7).heap = h0 := e6
  obtain ⟨T8, h8, X8, e8, W8, st8⟩ := putF X7 hx hZ hown (host := "") (Or.inl (hw _ (List.mem_of_getElem? (i := 20) rfl))) Via.refl eh7 F_paceAt_a E_a (Or.inl (hw _ (List.mem_of_getElem? (i := 21) rfl))) (hw _ (List.mem_of_getElem? (i := 5) rfl)) (ty := .double) (by decide) rfl rfl (g := (mkF m 60 #[.val (.ref a), .val (.long q), .second, .val (.double (4621537642612260864 : UInt64)), .second] [(.double (FP.dadd (Native.java_lang_Math.nans.pick64 true d (FP.dsub (FP.l2d q) (4635716944564060160 : UInt64))) (4621537642612260864 : UInt64))), (.ref a)])) rfl rfl (hb hby d11_60)
  have F_paceAt_a := F_paceAt_a.same W8
  have E_a := E_a.wr W8
  have F_window_a := F_window_a.other W8 (Or.inr (slot_ne (Or.inl (hw _ (List.mem_of_getElem? (i := 15) rfl))) (Or.inl (hw _ (List.mem_of_getElem? (i := 21) rfl))) (by decide) (t := .double) (t' := .double) (by decide) (by decide)))
  have F_threshold_a := F_threshold_a.other W8 (Or.inr (slot_ne (Or.inl (hw _ (List.mem_of_getElem? (i := 18) rfl))) (Or.inl (hw _ (List.mem_of_getElem? (i := 21) rfl))) (by decide) (t := .double) (t' := .double) (by decide) (by decide)))
  have F_smoothedRtt_a := F_smoothedRtt_a.other W8 (Or.inr (slot_ne (Or.inl (hw _ (List.mem_of_getElem? (i := 24) rfl))) (Or.inl (hw _ (List.mem_of_getElem? (i := 21) rfl))) (by decide) (t := .long) (t' := .double) (by decide) (by decide)))
  have F_leastRtt_a := F_leastRtt_a.other W8 (Or.inr (slot_ne (Or.inl (hw _ (List.mem_of_getElem? (i := 27) rfl))) (Or.inl (hw _ (List.mem_of_getElem? (i := 21) rfl))) (by decide) (t := .long) (t' := .double) (by decide) (by decide)))
  have F_latestRtts_a := F_latestRtts_a.other W8 (Or.inr (slot_ne (Or.inr (hw _ (List.mem_of_getElem? (i := 30) rfl))) (Or.inl (hw _ (List.mem_of_getElem? (i := 21) rfl))) (by decide) (t := (.array .long)) (t' := .double) (by decide) (by decide)))
  have F_nextLatest_a := F_nextLatest_a.other W8 (Or.inr (slot_ne (Or.inl (hw _ (List.mem_of_getElem? (i := 40) rfl))) (Or.inl (hw _ (List.mem_of_getElem? (i := 21) rfl))) (by decide) (t := .int) (t' := .double) (by decide) (by decide)))
  have F_latestCount_a := F_latestCount_a.other W8 (Or.inr (slot_ne (Or.inl (hw _ (List.mem_of_getElem? (i := 42) rfl))) (Or.inl (hw _ (List.mem_of_getElem? (i := 21) rfl))) (by decide) (t := .int) (t' := .double) (by decide) (by decide)))
  have F_rttVariation_a := F_rttVariation_a.other W8 (Or.inr (slot_ne (Or.inl (hw _ (List.mem_of_getElem? (i := 46) rfl))) (Or.inl (hw _ (List.mem_of_getElem? (i := 21) rfl))) (by decide) (t := .long) (t' := .double) (by decide) (by decide)))
  have F_onTheWay_a := F_onTheWay_a.other W8 (Or.inr (slot_ne (Or.inl (hw _ (List.mem_of_getElem? (i := 79) rfl))) (Or.inl (hw _ (List.mem_of_getElem? (i := 21) rfl))) (by decide) (t := .int) (t' := .double) (by decide) (by decide)))
  have F_sent_a := F_sent_a.other W8 (Or.inr (slot_ne (Or.inl (hw _ (List.mem_of_getElem? (i := 70) rfl))) (Or.inl (hw _ (List.mem_of_getElem? (i := 21) rfl))) (by decide) (t := .long) (t' := .double) (by decide) (by decide)))
  have F_shrunkAfter_a := F_shrunkAfter_a.other W8 (Or.inr (slot_ne (Or.inl (hw _ (List.mem_of_getElem? (i := 72) rfl))) (Or.inl (hw _ (List.mem_of_getElem? (i := 21) rfl))) (by decide) (t := .long) (t' := .double) (by decide) (by decide)))
  have O := O.wr W8 g_a
  have K := K.wr W8 (Or.inl (List.mem_of_getElem? (i := 0) rfl))
  have N8 := Fr.snoc X8 N0 g_a
  obtain ⟨T9, X9, e9, st9⟩ := getF X8 hx hZ hown (host := "") (Or.inl (hw _ (List.mem_of_getElem? (i := 78) rfl))) Via.refl e8 F_onTheWay_a (g := (mkF m 65 #[.val (.ref a), .val (.long q), .second, .val (.double (4621537642612260864 : UInt64)), .second] [(.ref a), (.ref a)])) rfl rfl (hb hby d11_65)
  obtain ⟨T10, h10, X10, e10, W10, st10⟩ := putF X9 hx hZ hown (host := "") (Or.inl (hw _ (List.mem_of_getElem? (i := 78) rfl))) Via.refl e9 F_onTheWay_a E_a (Or.inl (hw _ (List.mem_of_getElem? (i := 79) rfl))) (hw _ (List.mem_of_getElem? (i := 5) rfl)) (ty := .int) (by decide) rfl rfl (g := (mkF m 70 #[.val (.ref a), .val (.long q), .second, .val (.double (4621537642612260864 : UInt64)), .second] [(.int (i + (1 : Int32))), (.ref a)])) rfl rfl (hb hby d11_70)
  have F_onTheWay_a := F_onTheWay_a.same W10
  have E_a := E_a.wr W10
  have F_window_a := F_window_a.other W10 (Or.inr (slot_ne (Or.inl (hw _ (List.mem_of_getElem? (i := 15) rfl))) (Or.inl (hw _ (List.mem_of_getElem? (i := 79) rfl))) (by decide) (t := .double) (t' := .int) (by decide) (by decide)))
  have F_threshold_a := F_threshold_a.other W10 (Or.inr (slot_ne (Or.inl (hw _ (List.mem_of_getElem? (i := 18) rfl))) (Or.inl (hw _ (List.mem_of_getElem? (i := 79) rfl))) (by decide) (t := .double) (t' := .int) (by decide) (by decide)))
  have F_paceAt_a := F_paceAt_a.other W10 (Or.inr (slot_ne (Or.inl (hw _ (List.mem_of_getElem? (i := 21) rfl))) (Or.inl (hw _ (List.mem_of_getElem? (i := 79) rfl))) (by decide) (t := .double) (t' := .int) (by decide) (by decide)))
  have F_smoothedRtt_a := F_smoothedRtt_a.other W10 (Or.inr (slot_ne (Or.inl (hw _ (List.mem_of_getElem? (i := 24) rfl))) (Or.inl (hw _ (List.mem_of_getElem? (i := 79) rfl))) (by decide) (t := .long) (t' := .int) (by decide) (by decide)))
  have F_leastRtt_a := F_leastRtt_a.other W10 (Or.inr (slot_ne (Or.inl (hw _ (List.mem_of_getElem? (i := 27) rfl))) (Or.inl (hw _ (List.mem_of_getElem? (i := 79) rfl))) (by decide) (t := .long) (t' := .int) (by decide) (by decide)))
  have F_latestRtts_a := F_latestRtts_a.other W10 (Or.inr (slot_ne (Or.inr (hw _ (List.mem_of_getElem? (i := 30) rfl))) (Or.inl (hw _ (List.mem_of_getElem? (i := 79) rfl))) (by decide) (t := (.array .long)) (t' := .int) (by decide) (by decide)))
  have F_nextLatest_a := F_nextLatest_a.other W10 (Or.inr (slot_ne (Or.inl (hw _ (List.mem_of_getElem? (i := 40) rfl))) (Or.inl (hw _ (List.mem_of_getElem? (i := 79) rfl))) (by decide) (t := .int) (t' := .int) (by decide) (by decide)))
  have F_latestCount_a := F_latestCount_a.other W10 (Or.inr (slot_ne (Or.inl (hw _ (List.mem_of_getElem? (i := 42) rfl))) (Or.inl (hw _ (List.mem_of_getElem? (i := 79) rfl))) (by decide) (t := .int) (t' := .int) (by decide) (by decide)))
  have F_rttVariation_a := F_rttVariation_a.other W10 (Or.inr (slot_ne (Or.inl (hw _ (List.mem_of_getElem? (i := 46) rfl))) (Or.inl (hw _ (List.mem_of_getElem? (i := 79) rfl))) (by decide) (t := .long) (t' := .int) (by decide) (by decide)))
  have F_sent_a := F_sent_a.other W10 (Or.inr (slot_ne (Or.inl (hw _ (List.mem_of_getElem? (i := 70) rfl))) (Or.inl (hw _ (List.mem_of_getElem? (i := 79) rfl))) (by decide) (t := .long) (t' := .int) (by decide) (by decide)))
  have F_shrunkAfter_a := F_shrunkAfter_a.other W10 (Or.inr (slot_ne (Or.inl (hw _ (List.mem_of_getElem? (i := 72) rfl))) (Or.inl (hw _ (List.mem_of_getElem? (i := 79) rfl))) (by decide) (t := .long) (t' := .int) (by decide) (by decide)))
  have O := O.wr W10 g_a
  have K := K.wr W10 (Or.inl (List.mem_of_getElem? (i := 0) rfl))
  have N10 := Fr.snoc X10 N8 g_a
  obtain ⟨T11, X11, e11, st11⟩ := getF X10 hx hZ hown (host := "") (Or.inl (hw _ (List.mem_of_getElem? (i := 69) rfl))) Via.refl e10 F_sent_a (g := (mkF m 75 #[.val (.ref a), .val (.long q), .second, .val (.double (4621537642612260864 : UInt64)), .second] [(.ref a), (.ref a)])) rfl rfl (hb hby d11_75)
  obtain ⟨T12, h12, X12, e12, W12, st12⟩ := putF X11 hx hZ hown (host := "") (Or.inl (hw _ (List.mem_of_getElem? (i := 69) rfl))) Via.refl e11 F_sent_a E_a (Or.inl (hw _ (List.mem_of_getElem? (i := 70) rfl))) (hw _ (List.mem_of_getElem? (i := 5) rfl)) (ty := .long) (by decide) rfl rfl (g := (mkF m 81 #[.val (.ref a), .val (.long q), .second, .val (.double (4621537642612260864 : UInt64)), .second] [(.long (n1 + (1 : Int64))), (.ref a), (.long (n1 + (1 : Int64)))])) rfl rfl (hb hby d11_81)
  have F_sent_a := F_sent_a.same W12
  have E_a := E_a.wr W12
  have F_window_a := F_window_a.other W12 (Or.inr (slot_ne (Or.inl (hw _ (List.mem_of_getElem? (i := 15) rfl))) (Or.inl (hw _ (List.mem_of_getElem? (i := 70) rfl))) (by decide) (t := .double) (t' := .long) (by decide) (by decide)))
  have F_threshold_a := F_threshold_a.other W12 (Or.inr (slot_ne (Or.inl (hw _ (List.mem_of_getElem? (i := 18) rfl))) (Or.inl (hw _ (List.mem_of_getElem? (i := 70) rfl))) (by decide) (t := .double) (t' := .long) (by decide) (by decide)))
  have F_paceAt_a := F_paceAt_a.other W12 (Or.inr (slot_ne (Or.inl (hw _ (List.mem_of_getElem? (i := 21) rfl))) (Or.inl (hw _ (List.mem_of_getElem? (i := 70) rfl))) (by decide) (t := .double) (t' := .long) (by decide) (by decide)))
  have F_smoothedRtt_a := F_smoothedRtt_a.other W12 (Or.inr (slot_ne (Or.inl (hw _ (List.mem_of_getElem? (i := 24) rfl))) (Or.inl (hw _ (List.mem_of_getElem? (i := 70) rfl))) (by decide) (t := .long) (t' := .long) (by decide) (by decide)))
  have F_leastRtt_a := F_leastRtt_a.other W12 (Or.inr (slot_ne (Or.inl (hw _ (List.mem_of_getElem? (i := 27) rfl))) (Or.inl (hw _ (List.mem_of_getElem? (i := 70) rfl))) (by decide) (t := .long) (t' := .long) (by decide) (by decide)))
  have F_latestRtts_a := F_latestRtts_a.other W12 (Or.inr (slot_ne (Or.inr (hw _ (List.mem_of_getElem? (i := 30) rfl))) (Or.inl (hw _ (List.mem_of_getElem? (i := 70) rfl))) (by decide) (t := (.array .long)) (t' := .long) (by decide) (by decide)))
  have F_nextLatest_a := F_nextLatest_a.other W12 (Or.inr (slot_ne (Or.inl (hw _ (List.mem_of_getElem? (i := 40) rfl))) (Or.inl (hw _ (List.mem_of_getElem? (i := 70) rfl))) (by decide) (t := .int) (t' := .long) (by decide) (by decide)))
  have F_latestCount_a := F_latestCount_a.other W12 (Or.inr (slot_ne (Or.inl (hw _ (List.mem_of_getElem? (i := 42) rfl))) (Or.inl (hw _ (List.mem_of_getElem? (i := 70) rfl))) (by decide) (t := .int) (t' := .long) (by decide) (by decide)))
  have F_rttVariation_a := F_rttVariation_a.other W12 (Or.inr (slot_ne (Or.inl (hw _ (List.mem_of_getElem? (i := 46) rfl))) (Or.inl (hw _ (List.mem_of_getElem? (i := 70) rfl))) (by decide) (t := .long) (t' := .long) (by decide) (by decide)))
  have F_onTheWay_a := F_onTheWay_a.other W12 (Or.inr (slot_ne (Or.inl (hw _ (List.mem_of_getElem? (i := 79) rfl))) (Or.inl (hw _ (List.mem_of_getElem? (i := 70) rfl))) (by decide) (t := .int) (t' := .long) (by decide) (by decide)))
  have F_shrunkAfter_a := F_shrunkAfter_a.other W12 (Or.inr (slot_ne (Or.inl (hw _ (List.mem_of_getElem? (i := 72) rfl))) (Or.inl (hw _ (List.mem_of_getElem? (i := 70) rfl))) (by decide) (t := .long) (t' := .long) (by decide) (by decide)))
  have O := O.wr W12 g_a
  have K := K.wr W12 (Or.inl (List.mem_of_getElem? (i := 0) rfl))
  have N12 := Fr.snoc X12 N10 g_a
  have w13 : ∀ t, Steps p.tables e below (T12.setTop (mkF m 84 #[.val (.ref a), .val (.long q), .second, .val (.double (4621537642612260864 : UInt64)), .second] [(.long (n1 + (1 : Int64)))])) t → Steps p.tables e below (s₁.setTop (entryFrame m #[(.ref a), (.long q)] 5)) t := fun t k => by
    refine pre0 t ?_
    refine XS.aloadN X0.here hx rfl (hb hby d11_0) rfl rfl ?_
    show Steps p.tables e below (s₁.setTop (mkF m 1 #[.val (.ref a), .val (.long q), .second, .unset, .unset] [(.ref a)])) _
    refine st1 _ ?_
    show Steps p.tables e below (T1.setTop (mkF m 4 #[.val (.ref a), .val (.long q), .second, .unset, .unset] [(.long (19 : Int64))])) _
    refine XS.lconst X1.here hx rfl (hb hby d11_4) ?_
    show Steps p.tables e below (T1.setTop (mkF m 5 #[.val (.ref a), .val (.long q), .second, .unset, .unset] [(.long (0 : Int64)), (.long (19 : Int64))])) _
    refine XS.lcmp X1.here hx rfl (hb hby d11_5) rfl ?_
    show Steps p.tables e below (T1.setTop (mkF m 6 #[.val (.ref a), .val (.long q), .second, .unset, .unset] [(.int (1 : Int32))])) _
    refine XS.ifNo X1.here hx rfl (hb hby d11_6) rfl ((if0 _ _).trans (flt ((by decide) : ¬ ((1 : Int32) < (0 : Int32)))).1) ?_
    show Steps p.tables e below (T1.setTop (mkF m 9 #[.val (.ref a), .val (.long q), .second, .unset, .unset] [])) _
    refine XS.aloadN X1.here hx rfl (hb hby d11_9) rfl rfl ?_
    show Steps p.tables e below (T1.setTop (mkF m 10 #[.val (.ref a), .val (.long q), .second, .unset, .unset] [(.ref a)])) _
    refine st2 _ ?_
    show Steps p.tables e below (T2.setTop (mkF m 13 #[.val (.ref a), .val (.long q), .second, .unset, .unset] [(.long (19 : Int64))])) _
    refine XS.l2dS X2.here hx rfl (hb hby d11_13) rfl (v := (4626041242239631360 : UInt64)) (by decide +kernel) ?_
    show Steps p.tables e below (T2.setTop (mkF m 14 #[.val (.ref a), .val (.long q), .second, .unset, .unset] [(.double (4626041242239631360 : UInt64))])) _
    refine XS.aloadN X2.here hx rfl (hb hby d11_14) rfl rfl ?_
    show Steps p.tables e below (T2.setTop (mkF m 15 #[.val (.ref a), .val (.long q), .second, .unset, .unset] [(.ref a), (.double (4626041242239631360 : UInt64))])) _
    refine st3 _ ?_
    show Steps p.tables e below (T3.setTop (mkF m 18 #[.val (.ref a), .val (.long q), .second, .unset, .unset] [(.double (4607182418800017408 : UInt64)), (.double (4626041242239631360 : UInt64))])) _
    refine XS.aloadN X3.here hx rfl (hb hby d11_18) rfl rfl ?_
    show Steps p.tables e below (T3.setTop (mkF m 19 #[.val (.ref a), .val (.long q), .second, .unset, .unset] [(.ref a), (.double (4607182418800017408 : UInt64)), (.double (4626041242239631360 : UInt64))])) _
    refine st4 _ ?_
    show Steps p.tables e below (T4.setTop (mkF m 22 #[.val (.ref a), .val (.long q), .second, .unset, .unset] [(.double (4607182418800017408 : UInt64)), (.double (4607182418800017408 : UInt64)), (.double (4626041242239631360 : UInt64))])) _
    refine XS.aloadN X4.here hx rfl (hb hby d11_22) rfl rfl ?_
    show Steps p.tables e below (T4.setTop (mkF m 23 #[.val (.ref a), .val (.long q), .second, .unset, .unset] [(.ref a), (.double (4607182418800017408 : UInt64)), (.double (4607182418800017408 : UInt64)), (.double (4626041242239631360 : UInt64))])) _
    refine st5 _ ?_
    show Steps p.tables e below (T5.setTop (mkF m 26 #[.val (.ref a), .val (.long q), .second, .unset, .unset] [(.double (4617315517961601024 : UInt64)), (.double (4607182418800017408 : UInt64)), (.double (4607182418800017408 : UInt64)), (.double (4626041242239631360 : UInt64))])) _
    refine XS.dcmpS X5.here hx rfl (hb hby d11_26) rfl (v := (-1 : Int32)) (by decide +kernel) ?_
    show Steps p.tables e below (T5.setTop (mkF m 27 #[.val (.ref a), .val (.long q), .second, .unset, .unset] [(.int (-1 : Int32)), (.double (4607182418800017408 : UInt64)), (.double (4626041242239631360 : UInt64))])) _
    refine XS.ifNo X5.here hx rfl (hb hby d11_27) rfl ((if0 _ _).trans (tlt ((by decide) : (-1 : Int32) < (0 : Int32))).2.1) ?_
    show Steps p.tables e below (T5.setTop (mkF m 30 #[.val (.ref a), .val (.long q), .second, .unset, .unset] [(.double (4607182418800017408 : UInt64)), (.double (4626041242239631360 : UInt64))])) _
    refine X5.ldc2DoubleC hx hown (mvT hZ (hw _ (List.mem_of_getElem? (i := 65) rfl))) (g := (mkF m 30 #[.val (.ref a), .val (.long q), .second, .unset, .unset] [(.double (4607182418800017408 : UInt64)), (.double (4626041242239631360 : UInt64))])) rfl (hb hby d11_30) _ ?_
    show Steps p.tables e below (T5.setTop (mkF m 33 #[.val (.ref a), .val (.long q), .second, .unset, .unset] [(.double (4611686018427387904 : UInt64)), (.double (4607182418800017408 : UInt64)), (.double (4626041242239631360 : UInt64))])) _
    refine XS.goto X5.here hx rfl (pc0 := 33) (pc' := 39) rfl (hb hby d11_33) (by decide) (by decide) ?_
    show Steps p.tables e below (T5.setTop (mkF m 39 #[.val (.ref a), .val (.long q), .second, .unset, .unset] [(.double (4611686018427387904 : UInt64)), (.double (4607182418800017408 : UInt64)), (.double (4626041242239631360 : UInt64))])) _
    refine XS.dmulS X5.here hx rfl (hb hby d11_39) rfl (v := (4611686018427387904 : UInt64)) (show (FP.dmul (4607182418800017408 : UInt64) (4611686018427387904 : UInt64)) &&& 0x7fffffffffffffff ≤ 0x7ff0000000000000 by decide +kernel) (by decide +kernel : FP.dmul (4607182418800017408 : UInt64) (4611686018427387904 : UInt64) = (4611686018427387904 : UInt64)) ?_
    show Steps p.tables e below (T5.setTop (mkF m 40 #[.val (.ref a), .val (.long q), .second, .unset, .unset] [(.double (4611686018427387904 : UInt64)), (.double (4626041242239631360 : UInt64))])) _
    refine XS.ddivS X5.here hx rfl (hb hby d11_40) rfl (v := (4621537642612260864 : UInt64)) (show (FP.ddiv (4626041242239631360 : UInt64) (4611686018427387904 : UInt64)) &&& 0x7fffffffffffffff ≤ 0x7ff0000000000000 by decide +kernel) (by decide +kernel : FP.ddiv (4626041242239631360 : UInt64) (4611686018427387904 : UInt64) = (4621537642612260864 : UInt64)) ?_
    show Steps p.tables e below (T5.setTop (mkF m 41 #[.val (.ref a), .val (.long q), .second, .unset, .unset] [(.double (4621537642612260864 : UInt64))])) _
    refine XS.dstoreN X5.here hx rfl (hb hby d11_41) rfl (l' := #[.val (.ref a), .val (.long q), .second, .val (.double (4621537642612260864 : UInt64)), .second]) rfl ?_
    show Steps p.tables e below (T5.setTop (mkF m 42 #[.val (.ref a), .val (.long q), .second, .val (.double (4621537642612260864 : UInt64)), .second] [])) _
    refine XS.aloadN X5.here hx rfl (hb hby d11_42) rfl rfl ?_
    show Steps p.tables e below (T5.setTop (mkF m 43 #[.val (.ref a), .val (.long q), .second, .val (.double (4621537642612260864 : UInt64)), .second] [(.ref a)])) _
    refine XS.aloadN X5.here hx rfl (hb hby d11_43) rfl rfl ?_
    show Steps p.tables e below (T5.setTop (mkF m 44 #[.val (.ref a), .val (.long q), .second, .val (.double (4621537642612260864 : UInt64)), .second] [(.ref a), (.ref a)])) _
    refine st6 _ ?_
    show Steps p.tables e below (T6.setTop (mkF m 47 #[.val (.ref a), .val (.long q), .second, .val (.double (4621537642612260864 : UInt64)), .second] [(.double d), (.ref a)])) _
    refine XS.lloadN X6.here hx rfl (hb hby d11_47) rfl ?_
    show Steps p.tables e below (T6.setTop (mkF m 48 #[.val (.ref a), .val (.long q), .second, .val (.double (4621537642612260864 : UInt64)), .second] [(.long q), (.double d), (.ref a)])) _
    refine XS.l2dS X6.here hx rfl (hb hby d11_48) rfl (v := (FP.l2d q)) rfl ?_
    show Steps p.tables e below (T6.setTop (mkF m 49 #[.val (.ref a), .val (.long q), .second, .val (.double (4621537642612260864 : UInt64)), .second] [(.double (FP.l2d q)), (.double d), (.ref a)])) _
    refine X6.ldc2DoubleC hx hown (mvT hZ (hw _ (List.mem_of_getElem? (i := 85) rfl))) (g := (mkF m 49 #[.val (.ref a), .val (.long q), .second, .val (.double (4621537642612260864 : UInt64)), .second] [(.double (FP.l2d q)), (.double d), (.ref a)])) rfl (hb hby d11_49) _ ?_
    show Steps p.tables e below (T6.setTop (mkF m 52 #[.val (.ref a), .val (.long q), .second, .val (.double (4621537642612260864 : UInt64)), .second] [(.double (4621256167635550208 : UInt64)), (.double (FP.l2d q)), (.double d), (.ref a)])) _
    refine XS.dloadN X6.here hx rfl (hb hby d11_52) rfl ?_
    show Steps p.tables e below (T6.setTop (mkF m 53 #[.val (.ref a), .val (.long q), .second, .val (.double (4621537642612260864 : UInt64)), .second] [(.double (4621537642612260864 : UInt64)), (.double (4621256167635550208 : UInt64)), (.double (FP.l2d q)), (.double d), (.ref a)])) _
    refine XS.dmulS X6.here hx rfl (hb hby d11_53) rfl (v := (4635716944564060160 : UInt64)) (show (FP.dmul (4621256167635550208 : UInt64) (4621537642612260864 : UInt64)) &&& 0x7fffffffffffffff ≤ 0x7ff0000000000000 by decide +kernel) (by decide +kernel : FP.dmul (4621256167635550208 : UInt64) (4621537642612260864 : UInt64) = (4635716944564060160 : UInt64)) ?_
    show Steps p.tables e below (T6.setTop (mkF m 54 #[.val (.ref a), .val (.long q), .second, .val (.double (4621537642612260864 : UInt64)), .second] [(.double (4635716944564060160 : UInt64)), (.double (FP.l2d q)), (.double d), (.ref a)])) _
    refine XS.dsubS X6.here hx rfl (hb hby d11_54) rfl (v := (FP.dsub (FP.l2d q) (4635716944564060160 : UInt64))) (Jvm.Free.Fl.dsub_out (Jvm.Free.Fl.l2d_fin q).noNaN (show (4635716944564060160 : UInt64) &&& 0x7fffffffffffffff < 0x7ff0000000000000 by decide +kernel)) rfl ?_
    show Steps p.tables e below (T6.setTop (mkF m 55 #[.val (.ref a), .val (.long q), .second, .val (.double (4621537642612260864 : UInt64)), .second] [(.double (FP.dsub (FP.l2d q) (4635716944564060160 : UInt64))), (.double d), (.ref a)])) _
    refine st7 _ ?_
    show Steps p.tables e below ((T6.setVm vm7).setTop (mkF m 58 #[.val (.ref a), .val (.long q), .second, .val (.double (4621537642612260864 : UInt64)), .second] [(.double (Native.java_lang_Math.nans.pick64 true d (FP.dsub (FP.l2d q) (4635716944564060160 : UInt64)))), (.ref a)])) _
    refine XS.dloadN X7.here hx rfl (hb hby d11_58) rfl ?_
    show Steps p.tables e below ((T6.setVm vm7).setTop (mkF m 59 #[.val (.ref a), .val (.long q), .second, .val (.double (4621537642612260864 : UInt64)), .second] [(.double (4621537642612260864 : UInt64)), (.double (Native.java_lang_Math.nans.pick64 true d (FP.dsub (FP.l2d q) (4635716944564060160 : UInt64)))), (.ref a)])) _
    refine XS.daddS X7.here hx rfl (hb hby d11_59) rfl (v := (FP.dadd (Native.java_lang_Math.nans.pick64 true d (FP.dsub (FP.l2d q) (4635716944564060160 : UInt64))) (4621537642612260864 : UInt64))) (Jvm.Free.Fl.dadd_out (Jvm.Free.Fl.pick64_noNaN hd (Jvm.Free.Fl.dsub_out (Jvm.Free.Fl.l2d_fin q).noNaN (show (4635716944564060160 : UInt64) &&& 0x7fffffffffffffff < 0x7ff0000000000000 by decide +kernel))) (show (4621537642612260864 : UInt64) &&& 0x7fffffffffffffff < 0x7ff0000000000000 by decide +kernel)) rfl ?_
    show Steps p.tables e below ((T6.setVm vm7).setTop (mkF m 60 #[.val (.ref a), .val (.long q), .second, .val (.double (4621537642612260864 : UInt64)), .second] [(.double (FP.dadd (Native.java_lang_Math.nans.pick64 true d (FP.dsub (FP.l2d q) (4635716944564060160 : UInt64))) (4621537642612260864 : UInt64))), (.ref a)])) _
    refine st8 _ ?_
    show Steps p.tables e below (T8.setTop (mkF m 63 #[.val (.ref a), .val (.long q), .second, .val (.double (4621537642612260864 : UInt64)), .second] [])) _
    refine XS.aloadN X8.here hx rfl (hb hby d11_63) rfl rfl ?_
    show Steps p.tables e below (T8.setTop (mkF m 64 #[.val (.ref a), .val (.long q), .second, .val (.double (4621537642612260864 : UInt64)), .second] [(.ref a)])) _
    refine XS.dup X8.here hx rfl (hb hby d11_64) rfl rfl ?_
    show Steps p.tables e below (T8.setTop (mkF m 65 #[.val (.ref a), .val (.long q), .second, .val (.double (4621537642612260864 : UInt64)), .second] [(.ref a), (.ref a)])) _
    refine st9 _ ?_
    show Steps p.tables e below (T9.setTop (mkF m 68 #[.val (.ref a), .val (.long q), .second, .val (.double (4621537642612260864 : UInt64)), .second] [(.int i), (.ref a)])) _
    refine XS.iconst X9.here hx rfl (hb hby d11_68) ?_
    show Steps p.tables e below (T9.setTop (mkF m 69 #[.val (.ref a), .val (.long q), .second, .val (.double (4621537642612260864 : UInt64)), .second] [(.int (1 : Int32)), (.int i), (.ref a)])) _
    refine XS.iadd X9.here hx rfl (hb hby d11_69) rfl ?_
    show Steps p.tables e below (T9.setTop (mkF m 70 #[.val (.ref a), .val (.long q), .second, .val (.double (4621537642612260864 : UInt64)), .second] [(.int (i + (1 : Int32))), (.ref a)])) _
    refine st10 _ ?_
    show Steps p.tables e below (T10.setTop (mkF m 73 #[.val (.ref a), .val (.long q), .second, .val (.double (4621537642612260864 : UInt64)), .second] [])) _
    refine XS.aloadN X10.here hx rfl (hb hby d11_73) rfl rfl ?_
    show Steps p.tables e below (T10.setTop (mkF m 74 #[.val (.ref a), .val (.long q), .second, .val (.double (4621537642612260864 : UInt64)), .second] [(.ref a)])) _
    refine XS.dup X10.here hx rfl (hb hby d11_74) rfl rfl ?_
    show Steps p.tables e below (T10.setTop (mkF m 75 #[.val (.ref a), .val (.long q), .second, .val (.double (4621537642612260864 : UInt64)), .second] [(.ref a), (.ref a)])) _
    refine st11 _ ?_
    show Steps p.tables e below (T11.setTop (mkF m 78 #[.val (.ref a), .val (.long q), .second, .val (.double (4621537642612260864 : UInt64)), .second] [(.long n1), (.ref a)])) _
    refine XS.lconst X11.here hx rfl (hb hby d11_78) ?_
    show Steps p.tables e below (T11.setTop (mkF m 79 #[.val (.ref a), .val (.long q), .second, .val (.double (4621537642612260864 : UInt64)), .second] [(.long (1 : Int64)), (.long n1), (.ref a)])) _
    refine XS.ladd X11.here hx rfl (hb hby d11_79) rfl ?_
    show Steps p.tables e below (T11.setTop (mkF m 80 #[.val (.ref a), .val (.long q), .second, .val (.double (4621537642612260864 : UInt64)), .second] [(.long (n1 + (1 : Int64))), (.ref a)])) _
    jvm_step X11.here [X11.here.top, hx, (hb hby d11_80), Value.category]
    show Steps p.tables e below (T11.setTop (mkF m 81 #[.val (.ref a), .val (.long q), .second, .val (.double (4621537642612260864 : UInt64)), .second] [(.long (n1 + (1 : Int64))), (.ref a), (.long (n1 + (1 : Int64)))])) _
    refine st12 _ ?_
    show Steps p.tables e below (T12.setTop (mkF m 84 #[.val (.ref a), .val (.long q), .second, .val (.double (4621537642612260864 : UInt64)), .second] [(.long (n1 + (1 : Int64)))])) _
    exact k
  obtain ⟨fs, hr, hrun, hended, hW, hsame⟩ := X12.leave (v := some (.long (n1 + (1 : Int64)))) (fun h => by rw [Bd.returns] at h; cases h)
  refine ⟨_, _, w13 _ ?_, hrun, hended, _, _, rfl, ?_, ⟨_, rfl⟩, hW, hsame.mono (by decide) (by decide)⟩
  · exact X12.lreturnOut hx Bd.returns (hb hby d11_84) hr
  · show Q11 Z a q t1 d i n1  h0 n0 _ T12.heap _
    rw [e12]
    exact ⟨(FP.dadd (Native.java_lang_Math.nans.pick64 true d (FP.dsub (FP.l2d q) (4635716944564060160 : UInt64))) (4621537642612260864 : UInt64)), rfl, N12, K, F_window_a, F_threshold_a, F_paceAt_a, F_smoothedRtt_a, F_leastRtt_a, F_latestRtts_a, F_nextLatest_a, F_latestCount_a, F_rttVariation_a, F_onTheWay_a, F_sent_a, F_shrunkAfter_a, (Jvm.Free.Fl.dadd_out (Jvm.Free.Fl.pick64_noNaN hd (Jvm.Free.Fl.dsub_out (Jvm.Free.Fl.l2d_fin q).noNaN (show (4635716944564060160 : UInt64) &&& 0x7fffffffffffffff < 0x7ff0000000000000 by decide +kernel))) (show (4621537642612260864 : UInt64) &&& 0x7fffffffffffffff < 0x7ff0000000000000 by decide +kernel))⟩
theorem d12_0 : decode prog_61_method_5_code 0 = .ok (.aload_n 0, 1) := by decide +kernel
theorem d12_1 : decode prog_61_method_5_code 1 = .ok (.dup, 1) := by decide +kernel
theorem d12_2 : decode prog_61_method_5_code 2 = .ok (.getfield 46, 3) := by decide +kernel
theorem d12_5 : decode prog_61_method_5_code 5 = .ok (.iconst 1, 1) := by decide +kernel
theorem d12_6 : decode prog_61_method_5_code 6 = .ok (.isub, 1) := by decide +kernel
theorem d12_7 : decode prog_61_method_5_code 7 = .ok (.putfield 46, 3) := by decide +kernel
theorem d12_10 : decode prog_61_method_5_code 10 = .ok (.lload_n 1, 1) := by decide +kernel
theorem d12_11 : decode prog_61_method_5_code 11 = .ok (.aload_n 0, 1) := by decide +kernel
theorem d12_12 : decode prog_61_method_5_code 12 = .ok (.getfield 69, 3) := by decide +kernel
theorem d12_15 : decode prog_61_method_5_code 15 = .ok (.lcmp, 1) := by decide +kernel
theorem d12_16 : decode prog_61_method_5_code 16 = .ok (.ifCond .gt 4, 3) := by decide +kernel
theorem d12_20 : decode prog_61_method_5_code 20 = .ok (.aload_n 0, 1) := by decide +kernel
theorem d12_21 : decode prog_61_method_5_code 21 = .ok (.getfield 11, 3) := by decide +kernel
theorem d12_24 : decode prog_61_method_5_code 24 = .ok (.aload_n 0, 1) := by decide +kernel
theorem d12_25 : decode prog_61_method_5_code 25 = .ok (.getfield 19, 3) := by decide +kernel
theorem d12_28 : decode prog_61_method_5_code 28 = .ok (.dcmp .g, 1) := by decide +kernel
theorem d12_29 : decode prog_61_method_5_code 29 = .ok (.ifCond .ge 18, 3) := by decide +kernel
theorem d12_32 : decode prog_61_method_5_code 32 = .ok (.aload_n 0, 1) := by decide +kernel
theorem d12_33 : decode prog_61_method_5_code 33 = .ok (.invokevirtual 72, 3) := by decide +kernel
theorem d12_36 : decode prog_61_method_5_code 36 = .ok (.ifCond .eq 11, 3) := by decide +kernel
theorem d12_39 : decode prog_61_method_5_code 39 = .ok (.aload_n 0, 1) := by decide +kernel
theorem d12_40 : decode prog_61_method_5_code 40 = .ok (.aload_n 0, 1) := by decide +kernel
theorem d12_41 : decode prog_61_method_5_code 41 = .ok (.getfield 11, 3) := by decide +kernel
theorem d12_44 : decode prog_61_method_5_code 44 = .ok (.putfield 19, 3) := by decide +kernel
theorem d12_47 : decode prog_61_method_5_code 47 = .ok (.aload_n 0, 1) := by decide +kernel
theorem d12_48 : decode prog_61_method_5_code 48 = .ok (.dup, 1) := by decide +kernel
theorem d12_49 : decode prog_61_method_5_code 49 = .ok (.getfield 11, 3) := by decide +kernel
theorem d12_52 : decode prog_61_method_5_code 52 = .ok (.aload_n 0, 1) := by decide +kernel
theorem d12_53 : decode prog_61_method_5_code 53 = .ok (.getfield 11, 3) := by decide +kernel
theorem d12_56 : decode prog_61_method_5_code 56 = .ok (.aload_n 0, 1) := by decide +kernel
theorem d12_57 : decode prog_61_method_5_code 57 = .ok (.getfield 19, 3) := by decide +kernel
theorem d12_60 : decode prog_61_method_5_code 60 = .ok (.dcmp .g, 1) := by decide +kernel
theorem d12_61 : decode prog_61_method_5_code 61 = .ok (.ifCond .ge 7, 3) := by decide +kernel
theorem d12_68 : decode prog_61_method_5_code 68 = .ok (.dconst 1, 1) := by decide +kernel
theorem d12_69 : decode prog_61_method_5_code 69 = .ok (.aload_n 0, 1) := by decide +kernel
theorem d12_70 : decode prog_61_method_5_code 70 = .ok (.getfield 11, 3) := by decide +kernel
theorem d12_73 : decode prog_61_method_5_code 73 = .ok (.ddiv, 1) := by decide +kernel
theorem d12_74 : decode prog_61_method_5_code 74 = .ok (.dadd, 1) := by decide +kernel
theorem d12_75 : decode prog_61_method_5_code 75 = .ok (.putfield 11, 3) := by decide +kernel
theorem d12_78 : decode prog_61_method_5_code 78 = .ok (.aload_n 0, 1) := by decide +kernel
theorem d12_79 : decode prog_61_method_5_code 79 = .ok (.aload_n 0, 1) := by decide +kernel
theorem d12_80 : decode prog_61_method_5_code 80 = .ok (.getfield 11, 3) := by decide +kernel
theorem d12_83 : decode prog_61_method_5_code 83 = .ok (.ldc2_w 17, 3) := by decide +kernel
theorem d12_86 : decode prog_61_method_5_code 86 = .ok (.invokestatic 76, 3) := by decide +kernel
theorem d12_89 : decode prog_61_method_5_code 89 = .ok (.putfield 11, 3) := by decide +kernel
theorem d12_92 : decode prog_61_method_5_code 92 = .ok (.return_, 1) := by decide +kernel
theorem ef_12_1 (m : MethodId) (x0 : Addr) : entryFrame m #[(.ref x0), (.long (1 : Int64))] 3 = mkF m 0 #[.val (.ref x0), .val (.long (1 : Int64)), .second] [] := by first | (simp [entryFrame, mkF, argsToLocals, Value.category]; done) | rfl
def Q12_1 (Z : State) (a : Addr) (t1 : Addr) (kt : ClassId) (d : UInt64) (i : Int32) (n1 : Int64) (h0 : Heap) (n0 : Nat) (v : Option Value) (h : Heap) (L : List Loc) : Prop := v = none ∧ Fr n0 L ∧ Keep h0 h [a] ∧ Fld Z h a "com/example/hashmesh/hashmesh/mesh/Congestion" "window" "D" (.double (4611686018427387904 : UInt64)) ∧ Fld Z h a "com/example/hashmesh/hashmesh/mesh/Congestion" "threshold" "D" (.double (4607182418800017408 : UInt64)) ∧ Fld Z h a "com/example/hashmesh/hashmesh/mesh/Congestion" "paceAt" "D" (.double d) ∧ Fld Z h a "com/example/hashmesh/hashmesh/mesh/Congestion" "smoothedRtt" "J" (.long (19 : Int64)) ∧ Fld Z h a "com/example/hashmesh/hashmesh/mesh/Congestion" "leastRtt" "J" (.long (0 : Int64)) ∧ Fld Z h a "com/example/hashmesh/hashmesh/mesh/Congestion" "latestRtts" "[J" (.ref t1) ∧ Fld Z h a "com/example/hashmesh/hashmesh/mesh/Congestion" "nextLatest" "I" (.int (1 : Int32)) ∧ Fld Z h a "com/example/hashmesh/hashmesh/mesh/Congestion" "latestCount" "I" (.int (4 : Int32)) ∧ Fld Z h a "com/example/hashmesh/hashmesh/mesh/Congestion" "rttVariation" "J" (.long (26 : Int64)) ∧ Fld Z h a "com/example/hashmesh/hashmesh/mesh/Congestion" "onTheWay" "I" (.int (i - (1 : Int32))) ∧ Fld Z h a "com/example/hashmesh/hashmesh/mesh/Congestion" "sent" "J" (.long n1) ∧ Fld Z h a "com/example/hashmesh/hashmesh/mesh/Congestion" "shrunkAfter" "J" (.long (0 : Int64))
set_option maxRecDepth 65536 in
set_option maxHeartbeats 40000000 in
theorem rm12_1 (l : Launch) (Z : State) (a0 : Array Value) (hw : ∀ d ∈ tables_1, d.before a0 Z = true) (ws : List Jvm.Cond) (a : Addr) (t1 : Addr) (kt : ClassId) (d : UInt64) (i : Int32) (n1 : Int64) (h0 : Heap) (n0 : Nat) (O0 : Old Z n0 h0) (E_a : Exa Z h0 a "com/example/hashmesh/hashmesh/mesh/Congestion") (F_window_a : Fld Z h0 a "com/example/hashmesh/hashmesh/mesh/Congestion" "window" "D" (.double (4607182418800017408 : UInt64))) (F_threshold_a : Fld Z h0 a "com/example/hashmesh/hashmesh/mesh/Congestion" "threshold" "D" (.double (4617315517961601024 : UInt64))) (F_paceAt_a : Fld Z h0 a "com/example/hashmesh/hashmesh/mesh/Congestion" "paceAt" "D" (.double d)) (F_smoothedRtt_a : Fld Z h0 a "com/example/hashmesh/hashmesh/mesh/Congestion" "smoothedRtt" "J" (.long (19 : Int64))) (F_leastRtt_a : Fld Z h0 a "com/example/hashmesh/hashmesh/mesh/Congestion" "leastRtt" "J" (.long (0 : Int64))) (F_latestRtts_a : Fld Z h0 a "com/example/hashmesh/hashmesh/mesh/Congestion" "latestRtts" "[J" (.ref t1)) (F_nextLatest_a : Fld Z h0 a "com/example/hashmesh/hashmesh/mesh/Congestion" "nextLatest" "I" (.int (1 : Int32))) (F_latestCount_a : Fld Z h0 a "com/example/hashmesh/hashmesh/mesh/Congestion" "latestCount" "I" (.int (4 : Int32))) (F_rttVariation_a : Fld Z h0 a "com/example/hashmesh/hashmesh/mesh/Congestion" "rttVariation" "J" (.long (26 : Int64))) (F_onTheWay_a : Fld Z h0 a "com/example/hashmesh/hashmesh/mesh/Congestion" "onTheWay" "I" (.int i)) (F_sent_a : Fld Z h0 a "com/example/hashmesh/hashmesh/mesh/Congestion" "sent" "J" (.long n1)) (F_shrunkAfter_a : Fld Z h0 a "com/example/hashmesh/hashmesh/mesh/Congestion" "shrunkAfter" "J" (.long (0 : Int64))) (V_t1 : Arv Z h0 t1 kt .long (4 : Int32) [(.long (50 : Int64)), (.long (50 : Int64)), (.long (50 : Int64)), (.long (50 : Int64))] (.long (0 : Int64))) (g_a : n0 ≤ a) :
    MetFree l (⟨"com/example/hashmesh/hashmesh/mesh/Congestion", "taken", "(J)V"⟩ : MethodName) (head1 (Jvm.Cond.code (⟨"com/example/hashmesh/hashmesh/mesh/Congestion", "taken", "(J)V"⟩ : MethodName) prog_61_method_5_code 3 none :: ws) ({ frames := 2, cells := 0, slots := 0, locals := 30 } : Room)) (fun aA uU => aA = #[(.ref a), (.long (1 : Int64))] ∧ Z.Warmed39 uU.vm ∧ uU.heap = h0) (fun _ _ _ _ _ => True) (fun _ uU oO uU' => ∃ vV lL, oO = .returned vV ∧ Q12_1 Z a t1 kt d i n1  h0 n0 vV uU'.heap lL ∧ FrameEnd uU oO uU' lL ({ frames := 2, cells := 0, slots := 0, locals := 30 } : Room).cells ({ frames := 2, cells := 0, slots := 0, locals := 30 } : Room).slots) := by
  refine MetFree.of_bodySF (plainFor_of_name pn_com_example_hashmesh_hashmesh_mesh_Congestion) hisR ?_
  intro p e s m args below meth c s₁ Bd hml0 hP hK
  obtain ⟨rfl, hZ, hh⟩ := hP
  have hx := Bd.exec
  have hby := Bd.bytes
  have hml : c.maxLocals = 3 := hml0
  have hown : s.vm.findClass "com/example/hashmesh/hashmesh/mesh/Congestion" = some m.cls := findClass_of_methodNamed Bd.named
  have hnm := (name_of_methodNamed Bd.named Bd.method).1
  have X0 : Stand p l e ({ frames := 2, cells := 0, slots := 0, locals := 30 } : Room) s m #[(.ref a), (.long (1 : Int64))] below meth c s₁ [] 0 0 := Stand.of_body Bd
  have e0 : s₁.heap = h0 := by rw [← hh, Bd.state]; rfl
  have N0 := Fr.nil n0
  have O := O0
  have K := Keep.refl h0 [a]
  have pre0 : ∀ t, Steps p.tables e below (s₁.setTop (mkF m 0 #[.val (.ref a), .val (.long (1 : Int64)), .second] [])) t → Steps p.tables e below (s₁.setTop (entryFrame m #[(.ref a), (.long (1 : Int64))] 3)) t := fun t k => castTop (ef_12_1 m a) k
  obtain ⟨T1, X1, e1, st1⟩ := getF X0 hx hZ hown (host := "") (Or.inl (hw _ (List.mem_of_getElem? (i := 78) rfl))) Via.refl e0 F_onTheWay_a (g := (mkF m 2 #[.val (.ref a), .val (.long (1 : Int64)), .second] [(.ref a), (.ref a)])) rfl rfl (hb hby d12_2)
  have ne_t1_a : t1 ≠ a := (Ne.symm (Exa.neArv E_a V_t1 (hw _ (List.mem_of_getElem? (i := 5) rfl))))
  obtain ⟨T2, h2, X2, e2, W2, st2⟩ := putF X1 hx hZ hown (host := "") (Or.inl (hw _ (List.mem_of_getElem? (i := 78) rfl))) Via.refl e1 F_onTheWay_a E_a (Or.inl (hw _ (List.mem_of_getElem? (i := 79) rfl))) (hw _ (List.mem_of_getElem? (i := 5) rfl)) (ty := .int) (by decide) rfl rfl (g := (mkF m 7 #[.val (.ref a), .val (.long (1 : Int64)), .second] [(.int (i - (1 : Int32))), (.ref a)])) rfl rfl (hb hby d12_7)
  have F_onTheWay_a := F_onTheWay_a.same W2
  have E_a := E_a.wr W2
  have F_window_a := F_window_a.other W2 (Or.inr (slot_ne (Or.inl (hw _ (List.mem_of_getElem? (i := 15) rfl))) (Or.inl (hw _ (List.mem_of_getElem? (i := 79) rfl))) (by decide) (t := .double) (t' := .int) (by decide) (by decide)))
  have F_threshold_a := F_threshold_a.other W2 (Or.inr (slot_ne (Or.inl (hw _ (List.mem_of_getElem? (i := 18) rfl))) (Or.inl (hw _ (List.mem_of_getElem? (i := 79) rfl))) (by decide) (t := .double) (t' := .int) (by decide) (by decide)))
  have F_paceAt_a := F_paceAt_a.other W2 (Or.inr (slot_ne (Or.inl (hw _ (List.mem_of_getElem? (i := 21) rfl))) (Or.inl (hw _ (List.mem_of_getElem? (i := 79) rfl))) (by decide) (t := .double) (t' := .int) (by decide) (by decide)))
  have F_smoothedRtt_a := F_smoothedRtt_a.other W2 (Or.inr (slot_ne (Or.inl (hw _ (List.mem_of_getElem? (i := 24) rfl))) (Or.inl (hw _ (List.mem_of_getElem? (i := 79) rfl))) (by decide) (t := .long) (t' := .int) (by decide) (by decide)))
  have F_leastRtt_a := F_leastRtt_a.other W2 (Or.inr (slot_ne (Or.inl (hw _ (List.mem_of_getElem? (i := 27) rfl))) (Or.inl (hw _ (List.mem_of_getElem? (i := 79) rfl))) (by decide) (t := .long) (t' := .int) (by decide) (by decide)))
  have F_latestRtts_a := F_latestRtts_a.other W2 (Or.inr (slot_ne (Or.inr (hw _ (List.mem_of_getElem? (i := 30) rfl))) (Or.inl (hw _ (List.mem_of_getElem? (i := 79) rfl))) (by decide) (t := (.array .long)) (t' := .int) (by decide) (by decide)))
  have F_nextLatest_a := F_nextLatest_a.other W2 (Or.inr (slot_ne (Or.inl (hw _ (List.mem_of_getElem? (i := 40) rfl))) (Or.inl (hw _ (List.mem_of_getElem? (i := 79) rfl))) (by decide) (t := .int) (t' := .int) (by decide) (by decide)))
  have F_latestCount_a := F_latestCount_a.other W2 (Or.inr (slot_ne (Or.inl (hw _ (List.mem_of_getElem? (i := 42) rfl))) (Or.inl (hw _ (List.mem_of_getElem? (i := 79) rfl))) (by decide) (t := .int) (t' := .int) (by decide) (by decide)))
  have F_rttVariation_a := F_rttVariation_a.other W2 (Or.inr (slot_ne (Or.inl (hw _ (List.mem_of_getElem? (i := 46) rfl))) (Or.inl (hw _ (List.mem_of_getElem? (i := 79) rfl))) (by decide) (t := .long) (t' := .int) (by decide) (by decide)))
  have F_sent_a := F_sent_a.other W2 (Or.inr (slot_ne (Or.inl (hw _ (List.mem_of_getElem? (i := 70) rfl))) (Or.inl (hw _ (List.mem_of_getElem? (i := 79) rfl))) (by decide) (t := .long) (t' := .int) (by decide) (by decide)))
  have F_shrunkAfter_a := F_shrunkAfter_a.other W2 (Or.inr (slot_ne (Or.inl (hw _ (List.mem_of_getElem? (i := 72) rfl))) (Or.inl (hw _ (List.mem_of_getElem? (i := 79) rfl))) (by decide) (t := .long) (t' := .int) (by decide) (by decide)))
  have V_t1 := V_t1.other W2 ne_t1_a
  have O := O.wr W2 g_a
  have K := K.wr W2 (Or.inl (List.mem_of_getElem? (i := 0) rfl))
  have N2 := Fr.snoc X2 N0 g_a
  obtain ⟨T3, X3, e3, st3⟩ := getF X2 hx hZ hown (host := "") (Or.inl (hw _ (List.mem_of_getElem? (i := 71) rfl))) Via.refl e2 F_shrunkAfter_a (g := (mkF m 12 #[.val (.ref a), .val (.long (1 : Int64)), .second] [(.ref a), (.long (1 : Int64))])) rfl rfl (hb hby d12_12)
  obtain ⟨T4, X4, e4, st4⟩ := getF X3 hx hZ hown (host := "") (Or.inl (hw _ (List.mem_of_getElem? (i := 14) rfl))) Via.refl e3 F_window_a (g := (mkF m 21 #[.val (.ref a), .val (.long (1 : Int64)), .second] [(.ref a)])) rfl rfl (hb hby d12_21)
  obtain ⟨T5, X5, e5, st5⟩ := getF X4 hx hZ hown (host := "") (Or.inl (hw _ (List.mem_of_getElem? (i := 17) rfl))) Via.refl e4 F_threshold_a (g := (mkF m 25 #[.val (.ref a), .val (.long (1 : Int64)), .second] [(.ref a), (.double (4607182418800017408 : UInt64))])) rfl rfl (hb hby d12_25)
  obtain ⟨cq6, q6, q6'⟩ := E_a.cell
  obtain ⟨_, _, ⟨T6, L6, k6, n6⟩, -, X6, ⟨Lc6, hQ6, l6, y6, z6⟩, st6⟩ := X5.privateBack hx (y := (⟨"com/example/hashmesh/hashmesh/mesh/Congestion", "queueShows", "()Z"⟩ : MethodName)) hown (mvT hZ (hw _ (List.mem_of_getElem? (i := 60) rfl))) (mvT hZ (hw _ (List.mem_of_getElem? (i := 61) rfl))) (mvT hZ (own_selP (y := (⟨"com/example/hashmesh/hashmesh/mesh/Congestion", "queueShows", "()Z"⟩ : MethodName)) (hw _ (List.mem_of_getElem? (i := 5) rfl)) (hw _ (List.mem_of_getElem? (i := 62) rfl)) (hw _ (List.mem_of_getElem? (i := 61) rfl)) (by decide))) (Cond.privateMethod_at (mvP hZ (hw _ (List.mem_of_getElem? (i := 62) rfl)) (args := #[]))) (mvT hZ (hw _ (List.mem_of_getElem? (i := 63) rfl))) (by decide) (backOf (W := 0) (rm8 l Z a0 hw [] a t1 kt h2 n0 O E_a F_leastRtt_a F_latestRtts_a F_latestCount_a V_t1) hZ (hw _ (List.mem_of_getElem? (i := 63) rfl)) (hw _ (List.mem_of_getElem? (i := 6) rfl)) (by decide) (by decide)) (g := (mkF m 33 #[.val (.ref a), .val (.long (1 : Int64)), .second] [(.ref a)])) rfl (by rw [hml]; rfl) (Steps.refl _) (a := a) (by rw [e5]; exact q6) q6' (argsL := []) (rest := []) (lenOf pd__40_41Z rfl) rfl (by show 2 * 0 + _ ≤ _; exact Nat.le_of_eq rfl) (hb hby d12_33) (fun _ _ => ⟨rfl, e5, (by decide : 0 + 0 ≤ _), (by decide : 0 + 0 ≤ _)⟩)
  dsimp only [Pt.U, Pt.locs, Pt.cells, Pt.slots] at X6 l6 y6 z6 st6 hQ6
  subst l6 y6 z6
  obtain ⟨rfl, N6q, eh6⟩ := hQ6
  have N6 := Fr.app N2 N6q
  obtain ⟨T7, X7, e7, st7⟩ := getF X6 hx hZ hown (host := "") (Or.inl (hw _ (List.mem_of_getElem? (i := 14) rfl))) Via.refl eh6 F_window_a (g := (mkF m 41 #[.val (.ref a), .val (.long (1 : Int64)), .second] [(.ref a), (.ref a)])) rfl rfl (hb hby d12_41)
  obtain ⟨T8, h8, X8, e8, W8, st8⟩ := putF X7 hx hZ hown (host := "") (Or.inl (hw _ (List.mem_of_getElem? (i := 17) rfl))) Via.refl e7 F_threshold_a E_a (Or.inl (hw _ (List.mem_of_getElem? (i := 18) rfl))) (hw _ (List.mem_of_getElem? (i := 5) rfl)) (ty := .double) (by decide) rfl rfl (g := (mkF m 44 #[.val (.ref a), .val (.long (1 : Int64)), .second] [(.double (4607182418800017408 : UInt64)), (.ref a)])) rfl rfl (hb hby d12_44)
  have F_threshold_a := F_threshold_a.same W8
  have E_a := E_a.wr W8
  have F_window_a := F_window_a.other W8 (Or.inr (slot_ne (Or.inl (hw _ (List.mem_of_getElem? (i := 15) rfl))) (Or.inl (hw _ (List.mem_of_getElem? (i := 18) rfl))) (by decide) (t := .double) (t' := .double) (by decide) (by decide)))
  have F_paceAt_a := F_paceAt_a.other W8 (Or.inr (slot_ne (Or.inl (hw _ (List.mem_of_getElem? (i := 21) rfl))) (Or.inl (hw _ (List.mem_of_getElem? (i := 18) rfl))) (by decide) (t := .double) (t' := .double) (by decide) (by decide)))
  have F_smoothedRtt_a := F_smoothedRtt_a.other W8 (Or.inr (slot_ne (Or.inl (hw _ (List.mem_of_getElem? (i := 24) rfl))) (Or.inl (hw _ (List.mem_of_getElem? (i := 18) rfl))) (by decide) (t := .long) (t' := .double) (by decide) (by decide)))
  have F_leastRtt_a := F_leastRtt_a.other W8 (Or.inr (slot_ne (Or.inl (hw _ (List.mem_of_getElem? (i := 27) rfl))) (Or.inl (hw _ (List.mem_of_getElem? (i := 18) rfl))) (by decide) (t := .long) (t' := .double) (by decide) (by decide)))
  have F_latestRtts_a := F_latestRtts_a.other W8 (Or.inr (slot_ne (Or.inr (hw _ (List.mem_of_getElem? (i := 30) rfl))) (Or.inl (hw _ (List.mem_of_getElem? (i := 18) rfl))) (by decide) (t := (.array .long)) (t' := .double) (by decide) (by decide)))
  have F_nextLatest_a := F_nextLatest_a.other W8 (Or.inr (slot_ne (Or.inl (hw _ (List.mem_of_getElem? (i := 40) rfl))) (Or.inl (hw _ (List.mem_of_getElem? (i := 18) rfl))) (by decide) (t := .int) (t' := .double) (by decide) (by decide)))
  have F_latestCount_a := F_latestCount_a.other W8 (Or.inr (slot_ne (Or.inl (hw _ (List.mem_of_getElem? (i := 42) rfl))) (Or.inl (hw _ (List.mem_of_getElem? (i := 18) rfl))) (by decide) (t := .int) (t' := .double) (by decide) (by decide)))
  have F_rttVariation_a := F_rttVariation_a.other W8 (Or.inr (slot_ne (Or.inl (hw _ (List.mem_of_getElem? (i := 46) rfl))) (Or.inl (hw _ (List.mem_of_getElem? (i := 18) rfl))) (by decide) (t := .long) (t' := .double) (by decide) (by decide)))
  have F_onTheWay_a := F_onTheWay_a.other W8 (Or.inr (slot_ne (Or.inl (hw _ (List.mem_of_getElem? (i := 79) rfl))) (Or.inl (hw _ (List.mem_of_getElem? (i := 18) rfl))) (by decide) (t := .int) (t' := .double) (by decide) (by decide)))
  have F_sent_a := F_sent_a.other W8 (Or.inr (slot_ne (Or.inl (hw _ (List.mem_of_getElem? (i := 70) rfl))) (Or.inl (hw _ (List.mem_of_getElem? (i := 18) rfl))) (by decide) (t := .long) (t' := .double) (by decide) (by decide)))
  have F_shrunkAfter_a := F_shrunkAfter_a.other W8 (Or.inr (slot_ne (Or.inl (hw _ (List.mem_of_getElem? (i := 72) rfl))) (Or.inl (hw _ (List.mem_of_getElem? (i := 18) rfl))) (by decide) (t := .long) (t' := .double) (by decide) (by decide)))
  have V_t1 := V_t1.other W8 ne_t1_a
  have O := O.wr W8 g_a
  have K := K.wr W8 (Or.inl (List.mem_of_getElem? (i := 0) rfl))
  have N8 := Fr.snoc X8 N6 g_a
  obtain ⟨T9, X9, e9, st9⟩ := getF X8 hx hZ hown (host := "") (Or.inl (hw _ (List.mem_of_getElem? (i := 14) rfl))) Via.refl e8 F_window_a (g := (mkF m 49 #[.val (.ref a), .val (.long (1 : Int64)), .second] [(.ref a), (.ref a)])) rfl rfl (hb hby d12_49)
  obtain ⟨T10, X10, e10, st10⟩ := getF X9 hx hZ hown (host := "") (Or.inl (hw _ (List.mem_of_getElem? (i := 14) rfl))) Via.refl e9 F_window_a (g := (mkF m 53 #[.val (.ref a), .val (.long (1 : Int64)), .second] [(.ref a), (.double (4607182418800017408 : UInt64)), (.ref a)])) rfl rfl (hb hby d12_53)
  obtain ⟨T11, X11, e11, st11⟩ := getF X10 hx hZ hown (host := "") (Or.inl (hw _ (List.mem_of_getElem? (i := 17) rfl))) Via.refl e10 F_threshold_a (g := (mkF m 57 #[.val (.ref a), .val (.long (1 : Int64)), .second] [(.ref a), (.double (4607182418800017408 : UInt64)), (.double (4607182418800017408 : UInt64)), (.ref a)])) rfl rfl (hb hby d12_57)
  obtain ⟨T12, X12, e12, st12⟩ := getF X11 hx hZ hown (host := "") (Or.inl (hw _ (List.mem_of_getElem? (i := 14) rfl))) Via.refl e11 F_window_a (g := (mkF m 70 #[.val (.ref a), .val (.long (1 : Int64)), .second] [(.ref a), (.double (4607182418800017408 : UInt64)), (.double (4607182418800017408 : UInt64)), (.ref a)])) rfl rfl (hb hby d12_70)
  obtain ⟨T13, h13, X13, e13, W13, st13⟩ := putF X12 hx hZ hown (host := "") (Or.inl (hw _ (List.mem_of_getElem? (i := 14) rfl))) Via.refl e12 F_window_a E_a (Or.inl (hw _ (List.mem_of_getElem? (i := 15) rfl))) (hw _ (List.mem_of_getElem? (i := 5) rfl)) (ty := .double) (by decide) rfl rfl (g := (mkF m 75 #[.val (.ref a), .val (.long (1 : Int64)), .second] [(.double (4611686018427387904 : UInt64)), (.ref a)])) rfl rfl (hb hby d12_75)
  have F_window_a := F_window_a.same W13
  have E_a := E_a.wr W13
  have F_threshold_a := F_threshold_a.other W13 (Or.inr (slot_ne (Or.inl (hw _ (List.mem_of_getElem? (i := 18) rfl))) (Or.inl (hw _ (List.mem_of_getElem? (i := 15) rfl))) (by decide) (t := .double) (t' := .double) (by decide) (by decide)))
  have F_paceAt_a := F_paceAt_a.other W13 (Or.inr (slot_ne (Or.inl (hw _ (List.mem_of_getElem? (i := 21) rfl))) (Or.inl (hw _ (List.mem_of_getElem? (i := 15) rfl))) (by decide) (t := .double) (t' := .double) (by decide) (by decide)))
  have F_smoothedRtt_a := F_smoothedRtt_a.other W13 (Or.inr (slot_ne (Or.inl (hw _ (List.mem_of_getElem? (i := 24) rfl))) (Or.inl (hw _ (List.mem_of_getElem? (i := 15) rfl))) (by decide) (t := .long) (t' := .double) (by decide) (by decide)))
  have F_leastRtt_a := F_leastRtt_a.other W13 (Or.inr (slot_ne (Or.inl (hw _ (List.mem_of_getElem? (i := 27) rfl))) (Or.inl (hw _ (List.mem_of_getElem? (i := 15) rfl))) (by decide) (t := .long) (t' := .double) (by decide) (by decide)))
  have F_latestRtts_a := F_latestRtts_a.other W13 (Or.inr (slot_ne (Or.inr (hw _ (List.mem_of_getElem? (i := 30) rfl))) (Or.inl (hw _ (List.mem_of_getElem? (i := 15) rfl))) (by decide) (t := (.array .long)) (t' := .double) (by decide) (by decide)))
  have F_nextLatest_a := F_nextLatest_a.other W13 (Or.inr (slot_ne (Or.inl (hw _ (List.mem_of_getElem? (i := 40) rfl))) (Or.inl (hw _ (List.mem_of_getElem? (i := 15) rfl))) (by decide) (t := .int) (t' := .double) (by decide) (by decide)))
  have F_latestCount_a := F_latestCount_a.other W13 (Or.inr (slot_ne (Or.inl (hw _ (List.mem_of_getElem? (i := 42) rfl))) (Or.inl (hw _ (List.mem_of_getElem? (i := 15) rfl))) (by decide) (t := .int) (t' := .double) (by decide) (by decide)))
  have F_rttVariation_a := F_rttVariation_a.other W13 (Or.inr (slot_ne (Or.inl (hw _ (List.mem_of_getElem? (i := 46) rfl))) (Or.inl (hw _ (List.mem_of_getElem? (i := 15) rfl))) (by decide) (t := .long) (t' := .double) (by decide) (by decide)))
  have F_onTheWay_a := F_onTheWay_a.other W13 (Or.inr (slot_ne (Or.inl (hw _ (List.mem_of_getElem? (i := 79) rfl))) (Or.inl (hw _ (List.mem_of_getElem? (i := 15) rfl))) (by decide) (t := .int) (t' := .double) (by decide) (by decide)))
  have F_sent_a := F_sent_a.other W13 (Or.inr (slot_ne (Or.inl (hw _ (List.mem_of_getElem? (i := 70) rfl))) (Or.inl (hw _ (List.mem_of_getElem? (i := 15) rfl))) (by decide) (t := .long) (t' := .double) (by decide) (by decide)))
  have F_shrunkAfter_a := F_shrunkAfter_a.other W13 (Or.inr (slot_ne (Or.inl (hw _ (List.mem_of_getElem? (i := 72) rfl))) (Or.inl (hw _ (List.mem_of_getElem? (i := 15) rfl))) (by decide) (t := .long) (t' := .double) (by decide) (by decide)))
  have V_t1 := V_t1.other W13 ne_t1_a
  have O := O.wr W13 g_a
  have K := K.wr W13 (Or.inl (List.mem_of_getElem? (i := 0) rfl))
  have N13 := Fr.snoc X13 N8 g_a
  obtain ⟨T14, X14, e14, st14⟩ := getF X13 hx hZ hown (host := "") (Or.inl (hw _ (List.mem_of_getElem? (i := 14) rfl))) Via.refl e13 F_window_a (g := (mkF m 80 #[.val (.ref a), .val (.long (1 : Int64)), .second] [(.ref a), (.ref a)])) rfl rfl (hb hby d12_80)
  obtain ⟨_, vm15, ⟨T15, L15, k15, n15⟩, -, X15, ⟨rfl, hB15⟩, st15⟩ := Jvm.LawKit.callS X14 hx (y := (⟨"java/lang/Math", "min", "(DD)D"⟩ : MethodName)) hown (mvT hZ (hw _ (List.mem_of_getElem? (i := 91) rfl))) (mvT hZ (hw _ (List.mem_of_getElem? (i := 92) rfl))) (mvT hZ (hw _ (List.mem_of_getElem? (i := 2) rfl))) (mvT hZ (hw _ (List.mem_of_getElem? (i := 93) rfl))) (by decide) (Jvm.Free.Fl.Abs.minD_pays (W := 1) (4611686018427387904 : UInt64) (4634204016564240384 : UInt64) (mvT hZ (hw _ (List.mem_of_getElem? (i := 93) rfl))) (by decide) (by decide)) (g := (mkF m 86 #[.val (.ref a), .val (.long (1 : Int64)), .second] [(.double (4634204016564240384 : UInt64)), (.double (4611686018427387904 : UInt64)), (.ref a)])) rfl (by rw [hml]; rfl) (argsL := [(.double (4611686018427387904 : UInt64)), (.double (4634204016564240384 : UInt64))]) (rest := [(.ref a)]) (lenOf pd__40DD_41D rfl) rfl (by show 2 * 0 + _ ≤ _; exact Nat.le_of_eq rfl) (hb hby d12_86) (fun _ _ => ⟨(by decide : 0 ≤ _), (by decide : 0 ≤ _), rfl, (show (4611686018427387904 : UInt64) &&& 0x7fffffffffffffff ≤ 0x7ff0000000000000 by decide +kernel), (show (4634204016564240384 : UInt64) &&& 0x7fffffffffffffff ≤ 0x7ff0000000000000 by decide +kernel)⟩)
  cases hB15
  dsimp only [Pt.U, Pt.locs, Pt.cells, Pt.slots] at X15 st15
  have eh15 : (T14.setVm vm15).heap = h13 := e14
  obtain ⟨T16, h16, X16, e16, W16, st16⟩ := putF X15 hx hZ hown (host := "") (Or.inl (hw _ (List.mem_of_getElem? (i := 14) rfl))) Via.refl eh15 F_window_a E_a (Or.inl (hw _ (List.mem_of_getElem? (i := 15) rfl))) (hw _ (List.mem_of_getElem? (i := 5) rfl)) (ty := .double) (by decide) rfl rfl (g := (mkF m 89 #[.val (.ref a), .val (.long (1 : Int64)), .second] [(.double (4611686018427387904 : UInt64)), (.ref a)])) rfl rfl (hb hby d12_89)
  have F_window_a := F_window_a.same W16
  have E_a := E_a.wr W16
  have F_threshold_a := F_threshold_a.other W16 (Or.inr (slot_ne (Or.inl (hw _ (List.mem_of_getElem? (i := 18) rfl))) (Or.inl (hw _ (List.mem_of_getElem? (i := 15) rfl))) (by decide) (t := .double) (t' := .double) (by decide) (by decide)))
  have F_paceAt_a := F_paceAt_a.other W16 (Or.inr (slot_ne (Or.inl (hw _ (List.mem_of_getElem? (i := 21) rfl))) (Or.inl (hw _ (List.mem_of_getElem? (i := 15) rfl))) (by decide) (t := .double) (t' := .double) (by decide) (by decide)))
  have F_smoothedRtt_a := F_smoothedRtt_a.other W16 (Or.inr (slot_ne (Or.inl (hw _ (List.mem_of_getElem? (i := 24) rfl))) (Or.inl (hw _ (List.mem_of_getElem? (i := 15) rfl))) (by decide) (t := .long) (t' := .double) (by decide) (by decide)))
  have F_leastRtt_a := F_leastRtt_a.other W16 (Or.inr (slot_ne (Or.inl (hw _ (List.mem_of_getElem? (i := 27) rfl))) (Or.inl (hw _ (List.mem_of_getElem? (i := 15) rfl))) (by decide) (t := .long) (t' := .double) (by decide) (by decide)))
  have F_latestRtts_a := F_latestRtts_a.other W16 (Or.inr (slot_ne (Or.inr (hw _ (List.mem_of_getElem? (i := 30) rfl))) (Or.inl (hw _ (List.mem_of_getElem? (i := 15) rfl))) (by decide) (t := (.array .long)) (t' := .double) (by decide) (by decide)))
  have F_nextLatest_a := F_nextLatest_a.other W16 (Or.inr (slot_ne (Or.inl (hw _ (List.mem_of_getElem? (i := 40) rfl))) (Or.inl (hw _ (List.mem_of_getElem? (i := 15) rfl))) (by decide) (t := .int) (t' := .double) (by decide) (by decide)))
  have F_latestCount_a := F_latestCount_a.other W16 (Or.inr (slot_ne (Or.inl (hw _ (List.mem_of_getElem? (i := 42) rfl))) (Or.inl (hw _ (List.mem_of_getElem? (i := 15) rfl))) (by decide) (t := .int) (t' := .double) (by decide) (by decide)))
  have F_rttVariation_a := F_rttVariation_a.other W16 (Or.inr (slot_ne (Or.inl (hw _ (List.mem_of_getElem? (i := 46) rfl))) (Or.inl (hw _ (List.mem_of_getElem? (i := 15) rfl))) (by decide) (t := .long) (t' := .double) (by decide) (by decide)))
  have F_onTheWay_a := F_onTheWay_a.other W16 (Or.inr (slot_ne (Or.inl (hw _ (List.mem_of_getElem? (i := 79) rfl))) (Or.inl (hw _ (List.mem_of_getElem? (i := 15) rfl))) (by decide) (t := .int) (t' := .double) (by decide) (by decide)))
  have F_sent_a := F_sent_a.other W16 (Or.inr (slot_ne (Or.inl (hw _ (List.mem_of_getElem? (i := 70) rfl))) (Or.inl (hw _ (List.mem_of_getElem? (i := 15) rfl))) (by decide) (t := .long) (t' := .double) (by decide) (by decide)))
  have F_shrunkAfter_a := F_shrunkAfter_a.other W16 (Or.inr (slot_ne (Or.inl (hw _ (List.mem_of_getElem? (i := 72) rfl))) (Or.inl (hw _ (List.mem_of_getElem? (i := 15) rfl))) (by decide) (t := .long) (t' := .double) (by decide) (by decide)))
  have V_t1 := V_t1.other W16 ne_t1_a
  have O := O.wr W16 g_a
  have K := K.wr W16 (Or.inl (List.mem_of_getElem? (i := 0) rfl))
  have N16 := Fr.snoc X16 N13 g_a
  have w17 : ∀ t, Steps p.tables e below (T16.setTop (mkF m 92 #[.val (.ref a), .val (.long (1 : Int64)), .second] [])) t → Steps p.tables e below (s₁.setTop (entryFrame m #[(.ref a), (.long (1 : Int64))] 3)) t := fun t k => by
    refine pre0 t ?_
    refine XS.aloadN X0.here hx rfl (hb hby d12_0) rfl rfl ?_
    show Steps p.tables e below (s₁.setTop (mkF m 1 #[.val (.ref a), .val (.long (1 : Int64)), .second] [(.ref a)])) _
    refine XS.dup X0.here hx rfl (hb hby d12_1) rfl rfl ?_
    show Steps p.tables e below (s₁.setTop (mkF m 2 #[.val (.ref a), .val (.long (1 : Int64)), .second] [(.ref a), (.ref a)])) _
    refine st1 _ ?_
    show Steps p.tables e below (T1.setTop (mkF m 5 #[.val (.ref a), .val (.long (1 : Int64)), .second] [(.int i), (.ref a)])) _
    refine XS.iconst X1.here hx rfl (hb hby d12_5) ?_
    show Steps p.tables e below (T1.setTop (mkF m 6 #[.val (.ref a), .val (.long (1 : Int64)), .second] [(.int (1 : Int32)), (.int i), (.ref a)])) _
    refine XS.isub X1.here hx rfl (hb hby d12_6) rfl ?_
    show Steps p.tables e below (T1.setTop (mkF m 7 #[.val (.ref a), .val (.long (1 : Int64)), .second] [(.int (i - (1 : Int32))), (.ref a)])) _
    refine st2 _ ?_
    show Steps p.tables e below (T2.setTop (mkF m 10 #[.val (.ref a), .val (.long (1 : Int64)), .second] [])) _
    refine XS.lloadN X2.here hx rfl (hb hby d12_10) rfl ?_
    show Steps p.tables e below (T2.setTop (mkF m 11 #[.val (.ref a), .val (.long (1 : Int64)), .second] [(.long (1 : Int64))])) _
    refine XS.aloadN X2.here hx rfl (hb hby d12_11) rfl rfl ?_
    show Steps p.tables e below (T2.setTop (mkF m 12 #[.val (.ref a), .val (.long (1 : Int64)), .second] [(.ref a), (.long (1 : Int64))])) _
    refine st3 _ ?_
    show Steps p.tables e below (T3.setTop (mkF m 15 #[.val (.ref a), .val (.long (1 : Int64)), .second] [(.long (0 : Int64)), (.long (1 : Int64))])) _
    refine XS.lcmp X3.here hx rfl (hb hby d12_15) rfl ?_
    show Steps p.tables e below (T3.setTop (mkF m 16 #[.val (.ref a), .val (.long (1 : Int64)), .second] [(.int (1 : Int32))])) _
    refine XS.ifYes X3.here hx rfl (pc0 := 16) (pc' := 20) rfl (hb hby d12_16) rfl ((if0 _ _).trans (tlt ((by decide) : (0 : Int32) < (1 : Int32))).2.2.1) (by decide) (by decide) ?_
    show Steps p.tables e below (T3.setTop (mkF m 20 #[.val (.ref a), .val (.long (1 : Int64)), .second] [])) _
    refine XS.aloadN X3.here hx rfl (hb hby d12_20) rfl rfl ?_
    show Steps p.tables e below (T3.setTop (mkF m 21 #[.val (.ref a), .val (.long (1 : Int64)), .second] [(.ref a)])) _
    refine st4 _ ?_
    show Steps p.tables e below (T4.setTop (mkF m 24 #[.val (.ref a), .val (.long (1 : Int64)), .second] [(.double (4607182418800017408 : UInt64))])) _
    refine XS.aloadN X4.here hx rfl (hb hby d12_24) rfl rfl ?_
    show Steps p.tables e below (T4.setTop (mkF m 25 #[.val (.ref a), .val (.long (1 : Int64)), .second] [(.ref a), (.double (4607182418800017408 : UInt64))])) _
    refine st5 _ ?_
    show Steps p.tables e below (T5.setTop (mkF m 28 #[.val (.ref a), .val (.long (1 : Int64)), .second] [(.double (4617315517961601024 : UInt64)), (.double (4607182418800017408 : UInt64))])) _
    refine XS.dcmpS X5.here hx rfl (hb hby d12_28) rfl (v := (-1 : Int32)) (by decide +kernel) ?_
    show Steps p.tables e below (T5.setTop (mkF m 29 #[.val (.ref a), .val (.long (1 : Int64)), .second] [(.int (-1 : Int32))])) _
    refine XS.ifNo X5.here hx rfl (hb hby d12_29) rfl ((if0 _ _).trans (tlt ((by decide) : (-1 : Int32) < (0 : Int32))).2.1) ?_
    show Steps p.tables e below (T5.setTop (mkF m 32 #[.val (.ref a), .val (.long (1 : Int64)), .second] [])) _
    refine XS.aloadN X5.here hx rfl (hb hby d12_32) rfl rfl ?_
    show Steps p.tables e below (T5.setTop (mkF m 33 #[.val (.ref a), .val (.long (1 : Int64)), .second] [(.ref a)])) _
    refine st6.trans ?_
    show Steps p.tables e below (T6.setTop (mkF m 36 #[.val (.ref a), .val (.long (1 : Int64)), .second] [(.int (1 : Int32))])) _
    refine XS.ifNo X6.here hx rfl (hb hby d12_36) rfl ((if0 _ _).trans (feq ((by decide) : ¬ ((1 : Int32) = (0 : Int32)))).1) ?_
    show Steps p.tables e below (T6.setTop (mkF m 39 #[.val (.ref a), .val (.long (1 : Int64)), .second] [])) _
    refine XS.aloadN X6.here hx rfl (hb hby d12_39) rfl rfl ?_
    show Steps p.tables e below (T6.setTop (mkF m 40 #[.val (.ref a), .val (.long (1 : Int64)), .second] [(.ref a)])) _
    refine XS.aloadN X6.here hx rfl (hb hby d12_40) rfl rfl ?_
    show Steps p.tables e below (T6.setTop (mkF m 41 #[.val (.ref a), .val (.long (1 : Int64)), .second] [(.ref a), (.ref a)])) _
    refine st7 _ ?_
    show Steps p.tables e below (T7.setTop (mkF m 44 #[.val (.ref a), .val (.long (1 : Int64)), .second] [(.double (4607182418800017408 : UInt64)), (.ref a)])) _
    refine st8 _ ?_
    show Steps p.tables e below (T8.setTop (mkF m 47 #[.val (.ref a), .val (.long (1 : Int64)), .second] [])) _
    refine XS.aloadN X8.here hx rfl (hb hby d12_47) rfl rfl ?_
    show Steps p.tables e below (T8.setTop (mkF m 48 #[.val (.ref a), .val (.long (1 : Int64)), .second] [(.ref a)])) _
    refine XS.dup X8.here hx rfl (hb hby d12_48) rfl rfl ?_
    show Steps p.tables e below (T8.setTop (mkF m 49 #[.val (.ref a), .val (.long (1 : Int64)), .second] [(.ref a), (.ref a)])) _
    refine st9 _ ?_
    show Steps p.tables e below (T9.setTop (mkF m 52 #[.val (.ref a), .val (.long (1 : Int64)), .second] [(.double (4607182418800017408 : UInt64)), (.ref a)])) _
    refine XS.aloadN X9.here hx rfl (hb hby d12_52) rfl rfl ?_
    show Steps p.tables e below (T9.setTop (mkF m 53 #[.val (.ref a), .val (.long (1 : Int64)), .second] [(.ref a), (.double (4607182418800017408 : UInt64)), (.ref a)])) _
    refine st10 _ ?_
    show Steps p.tables e below (T10.setTop (mkF m 56 #[.val (.ref a), .val (.long (1 : Int64)), .second] [(.double (4607182418800017408 : UInt64)), (.double (4607182418800017408 : UInt64)), (.ref a)])) _
    refine XS.aloadN X10.here hx rfl (hb hby d12_56) rfl rfl ?_
    show Steps p.tables e below (T10.setTop (mkF m 57 #[.val (.ref a), .val (.long (1 : Int64)), .second] [(.ref a), (.double (4607182418800017408 : UInt64)), (.double (4607182418800017408 : UInt64)), (.ref a)])) _
    refine st11 _ ?_
    show Steps p.tables e below (T11.setTop (mkF m 60 #[.val (.ref a), .val (.long (1 : Int64)), .second] [(.double (4607182418800017408 : UInt64)), (.double (4607182418800017408 : UInt64)), (.double (4607182418800017408 : UInt64)), (.ref a)])) _
    refine XS.dcmpS X11.here hx rfl (hb hby d12_60) rfl (v := (0 : Int32)) (by decide +kernel) ?_
    show Steps p.tables e below (T11.setTop (mkF m 61 #[.val (.ref a), .val (.long (1 : Int64)), .second] [(.int (0 : Int32)), (.double (4607182418800017408 : UInt64)), (.ref a)])) _
    refine XS.ifYes X11.here hx rfl (pc0 := 61) (pc' := 68) rfl (hb hby d12_61) rfl ((if0 _ _).trans (flt ((by decide) : ¬ ((0 : Int32) < (0 : Int32)))).2.1) (by decide) (by decide) ?_
    show Steps p.tables e below (T11.setTop (mkF m 68 #[.val (.ref a), .val (.long (1 : Int64)), .second] [(.double (4607182418800017408 : UInt64)), (.ref a)])) _
    refine XS.dconst1 X11.here hx rfl (hb hby d12_68) (v := (4607182418800017408 : UInt64)) (by decide +kernel) ?_
    show Steps p.tables e below (T11.setTop (mkF m 69 #[.val (.ref a), .val (.long (1 : Int64)), .second] [(.double (4607182418800017408 : UInt64)), (.double (4607182418800017408 : UInt64)), (.ref a)])) _
    refine XS.aloadN X11.here hx rfl (hb hby d12_69) rfl rfl ?_
    show Steps p.tables e below (T11.setTop (mkF m 70 #[.val (.ref a), .val (.long (1 : Int64)), .second] [(.ref a), (.double (4607182418800017408 : UInt64)), (.double (4607182418800017408 : UInt64)), (.ref a)])) _
    refine st12 _ ?_
    show Steps p.tables e below (T12.setTop (mkF m 73 #[.val (.ref a), .val (.long (1 : Int64)), .second] [(.double (4607182418800017408 : UInt64)), (.double (4607182418800017408 : UInt64)), (.double (4607182418800017408 : UInt64)), (.ref a)])) _
    refine XS.ddivS X12.here hx rfl (hb hby d12_73) rfl (v := (4607182418800017408 : UInt64)) (show (FP.ddiv (4607182418800017408 : UInt64) (4607182418800017408 : UInt64)) &&& 0x7fffffffffffffff ≤ 0x7ff0000000000000 by decide +kernel) (by decide +kernel : FP.ddiv (4607182418800017408 : UInt64) (4607182418800017408 : UInt64) = (4607182418800017408 : UInt64)) ?_
    show Steps p.tables e below (T12.setTop (mkF m 74 #[.val (.ref a), .val (.long (1 : Int64)), .second] [(.double (4607182418800017408 : UInt64)), (.double (4607182418800017408 : UInt64)), (.ref a)])) _
    refine XS.daddS X12.here hx rfl (hb hby d12_74) rfl (v := (4611686018427387904 : UInt64)) (show (FP.dadd (4607182418800017408 : UInt64) (4607182418800017408 : UInt64)) &&& 0x7fffffffffffffff ≤ 0x7ff0000000000000 by decide +kernel) (by decide +kernel : FP.dadd (4607182418800017408 : UInt64) (4607182418800017408 : UInt64) = (4611686018427387904 : UInt64)) ?_
    show Steps p.tables e below (T12.setTop (mkF m 75 #[.val (.ref a), .val (.long (1 : Int64)), .second] [(.double (4611686018427387904 : UInt64)), (.ref a)])) _
    refine st13 _ ?_
    show Steps p.tables e below (T13.setTop (mkF m 78 #[.val (.ref a), .val (.long (1 : Int64)), .second] [])) _
    refine XS.aloadN X13.here hx rfl (hb hby d12_78) rfl rfl ?_
    show Steps p.tables e below (T13.setTop (mkF m 79 #[.val (.ref a), .val (.long (1 : Int64)), .second] [(.ref a)])) _
    refine XS.aloadN X13.here hx rfl (hb hby d12_79) rfl rfl ?_
    show Steps p.tables e below (T13.setTop (mkF m 80 #[.val (.ref a), .val (.long (1 : Int64)), .second] [(.ref a), (.ref a)])) _
    refine st14 _ ?_
    show Steps p.tables e below (T14.setTop (mkF m 83 #[.val (.ref a), .val (.long (1 : Int64)), .second] [(.double (4611686018427387904 : UInt64)), (.ref a)])) _
    refine X14.ldc2DoubleC hx hown (mvT hZ (hw _ (List.mem_of_getElem? (i := 16) rfl))) (g := (mkF m 83 #[.val (.ref a), .val (.long (1 : Int64)), .second] [(.double (4611686018427387904 : UInt64)), (.ref a)])) rfl (hb hby d12_83) _ ?_
    show Steps p.tables e below (T14.setTop (mkF m 86 #[.val (.ref a), .val (.long (1 : Int64)), .second] [(.double (4634204016564240384 : UInt64)), (.double (4611686018427387904 : UInt64)), (.ref a)])) _
    refine st15 _ ?_
    rw [show (Native.java_lang_Math.nans.pick64 false (4611686018427387904 : UInt64) (4634204016564240384 : UInt64)) = (4611686018427387904 : UInt64) from by decide +kernel]
    show Steps p.tables e below ((T14.setVm vm15).setTop (mkF m 89 #[.val (.ref a), .val (.long (1 : Int64)), .second] [(.double (4611686018427387904 : UInt64)), (.ref a)])) _
    refine st16 _ ?_
    show Steps p.tables e below (T16.setTop (mkF m 92 #[.val (.ref a), .val (.long (1 : Int64)), .second] [])) _
    exact k
  obtain ⟨fs, hr, hrun, hended, hW, hsame⟩ := X16.leave (v := none) (fun _ => rfl)
  refine ⟨_, _, w17 _ ?_, hrun, hended, _, _, rfl, ?_, ⟨_, rfl⟩, hW, hsame.mono (by decide) (by decide)⟩
  · exact X16.returnOut hx Bd.returns (hb hby d12_92) hr
  · show Q12_1 Z a t1 kt d i n1  h0 n0 _ T16.heap _
    rw [e16]
    exact ⟨rfl, N16, K, F_window_a, F_threshold_a, F_paceAt_a, F_smoothedRtt_a, F_leastRtt_a, F_latestRtts_a, F_nextLatest_a, F_latestCount_a, F_rttVariation_a, F_onTheWay_a, F_sent_a, F_shrunkAfter_a⟩
theorem ef_12_2 (m : MethodId) (x0 : Addr) : entryFrame m #[(.ref x0), (.long (2 : Int64))] 3 = mkF m 0 #[.val (.ref x0), .val (.long (2 : Int64)), .second] [] := by first | (simp [entryFrame, mkF, argsToLocals, Value.category]; done) | rfl
def Q12_2 (Z : State) (a : Addr) (t1 : Addr) (kt : ClassId) (d : UInt64) (i : Int32) (n1 : Int64) (h0 : Heap) (n0 : Nat) (v : Option Value) (h : Heap) (L : List Loc) : Prop := v = none ∧ Fr n0 L ∧ Keep h0 h [a] ∧ Fld Z h a "com/example/hashmesh/hashmesh/mesh/Congestion" "window" "D" (.double (4612811918334230528 : UInt64)) ∧ Fld Z h a "com/example/hashmesh/hashmesh/mesh/Congestion" "threshold" "D" (.double (4607182418800017408 : UInt64)) ∧ Fld Z h a "com/example/hashmesh/hashmesh/mesh/Congestion" "paceAt" "D" (.double d) ∧ Fld Z h a "com/example/hashmesh/hashmesh/mesh/Congestion" "smoothedRtt" "J" (.long (19 : Int64)) ∧ Fld Z h a "com/example/hashmesh/hashmesh/mesh/Congestion" "leastRtt" "J" (.long (0 : Int64)) ∧ Fld Z h a "com/example/hashmesh/hashmesh/mesh/Congestion" "latestRtts" "[J" (.ref t1) ∧ Fld Z h a "com/example/hashmesh/hashmesh/mesh/Congestion" "nextLatest" "I" (.int (1 : Int32)) ∧ Fld Z h a "com/example/hashmesh/hashmesh/mesh/Congestion" "latestCount" "I" (.int (4 : Int32)) ∧ Fld Z h a "com/example/hashmesh/hashmesh/mesh/Congestion" "rttVariation" "J" (.long (26 : Int64)) ∧ Fld Z h a "com/example/hashmesh/hashmesh/mesh/Congestion" "onTheWay" "I" (.int (i - (1 : Int32))) ∧ Fld Z h a "com/example/hashmesh/hashmesh/mesh/Congestion" "sent" "J" (.long n1) ∧ Fld Z h a "com/example/hashmesh/hashmesh/mesh/Congestion" "shrunkAfter" "J" (.long (0 : Int64))
set_option maxRecDepth 65536 in
set_option maxHeartbeats 40000000 in
theorem rm12_2 (l : Launch) (Z : State) (a0 : Array Value) (hw : ∀ d ∈ tables_1, d.before a0 Z = true) (ws : List Jvm.Cond) (a : Addr) (t1 : Addr) (kt : ClassId) (d : UInt64) (i : Int32) (n1 : Int64) (h0 : Heap) (n0 : Nat) (O0 : Old Z n0 h0) (E_a : Exa Z h0 a "com/example/hashmesh/hashmesh/mesh/Congestion") (F_window_a : Fld Z h0 a "com/example/hashmesh/hashmesh/mesh/Congestion" "window" "D" (.double (4611686018427387904 : UInt64))) (F_threshold_a : Fld Z h0 a "com/example/hashmesh/hashmesh/mesh/Congestion" "threshold" "D" (.double (4607182418800017408 : UInt64))) (F_paceAt_a : Fld Z h0 a "com/example/hashmesh/hashmesh/mesh/Congestion" "paceAt" "D" (.double d)) (F_smoothedRtt_a : Fld Z h0 a "com/example/hashmesh/hashmesh/mesh/Congestion" "smoothedRtt" "J" (.long (19 : Int64))) (F_leastRtt_a : Fld Z h0 a "com/example/hashmesh/hashmesh/mesh/Congestion" "leastRtt" "J" (.long (0 : Int64))) (F_latestRtts_a : Fld Z h0 a "com/example/hashmesh/hashmesh/mesh/Congestion" "latestRtts" "[J" (.ref t1)) (F_nextLatest_a : Fld Z h0 a "com/example/hashmesh/hashmesh/mesh/Congestion" "nextLatest" "I" (.int (1 : Int32))) (F_latestCount_a : Fld Z h0 a "com/example/hashmesh/hashmesh/mesh/Congestion" "latestCount" "I" (.int (4 : Int32))) (F_rttVariation_a : Fld Z h0 a "com/example/hashmesh/hashmesh/mesh/Congestion" "rttVariation" "J" (.long (26 : Int64))) (F_onTheWay_a : Fld Z h0 a "com/example/hashmesh/hashmesh/mesh/Congestion" "onTheWay" "I" (.int i)) (F_sent_a : Fld Z h0 a "com/example/hashmesh/hashmesh/mesh/Congestion" "sent" "J" (.long n1)) (F_shrunkAfter_a : Fld Z h0 a "com/example/hashmesh/hashmesh/mesh/Congestion" "shrunkAfter" "J" (.long (0 : Int64))) (V_t1 : Arv Z h0 t1 kt .long (4 : Int32) [(.long (50 : Int64)), (.long (50 : Int64)), (.long (50 : Int64)), (.long (50 : Int64))] (.long (0 : Int64))) (g_a : n0 ≤ a) :
    MetFree l (⟨"com/example/hashmesh/hashmesh/mesh/Congestion", "taken", "(J)V"⟩ : MethodName) (head1 (Jvm.Cond.code (⟨"com/example/hashmesh/hashmesh/mesh/Congestion", "taken", "(J)V"⟩ : MethodName) prog_61_method_5_code 3 none :: ws) ({ frames := 1, cells := 0, slots := 0, locals := 16 } : Room)) (fun aA uU => aA = #[(.ref a), (.long (2 : Int64))] ∧ Z.Warmed39 uU.vm ∧ uU.heap = h0) (fun _ _ _ _ _ => True) (fun _ uU oO uU' => ∃ vV lL, oO = .returned vV ∧ Q12_2 Z a t1 kt d i n1  h0 n0 vV uU'.heap lL ∧ FrameEnd uU oO uU' lL ({ frames := 1, cells := 0, slots := 0, locals := 16 } : Room).cells ({ frames := 1, cells := 0, slots := 0, locals := 16 } : Room).slots) := by
  refine MetFree.of_bodySF (plainFor_of_name pn_com_example_hashmesh_hashmesh_mesh_Congestion) hisR ?_
  intro p e s m args below meth c s₁ Bd hml0 hP hK
  obtain ⟨rfl, hZ, hh⟩ := hP
  have hx := Bd.exec
  have hby := Bd.bytes
  have hml : c.maxLocals = 3 := hml0
  have hown : s.vm.findClass "com/example/hashmesh/hashmesh/mesh/Congestion" = some m.cls := findClass_of_methodNamed Bd.named
  have hnm := (name_of_methodNamed Bd.named Bd.method).1
  have X0 : Stand p l e ({ frames := 1, cells := 0, slots := 0, locals := 16 } : Room) s m #[(.ref a), (.long (2 : Int64))] below meth c s₁ [] 0 0 := Stand.of_body Bd
  have e0 : s₁.heap = h0 := by rw [← hh, Bd.state]; rfl
  have N0 := Fr.nil n0
  have O := O0
  have K := Keep.refl h0 [a]
  have pre0 : ∀ t, Steps p.tables e below (s₁.setTop (mkF m 0 #[.val (.ref a), .val (.long (2 : Int64)), .second] [])) t → Steps p.tables e below (s₁.setTop (entryFrame m #[(.ref a), (.long (2 : Int64))] 3)) t := fun t k => castTop (ef_12_2 m a) k
  obtain ⟨T1, X1, e1, st1⟩ := getF X0 hx hZ hown (host := "") (Or.inl (hw _ (List.mem_of_getElem? (i := 78) rfl))) Via.refl e0 F_onTheWay_a (g := (mkF m 2 #[.val (.ref a), .val (.long (2 : Int64)), .second] [(.ref a), (.ref a)])) rfl rfl (hb hby d12_2)
  have ne_t1_a : t1 ≠ a := (Ne.symm (Exa.neArv E_a V_t1 (hw _ (List.mem_of_getElem? (i := 5) rfl))))
  obtain ⟨T2, h2, X2, e2, W2, st2⟩ := putF X1 hx hZ hown (host := "") (Or.inl (hw _ (List.mem_of_getElem? (i := 78) rfl))) Via.refl e1 F_onTheWay_a E_a (Or.inl (hw _ (List.mem_of_getElem? (i := 79) rfl))) (hw _ (List.mem_of_getElem? (i := 5) rfl)) (ty := .int) (by decide) rfl rfl (g := (mkF m 7 #[.val (.ref a), .val (.long (2 : Int64)), .second] [(.int (i - (1 : Int32))), (.ref a)])) rfl rfl (hb hby d12_7)
  have F_onTheWay_a := F_onTheWay_a.same W2
  have E_a := E_a.wr W2
  have F_window_a := F_window_a.other W2 (Or.inr (slot_ne (Or.inl (hw _ (List.mem_of_getElem? (i := 15) rfl))) (Or.inl (hw _ (List.mem_of_getElem? (i := 79) rfl))) (by decide) (t := .double) (t' := .int) (by decide) (by decide)))
  have F_threshold_a := F_threshold_a.other W2 (Or.inr (slot_ne (Or.inl (hw _ (List.mem_of_getElem? (i := 18) rfl))) (Or.inl (hw _ (List.mem_of_getElem? (i := 79) rfl))) (by decide) (t := .double) (t' := .int) (by decide) (by decide)))
  have F_paceAt_a := F_paceAt_a.other W2 (Or.inr (slot_ne (Or.inl (hw _ (List.mem_of_getElem? (i := 21) rfl))) (Or.inl (hw _ (List.mem_of_getElem? (i := 79) rfl))) (by decide) (t := .double) (t' := .int) (by decide) (by decide)))
  have F_smoothedRtt_a := F_smoothedRtt_a.other W2 (Or.inr (slot_ne (Or.inl (hw _ (List.mem_of_getElem? (i := 24) rfl))) (Or.inl (hw _ (List.mem_of_getElem? (i := 79) rfl))) (by decide) (t := .long) (t' := .int) (by decide) (by decide)))
  have F_leastRtt_a := F_leastRtt_a.other W2 (Or.inr (slot_ne (Or.inl (hw _ (List.mem_of_getElem? (i := 27) rfl))) (Or.inl (hw _ (List.mem_of_getElem? (i := 79) rfl))) (by decide) (t := .long) (t' := .int) (by decide) (by decide)))
  have F_latestRtts_a := F_latestRtts_a.other W2 (Or.inr (slot_ne (Or.inr (hw _ (List.mem_of_getElem? (i := 30) rfl))) (Or.inl (hw _ (List.mem_of_getElem? (i := 79) rfl))) (by decide) (t := (.array .long)) (t' := .int) (by decide) (by decide)))
  have F_nextLatest_a := F_nextLatest_a.other W2 (Or.inr (slot_ne (Or.inl (hw _ (List.mem_of_getElem? (i := 40) rfl))) (Or.inl (hw _ (List.mem_of_getElem? (i := 79) rfl))) (by decide) (t := .int) (t' := .int) (by decide) (by decide)))
  have F_latestCount_a := F_latestCount_a.other W2 (Or.inr (slot_ne (Or.inl (hw _ (List.mem_of_getElem? (i := 42) rfl))) (Or.inl (hw _ (List.mem_of_getElem? (i := 79) rfl))) (by decide) (t := .int) (t' := .int) (by decide) (by decide)))
  have F_rttVariation_a := F_rttVariation_a.other W2 (Or.inr (slot_ne (Or.inl (hw _ (List.mem_of_getElem? (i := 46) rfl))) (Or.inl (hw _ (List.mem_of_getElem? (i := 79) rfl))) (by decide) (t := .long) (t' := .int) (by decide) (by decide)))
  have F_sent_a := F_sent_a.other W2 (Or.inr (slot_ne (Or.inl (hw _ (List.mem_of_getElem? (i := 70) rfl))) (Or.inl (hw _ (List.mem_of_getElem? (i := 79) rfl))) (by decide) (t := .long) (t' := .int) (by decide) (by decide)))
  have F_shrunkAfter_a := F_shrunkAfter_a.other W2 (Or.inr (slot_ne (Or.inl (hw _ (List.mem_of_getElem? (i := 72) rfl))) (Or.inl (hw _ (List.mem_of_getElem? (i := 79) rfl))) (by decide) (t := .long) (t' := .int) (by decide) (by decide)))
  have V_t1 := V_t1.other W2 ne_t1_a
  have O := O.wr W2 g_a
  have K := K.wr W2 (Or.inl (List.mem_of_getElem? (i := 0) rfl))
  have N2 := Fr.snoc X2 N0 g_a
  obtain ⟨T3, X3, e3, st3⟩ := getF X2 hx hZ hown (host := "") (Or.inl (hw _ (List.mem_of_getElem? (i := 71) rfl))) Via.refl e2 F_shrunkAfter_a (g := (mkF m 12 #[.val (.ref a), .val (.long (2 : Int64)), .second] [(.ref a), (.long (2 : Int64))])) rfl rfl (hb hby d12_12)
  obtain ⟨T4, X4, e4, st4⟩ := getF X3 hx hZ hown (host := "") (Or.inl (hw _ (List.mem_of_getElem? (i := 14) rfl))) Via.refl e3 F_window_a (g := (mkF m 21 #[.val (.ref a), .val (.long (2 : Int64)), .second] [(.ref a)])) rfl rfl (hb hby d12_21)
  obtain ⟨T5, X5, e5, st5⟩ := getF X4 hx hZ hown (host := "") (Or.inl (hw _ (List.mem_of_getElem? (i := 17) rfl))) Via.refl e4 F_threshold_a (g := (mkF m 25 #[.val (.ref a), .val (.long (2 : Int64)), .second] [(.ref a), (.double (4611686018427387904 : UInt64))])) rfl rfl (hb hby d12_25)
  obtain ⟨T6, X6, e6, st6⟩ := getF X5 hx hZ hown (host := "") (Or.inl (hw _ (List.mem_of_getElem? (i := 14) rfl))) Via.refl e5 F_window_a (g := (mkF m 49 #[.val (.ref a), .val (.long (2 : Int64)), .second] [(.ref a), (.ref a)])) rfl rfl (hb hby d12_49)
  obtain ⟨T7, X7, e7, st7⟩ := getF X6 hx hZ hown (host := "") (Or.inl (hw _ (List.mem_of_getElem? (i := 14) rfl))) Via.refl e6 F_window_a (g := (mkF m 53 #[.val (.ref a), .val (.long (2 : Int64)), .second] [(.ref a), (.double (4611686018427387904 : UInt64)), (.ref a)])) rfl rfl (hb hby d12_53)
  obtain ⟨T8, X8, e8, st8⟩ := getF X7 hx hZ hown (host := "") (Or.inl (hw _ (List.mem_of_getElem? (i := 17) rfl))) Via.refl e7 F_threshold_a (g := (mkF m 57 #[.val (.ref a), .val (.long (2 : Int64)), .second] [(.ref a), (.double (4611686018427387904 : UInt64)), (.double (4611686018427387904 : UInt64)), (.ref a)])) rfl rfl (hb hby d12_57)
  obtain ⟨T9, X9, e9, st9⟩ := getF X8 hx hZ hown (host := "") (Or.inl (hw _ (List.mem_of_getElem? (i := 14) rfl))) Via.refl e8 F_window_a (g := (mkF m 70 #[.val (.ref a), .val (.long (2 : Int64)), .second] [(.ref a), (.double (4607182418800017408 : UInt64)), (.double (4611686018427387904 : UInt64)), (.ref a)])) rfl rfl (hb hby d12_70)
  obtain ⟨T10, h10, X10, e10, W10, st10⟩ := putF X9 hx hZ hown (host := "") (Or.inl (hw _ (List.mem_of_getElem? (i := 14) rfl))) Via.refl e9 F_window_a E_a (Or.inl (hw _ (List.mem_of_getElem? (i := 15) rfl))) (hw _ (List.mem_of_getElem? (i := 5) rfl)) (ty := .double) (by decide) rfl rfl (g := (mkF m 75 #[.val (.ref a), .val (.long (2 : Int64)), .second] [(.double (4612811918334230528 : UInt64)), (.ref a)])) rfl rfl (hb hby d12_75)
  have F_window_a := F_window_a.same W10
  have E_a := E_a.wr W10
  have F_threshold_a := F_threshold_a.other W10 (Or.inr (slot_ne (Or.inl (hw _ (List.mem_of_getElem? (i := 18) rfl))) (Or.inl (hw _ (List.mem_of_getElem? (i := 15) rfl))) (by decide) (t := .double) (t' := .double) (by decide) (by decide)))
  have F_paceAt_a := F_paceAt_a.other W10 (Or.inr (slot_ne (Or.inl (hw _ (List.mem_of_getElem? (i := 21) rfl))) (Or.inl (hw _ (List.mem_of_getElem? (i := 15) rfl))) (by decide) (t := .double) (t' := .double) (by decide) (by decide)))
  have F_smoothedRtt_a := F_smoothedRtt_a.other W10 (Or.inr (slot_ne (Or.inl (hw _ (List.mem_of_getElem? (i := 24) rfl))) (Or.inl (hw _ (List.mem_of_getElem? (i := 15) rfl))) (by decide) (t := .long) (t' := .double) (by decide) (by decide)))
  have F_leastRtt_a := F_leastRtt_a.other W10 (Or.inr (slot_ne (Or.inl (hw _ (List.mem_of_getElem? (i := 27) rfl))) (Or.inl (hw _ (List.mem_of_getElem? (i := 15) rfl))) (by decide) (t := .long) (t' := .double) (by decide) (by decide)))
  have F_latestRtts_a := F_latestRtts_a.other W10 (Or.inr (slot_ne (Or.inr (hw _ (List.mem_of_getElem? (i := 30) rfl))) (Or.inl (hw _ (List.mem_of_getElem? (i := 15) rfl))) (by decide) (t := (.array .long)) (t' := .double) (by decide) (by decide)))
  have F_nextLatest_a := F_nextLatest_a.other W10 (Or.inr (slot_ne (Or.inl (hw _ (List.mem_of_getElem? (i := 40) rfl))) (Or.inl (hw _ (List.mem_of_getElem? (i := 15) rfl))) (by decide) (t := .int) (t' := .double) (by decide) (by decide)))
  have F_latestCount_a := F_latestCount_a.other W10 (Or.inr (slot_ne (Or.inl (hw _ (List.mem_of_getElem? (i := 42) rfl))) (Or.inl (hw _ (List.mem_of_getElem? (i := 15) rfl))) (by decide) (t := .int) (t' := .double) (by decide) (by decide)))
  have F_rttVariation_a := F_rttVariation_a.other W10 (Or.inr (slot_ne (Or.inl (hw _ (List.mem_of_getElem? (i := 46) rfl))) (Or.inl (hw _ (List.mem_of_getElem? (i := 15) rfl))) (by decide) (t := .long) (t' := .double) (by decide) (by decide)))
  have F_onTheWay_a := F_onTheWay_a.other W10 (Or.inr (slot_ne (Or.inl (hw _ (List.mem_of_getElem? (i := 79) rfl))) (Or.inl (hw _ (List.mem_of_getElem? (i := 15) rfl))) (by decide) (t := .int) (t' := .double) (by decide) (by decide)))
  have F_sent_a := F_sent_a.other W10 (Or.inr (slot_ne (Or.inl (hw _ (List.mem_of_getElem? (i := 70) rfl))) (Or.inl (hw _ (List.mem_of_getElem? (i := 15) rfl))) (by decide) (t := .long) (t' := .double) (by decide) (by decide)))
  have F_shrunkAfter_a := F_shrunkAfter_a.other W10 (Or.inr (slot_ne (Or.inl (hw _ (List.mem_of_getElem? (i := 72) rfl))) (Or.inl (hw _ (List.mem_of_getElem? (i := 15) rfl))) (by decide) (t := .long) (t' := .double) (by decide) (by decide)))
  have V_t1 := V_t1.other W10 ne_t1_a
  have O := O.wr W10 g_a
  have K := K.wr W10 (Or.inl (List.mem_of_getElem? (i := 0) rfl))
  have N10 := Fr.snoc X10 N2 g_a
  obtain ⟨T11, X11, e11, st11⟩ := getF X10 hx hZ hown (host := "") (Or.inl (hw _ (List.mem_of_getElem? (i := 14) rfl))) Via.refl e10 F_window_a (g := (mkF m 80 #[.val (.ref a), .val (.long (2 : Int64)), .second] [(.ref a), (.ref a)])) rfl rfl (hb hby d12_80)
  obtain ⟨_, vm12, ⟨T12, L12, k12, n12⟩, -, X12, ⟨rfl, hB12⟩, st12⟩ := Jvm.LawKit.callS X11 hx (y := (⟨"java/lang/Math", "min", "(DD)D"⟩ : MethodName)) hown (mvT hZ (hw _ (List.mem_of_getElem? (i := 91) rfl))) (mvT hZ (hw _ (List.mem_of_getElem? (i := 92) rfl))) (mvT hZ (hw _ (List.mem_of_getElem? (i := 2) rfl))) (mvT hZ (hw _ (List.mem_of_getElem? (i := 93) rfl))) (by decide) (Jvm.Free.Fl.Abs.minD_pays (W := 1) (4612811918334230528 : UInt64) (4634204016564240384 : UInt64) (mvT hZ (hw _ (List.mem_of_getElem? (i := 93) rfl))) (by decide) (by decide)) (g := (mkF m 86 #[.val (.ref a), .val (.long (2 : Int64)), .second] [(.double (4634204016564240384 : UInt64)), (.double (4612811918334230528 : UInt64)), (.ref a)])) rfl (by rw [hml]; rfl) (argsL := [(.double (4612811918334230528 : UInt64)), (.double (4634204016564240384 : UInt64))]) (rest := [(.ref a)]) (lenOf pd__40DD_41D rfl) rfl (by show 2 * 0 + _ ≤ _; exact Nat.le_of_eq rfl) (hb hby d12_86) (fun _ _ => ⟨(by decide : 0 ≤ _), (by decide : 0 ≤ _), rfl, (show (4612811918334230528 : UInt64) &&& 0x7fffffffffffffff ≤ 0x7ff0000000000000 by decide +kernel), (show (4634204016564240384 : UInt64) &&& 0x7fffffffffffffff ≤ 0x7ff0000000000000 by decide +kernel)⟩)
  cases hB12
  dsimp only [Pt.U, Pt.locs, Pt.cells, Pt.slots] at X12 st12
  have eh12 : (T11.setVm vm12).heap = h10 := e11
  obtain ⟨T13, h13, X13, e13, W13, st13⟩ := putF X12 hx hZ hown (host := "") (Or.inl (hw _ (List.mem_of_getElem? (i := 14) rfl))) Via.refl eh12 F_window_a E_a (Or.inl (hw _ (List.mem_of_getElem? (i := 15) rfl))) (hw _ (List.mem_of_getElem? (i := 5) rfl)) (ty := .double) (by decide) rfl rfl (g := (mkF m 89 #[.val (.ref a), .val (.long (2 : Int64)), .second] [(.double (4612811918334230528 : UInt64)), (.ref a)])) rfl rfl (hb hby d12_89)
  have F_window_a := F_window_a.same W13
  have E_a := E_a.wr W13
  have F_threshold_a := F_threshold_a.other W13 (Or.inr (slot_ne (Or.inl (hw _ (List.mem_of_getElem? (i := 18) rfl))) (Or.inl (hw _ (List.mem_of_getElem? (i := 15) rfl))) (by decide) (t := .double) (t' := .double) (by decide) (by decide)))
  have F_paceAt_a := F_paceAt_a.other W13 (Or.inr (slot_ne (Or.inl (hw _ (List.mem_of_getElem? (i := 21) rfl))) (Or.inl (hw _ (List.mem_of_getElem? (i := 15) rfl))) (by decide) (t := .double) (t' := .double) (by decide) (by decide)))
  have F_smoothedRtt_a := F_smoothedRtt_a.other W13 (Or.inr (slot_ne (Or.inl (hw _ (List.mem_of_getElem? (i := 24) rfl))) (Or.inl (hw _ (List.mem_of_getElem? (i := 15) rfl))) (by decide) (t := .long) (t' := .double) (by decide) (by decide)))
  have F_leastRtt_a := F_leastRtt_a.other W13 (Or.inr (slot_ne (Or.inl (hw _ (List.mem_of_getElem? (i := 27) rfl))) (Or.inl (hw _ (List.mem_of_getElem? (i := 15) rfl))) (by decide) (t := .long) (t' := .double) (by decide) (by decide)))
  have F_latestRtts_a := F_latestRtts_a.other W13 (Or.inr (slot_ne (Or.inr (hw _ (List.mem_of_getElem? (i := 30) rfl))) (Or.inl (hw _ (List.mem_of_getElem? (i := 15) rfl))) (by decide) (t := (.array .long)) (t' := .double) (by decide) (by decide)))
  have F_nextLatest_a := F_nextLatest_a.other W13 (Or.inr (slot_ne (Or.inl (hw _ (List.mem_of_getElem? (i := 40) rfl))) (Or.inl (hw _ (List.mem_of_getElem? (i := 15) rfl))) (by decide) (t := .int) (t' := .double) (by decide) (by decide)))
  have F_latestCount_a := F_latestCount_a.other W13 (Or.inr (slot_ne (Or.inl (hw _ (List.mem_of_getElem? (i := 42) rfl))) (Or.inl (hw _ (List.mem_of_getElem? (i := 15) rfl))) (by decide) (t := .int) (t' := .double) (by decide) (by decide)))
  have F_rttVariation_a := F_rttVariation_a.other W13 (Or.inr (slot_ne (Or.inl (hw _ (List.mem_of_getElem? (i := 46) rfl))) (Or.inl (hw _ (List.mem_of_getElem? (i := 15) rfl))) (by decide) (t := .long) (t' := .double) (by decide) (by decide)))
  have F_onTheWay_a := F_onTheWay_a.other W13 (Or.inr (slot_ne (Or.inl (hw _ (List.mem_of_getElem? (i := 79) rfl))) (Or.inl (hw _ (List.mem_of_getElem? (i := 15) rfl))) (by decide) (t := .int) (t' := .double) (by decide) (by decide)))
  have F_sent_a := F_sent_a.other W13 (Or.inr (slot_ne (Or.inl (hw _ (List.mem_of_getElem? (i := 70) rfl))) (Or.inl (hw _ (List.mem_of_getElem? (i := 15) rfl))) (by decide) (t := .long) (t' := .double) (by decide) (by decide)))
  have F_shrunkAfter_a := F_shrunkAfter_a.other W13 (Or.inr (slot_ne (Or.inl (hw _ (List.mem_of_getElem? (i := 72) rfl))) (Or.inl (hw _ (List.mem_of_getElem? (i := 15) rfl))) (by decide) (t := .long) (t' := .double) (by decide) (by decide)))
  have V_t1 := V_t1.other W13 ne_t1_a
  have O := O.wr W13 g_a
  have K := K.wr W13 (Or.inl (List.mem_of_getElem? (i := 0) rfl))
  have N13 := Fr.snoc X13 N10 g_a
  have w14 : ∀ t, Steps p.tables e below (T13.setTop (mkF m 92 #[.val (.ref a), .val (.long (2 : Int64)), .second] [])) t → Steps p.tables e below (s₁.setTop (entryFrame m #[(.ref a), (.long (2 : Int64))] 3)) t := fun t k => by
    refine pre0 t ?_
    refine XS.aloadN X0.here hx rfl (hb hby d12_0) rfl rfl ?_
    show Steps p.tables e below (s₁.setTop (mkF m 1 #[.val (.ref a), .val (.long (2 : Int64)), .second] [(.ref a)])) _
    refine XS.dup X0.here hx rfl (hb hby d12_1) rfl rfl ?_
    show Steps p.tables e below (s₁.setTop (mkF m 2 #[.val (.ref a), .val (.long (2 : Int64)), .second] [(.ref a), (.ref a)])) _
    refine st1 _ ?_
    show Steps p.tables e below (T1.setTop (mkF m 5 #[.val (.ref a), .val (.long (2 : Int64)), .second] [(.int i), (.ref a)])) _
    refine XS.iconst X1.here hx rfl (hb hby d12_5) ?_
    show Steps p.tables e below (T1.setTop (mkF m 6 #[.val (.ref a), .val (.long (2 : Int64)), .second] [(.int (1 : Int32)), (.int i), (.ref a)])) _
    refine XS.isub X1.here hx rfl (hb hby d12_6) rfl ?_
    show Steps p.tables e below (T1.setTop (mkF m 7 #[.val (.ref a), .val (.long (2 : Int64)), .second] [(.int (i - (1 : Int32))), (.ref a)])) _
    refine st2 _ ?_
    show Steps p.tables e below (T2.setTop (mkF m 10 #[.val (.ref a), .val (.long (2 : Int64)), .second] [])) _
    refine XS.lloadN X2.here hx rfl (hb hby d12_10) rfl ?_
    show Steps p.tables e below (T2.setTop (mkF m 11 #[.val (.ref a), .val (.long (2 : Int64)), .second] [(.long (2 : Int64))])) _
    refine XS.aloadN X2.here hx rfl (hb hby d12_11) rfl rfl ?_
    show Steps p.tables e below (T2.setTop (mkF m 12 #[.val (.ref a), .val (.long (2 : Int64)), .second] [(.ref a), (.long (2 : Int64))])) _
    refine st3 _ ?_
    show Steps p.tables e below (T3.setTop (mkF m 15 #[.val (.ref a), .val (.long (2 : Int64)), .second] [(.long (0 : Int64)), (.long (2 : Int64))])) _
    refine XS.lcmp X3.here hx rfl (hb hby d12_15) rfl ?_
    show Steps p.tables e below (T3.setTop (mkF m 16 #[.val (.ref a), .val (.long (2 : Int64)), .second] [(.int (1 : Int32))])) _
    refine XS.ifYes X3.here hx rfl (pc0 := 16) (pc' := 20) rfl (hb hby d12_16) rfl ((if0 _ _).trans (tlt ((by decide) : (0 : Int32) < (1 : Int32))).2.2.1) (by decide) (by decide) ?_
    show Steps p.tables e below (T3.setTop (mkF m 20 #[.val (.ref a), .val (.long (2 : Int64)), .second] [])) _
    refine XS.aloadN X3.here hx rfl (hb hby d12_20) rfl rfl ?_
    show Steps p.tables e below (T3.setTop (mkF m 21 #[.val (.ref a), .val (.long (2 : Int64)), .second] [(.ref a)])) _
    refine st4 _ ?_
    show Steps p.tables e below (T4.setTop (mkF m 24 #[.val (.ref a), .val (.long (2 : Int64)), .second] [(.double (4611686018427387904 : UInt64))])) _
    refine XS.aloadN X4.here hx rfl (hb hby d12_24) rfl rfl ?_
    show Steps p.tables e below (T4.setTop (mkF m 25 #[.val (.ref a), .val (.long (2 : Int64)), .second] [(.ref a), (.double (4611686018427387904 : UInt64))])) _
    refine st5 _ ?_
    show Steps p.tables e below (T5.setTop (mkF m 28 #[.val (.ref a), .val (.long (2 : Int64)), .second] [(.double (4607182418800017408 : UInt64)), (.double (4611686018427387904 : UInt64))])) _
    refine XS.dcmpS X5.here hx rfl (hb hby d12_28) rfl (v := (1 : Int32)) (by decide +kernel) ?_
    show Steps p.tables e below (T5.setTop (mkF m 29 #[.val (.ref a), .val (.long (2 : Int64)), .second] [(.int (1 : Int32))])) _
    refine XS.ifYes X5.here hx rfl (pc0 := 29) (pc' := 47) rfl (hb hby d12_29) rfl ((if0 _ _).trans (flt ((by decide) : ¬ ((1 : Int32) < (0 : Int32)))).2.1) (by decide) (by decide) ?_
    show Steps p.tables e below (T5.setTop (mkF m 47 #[.val (.ref a), .val (.long (2 : Int64)), .second] [])) _
    refine XS.aloadN X5.here hx rfl (hb hby d12_47) rfl rfl ?_
    show Steps p.tables e below (T5.setTop (mkF m 48 #[.val (.ref a), .val (.long (2 : Int64)), .second] [(.ref a)])) _
    refine XS.dup X5.here hx rfl (hb hby d12_48) rfl rfl ?_
    show Steps p.tables e below (T5.setTop (mkF m 49 #[.val (.ref a), .val (.long (2 : Int64)), .second] [(.ref a), (.ref a)])) _
    refine st6 _ ?_
    show Steps p.tables e below (T6.setTop (mkF m 52 #[.val (.ref a), .val (.long (2 : Int64)), .second] [(.double (4611686018427387904 : UInt64)), (.ref a)])) _
    refine XS.aloadN X6.here hx rfl (hb hby d12_52) rfl rfl ?_
    show Steps p.tables e below (T6.setTop (mkF m 53 #[.val (.ref a), .val (.long (2 : Int64)), .second] [(.ref a), (.double (4611686018427387904 : UInt64)), (.ref a)])) _
    refine st7 _ ?_
    show Steps p.tables e below (T7.setTop (mkF m 56 #[.val (.ref a), .val (.long (2 : Int64)), .second] [(.double (4611686018427387904 : UInt64)), (.double (4611686018427387904 : UInt64)), (.ref a)])) _
    refine XS.aloadN X7.here hx rfl (hb hby d12_56) rfl rfl ?_
    show Steps p.tables e below (T7.setTop (mkF m 57 #[.val (.ref a), .val (.long (2 : Int64)), .second] [(.ref a), (.double (4611686018427387904 : UInt64)), (.double (4611686018427387904 : UInt64)), (.ref a)])) _
    refine st8 _ ?_
    show Steps p.tables e below (T8.setTop (mkF m 60 #[.val (.ref a), .val (.long (2 : Int64)), .second] [(.double (4607182418800017408 : UInt64)), (.double (4611686018427387904 : UInt64)), (.double (4611686018427387904 : UInt64)), (.ref a)])) _
    refine XS.dcmpS X8.here hx rfl (hb hby d12_60) rfl (v := (1 : Int32)) (by decide +kernel) ?_
    show Steps p.tables e below (T8.setTop (mkF m 61 #[.val (.ref a), .val (.long (2 : Int64)), .second] [(.int (1 : Int32)), (.double (4611686018427387904 : UInt64)), (.ref a)])) _
    refine XS.ifYes X8.here hx rfl (pc0 := 61) (pc' := 68) rfl (hb hby d12_61) rfl ((if0 _ _).trans (flt ((by decide) : ¬ ((1 : Int32) < (0 : Int32)))).2.1) (by decide) (by decide) ?_
    show Steps p.tables e below (T8.setTop (mkF m 68 #[.val (.ref a), .val (.long (2 : Int64)), .second] [(.double (4611686018427387904 : UInt64)), (.ref a)])) _
    refine XS.dconst1 X8.here hx rfl (hb hby d12_68) (v := (4607182418800017408 : UInt64)) (by decide +kernel) ?_
    show Steps p.tables e below (T8.setTop (mkF m 69 #[.val (.ref a), .val (.long (2 : Int64)), .second] [(.double (4607182418800017408 : UInt64)), (.double (4611686018427387904 : UInt64)), (.ref a)])) _
    refine XS.aloadN X8.here hx rfl (hb hby d12_69) rfl rfl ?_
    show Steps p.tables e below (T8.setTop (mkF m 70 #[.val (.ref a), .val (.long (2 : Int64)), .second] [(.ref a), (.double (4607182418800017408 : UInt64)), (.double (4611686018427387904 : UInt64)), (.ref a)])) _
    refine st9 _ ?_
    show Steps p.tables e below (T9.setTop (mkF m 73 #[.val (.ref a), .val (.long (2 : Int64)), .second] [(.double (4611686018427387904 : UInt64)), (.double (4607182418800017408 : UInt64)), (.double (4611686018427387904 : UInt64)), (.ref a)])) _
    refine XS.ddivS X9.here hx rfl (hb hby d12_73) rfl (v := (4602678819172646912 : UInt64)) (show (FP.ddiv (4607182418800017408 : UInt64) (4611686018427387904 : UInt64)) &&& 0x7fffffffffffffff ≤ 0x7ff0000000000000 by decide +kernel) (by decide +kernel : FP.ddiv (4607182418800017408 : UInt64) (4611686018427387904 : UInt64) = (4602678819172646912 : UInt64)) ?_
    show Steps p.tables e below (T9.setTop (mkF m 74 #[.val (.ref a), .val (.long (2 : Int64)), .second] [(.double (4602678819172646912 : UInt64)), (.double (4611686018427387904 : UInt64)), (.ref a)])) _
    refine XS.daddS X9.here hx rfl (hb hby d12_74) rfl (v := (4612811918334230528 : UInt64)) (show (FP.dadd (4611686018427387904 : UInt64) (4602678819172646912 : UInt64)) &&& 0x7fffffffffffffff ≤ 0x7ff0000000000000 by decide +kernel) (by decide +kernel : FP.dadd (4611686018427387904 : UInt64) (4602678819172646912 : UInt64) = (4612811918334230528 : UInt64)) ?_
    show Steps p.tables e below (T9.setTop (mkF m 75 #[.val (.ref a), .val (.long (2 : Int64)), .second] [(.double (4612811918334230528 : UInt64)), (.ref a)])) _
    refine st10 _ ?_
    show Steps p.tables e below (T10.setTop (mkF m 78 #[.val (.ref a), .val (.long (2 : Int64)), .second] [])) _
    refine XS.aloadN X10.here hx rfl (hb hby d12_78) rfl rfl ?_
    show Steps p.tables e below (T10.setTop (mkF m 79 #[.val (.ref a), .val (.long (2 : Int64)), .second] [(.ref a)])) _
    refine XS.aloadN X10.here hx rfl (hb hby d12_79) rfl rfl ?_
    show Steps p.tables e below (T10.setTop (mkF m 80 #[.val (.ref a), .val (.long (2 : Int64)), .second] [(.ref a), (.ref a)])) _
    refine st11 _ ?_
    show Steps p.tables e below (T11.setTop (mkF m 83 #[.val (.ref a), .val (.long (2 : Int64)), .second] [(.double (4612811918334230528 : UInt64)), (.ref a)])) _
    refine X11.ldc2DoubleC hx hown (mvT hZ (hw _ (List.mem_of_getElem? (i := 16) rfl))) (g := (mkF m 83 #[.val (.ref a), .val (.long (2 : Int64)), .second] [(.double (4612811918334230528 : UInt64)), (.ref a)])) rfl (hb hby d12_83) _ ?_
    show Steps p.tables e below (T11.setTop (mkF m 86 #[.val (.ref a), .val (.long (2 : Int64)), .second] [(.double (4634204016564240384 : UInt64)), (.double (4612811918334230528 : UInt64)), (.ref a)])) _
    refine st12 _ ?_
    rw [show (Native.java_lang_Math.nans.pick64 false (4612811918334230528 : UInt64) (4634204016564240384 : UInt64)) = (4612811918334230528 : UInt64) from by decide +kernel]
    show Steps p.tables e below ((T11.setVm vm12).setTop (mkF m 89 #[.val (.ref a), .val (.long (2 : Int64)), .second] [(.double (4612811918334230528 : UInt64)), (.ref a)])) _
    refine st13 _ ?_
    show Steps p.tables e below (T13.setTop (mkF m 92 #[.val (.ref a), .val (.long (2 : Int64)), .second] [])) _
    exact k
  obtain ⟨fs, hr, hrun, hended, hW, hsame⟩ := X13.leave (v := none) (fun _ => rfl)
  refine ⟨_, _, w14 _ ?_, hrun, hended, _, _, rfl, ?_, ⟨_, rfl⟩, hW, hsame.mono (by decide) (by decide)⟩
  · exact X13.returnOut hx Bd.returns (hb hby d12_92) hr
  · show Q12_2 Z a t1 kt d i n1  h0 n0 _ T13.heap _
    rw [e13]
    exact ⟨rfl, N13, K, F_window_a, F_threshold_a, F_paceAt_a, F_smoothedRtt_a, F_leastRtt_a, F_latestRtts_a, F_nextLatest_a, F_latestCount_a, F_rttVariation_a, F_onTheWay_a, F_sent_a, F_shrunkAfter_a⟩
theorem d10_0 : decode prog_61_method_2_code 0 = .ok (.aload_n 0, 1) := by decide +kernel
theorem d10_1 : decode prog_61_method_2_code 1 = .ok (.getfield 46, 3) := by decide +kernel
theorem d10_4 : decode prog_61_method_2_code 4 = .ok (.aload_n 0, 1) := by decide +kernel
theorem d10_5 : decode prog_61_method_2_code 5 = .ok (.getfield 11, 3) := by decide +kernel
theorem d10_8 : decode prog_61_method_2_code 8 = .ok (.d2i, 1) := by decide +kernel
theorem d10_9 : decode prog_61_method_2_code 9 = .ok (.if_icmp .ge 7, 3) := by decide +kernel
theorem d10_12 : decode prog_61_method_2_code 12 = .ok (.iconst 1, 1) := by decide +kernel
theorem d10_13 : decode prog_61_method_2_code 13 = .ok (.goto 4, 3) := by decide +kernel
theorem d10_17 : decode prog_61_method_2_code 17 = .ok (.ireturn, 1) := by decide +kernel
theorem d10_16 : decode prog_61_method_2_code 16 = .ok (.iconst 0, 1) := by decide +kernel
theorem ef_10_1 (m : MethodId) (x0 : Addr) : entryFrame m #[(.ref x0)] 1 = mkF m 0 #[.val (.ref x0)] [] := by first | (simp [entryFrame, mkF, argsToLocals, Value.category]; done) | rfl
def Q10_1 (Z : State) (a : Addr) (i : Int32) (h0 : Heap) (n0 : Nat) (v : Option Value) (h : Heap) (L : List Loc) : Prop := v = some (.int (own_h i (1 : Int32))) ∧ Fr n0 L ∧ h = h0
set_option maxRecDepth 65536 in
set_option maxHeartbeats 40000000 in
theorem rm10_1 (l : Launch) (Z : State) (a0 : Array Value) (hw : ∀ d ∈ tables_1, d.before a0 Z = true) (ws : List Jvm.Cond) (a : Addr) (i : Int32) (h0 : Heap) (n0 : Nat) (O0 : Old Z n0 h0) (F_onTheWay_a : Fld Z h0 a "com/example/hashmesh/hashmesh/mesh/Congestion" "onTheWay" "I" (.int i)) (F_window_a : Fld Z h0 a "com/example/hashmesh/hashmesh/mesh/Congestion" "window" "D" (.double (4607182418800017408 : UInt64))) :
    MetFree l (⟨"com/example/hashmesh/hashmesh/mesh/Congestion", "hasRoom", "()Z"⟩ : MethodName) (head1 (Jvm.Cond.code (⟨"com/example/hashmesh/hashmesh/mesh/Congestion", "hasRoom", "()Z"⟩ : MethodName) prog_61_method_2_code 1 (some .boolean) :: ws) ({ frames := 0, cells := 0, slots := 0, locals := 0 } : Room)) (fun aA uU => aA = #[(.ref a)] ∧ Z.Warmed39 uU.vm ∧ uU.heap = h0) (fun _ _ _ _ _ => True) (fun _ uU oO uU' => ∃ vV lL, oO = .returned vV ∧ Q10_1 Z a i  h0 n0 vV uU'.heap lL ∧ FrameEnd uU oO uU' lL ({ frames := 0, cells := 0, slots := 0, locals := 0 } : Room).cells ({ frames := 0, cells := 0, slots := 0, locals := 0 } : Room).slots) := by
  refine MetFree.of_bodySF (plainFor_of_name pn_com_example_hashmesh_hashmesh_mesh_Congestion) hisR ?_
  intro p e s m args below meth c s₁ Bd hml0 hP hK
  obtain ⟨rfl, hZ, hh⟩ := hP
  have hx := Bd.exec
  have hby := Bd.bytes
  have hml : c.maxLocals = 1 := hml0
  have hown : s.vm.findClass "com/example/hashmesh/hashmesh/mesh/Congestion" = some m.cls := findClass_of_methodNamed Bd.named
  have hnm := (name_of_methodNamed Bd.named Bd.method).1
  have X0 : Stand p l e ({ frames := 0, cells := 0, slots := 0, locals := 0 } : Room) s m #[(.ref a)] below meth c s₁ [] 0 0 := Stand.of_body Bd
  have e0 : s₁.heap = h0 := by rw [← hh, Bd.state]; rfl
  have N0 := Fr.nil n0
  have O := O0
  have pre0 : ∀ t, Steps p.tables e below (s₁.setTop (mkF m 0 #[.val (.ref a)] [])) t → Steps p.tables e below (s₁.setTop (entryFrame m #[(.ref a)] 1)) t := fun t k => castTop (ef_10_1 m a) k
  obtain ⟨T1, X1, e1, st1⟩ := getF X0 hx hZ hown (host := "") (Or.inl (hw _ (List.mem_of_getElem? (i := 78) rfl))) Via.refl e0 F_onTheWay_a (g := (mkF m 1 #[.val (.ref a)] [(.ref a)])) rfl rfl (hb hby d10_1)
  obtain ⟨T2, X2, e2, st2⟩ := getF X1 hx hZ hown (host := "") (Or.inl (hw _ (List.mem_of_getElem? (i := 14) rfl))) Via.refl e1 F_window_a (g := (mkF m 5 #[.val (.ref a)] [(.ref a), (.int i)])) rfl rfl (hb hby d10_5)
  have w3 : ∀ t, Steps p.tables e below (T2.setTop (mkF m 9 #[.val (.ref a)] [(.int (1 : Int32)), (.int i)])) t → Steps p.tables e below (s₁.setTop (entryFrame m #[(.ref a)] 1)) t := fun t k => by
    refine pre0 t ?_
    refine XS.aloadN X0.here hx rfl (hb hby d10_0) rfl rfl ?_
    show Steps p.tables e below (s₁.setTop (mkF m 1 #[.val (.ref a)] [(.ref a)])) _
    refine st1 _ ?_
    show Steps p.tables e below (T1.setTop (mkF m 4 #[.val (.ref a)] [(.int i)])) _
    refine XS.aloadN X1.here hx rfl (hb hby d10_4) rfl rfl ?_
    show Steps p.tables e below (T1.setTop (mkF m 5 #[.val (.ref a)] [(.ref a), (.int i)])) _
    refine st2 _ ?_
    show Steps p.tables e below (T2.setTop (mkF m 8 #[.val (.ref a)] [(.double (4607182418800017408 : UInt64)), (.int i)])) _
    refine XS.d2iS X2.here hx rfl (hb hby d10_8) rfl (v := (1 : Int32)) (by decide +kernel) ?_
    show Steps p.tables e below (T2.setTop (mkF m 9 #[.val (.ref a)] [(.int (1 : Int32)), (.int i)])) _
    exact k
  by_cases hc9_4 : i < (1 : Int32)
  · have w5 : ∀ t, Steps p.tables e below (T2.setTop (mkF m 17 #[.val (.ref a)] [(.int (1 : Int32))])) t → Steps p.tables e below (s₁.setTop (entryFrame m #[(.ref a)] 1)) t := fun t k => by
      refine w3 t ?_
      refine XS.icmpNo X2.here hx rfl (hb hby d10_9) rfl (tlt hc9_4).2.1 ?_
      show Steps p.tables e below (T2.setTop (mkF m 12 #[.val (.ref a)] [])) _
      refine XS.iconst X2.here hx rfl (hb hby d10_12) ?_
      show Steps p.tables e below (T2.setTop (mkF m 13 #[.val (.ref a)] [(.int (1 : Int32))])) _
      refine XS.goto X2.here hx rfl (pc0 := 13) (pc' := 17) rfl (hb hby d10_13) (by decide) (by decide) ?_
      show Steps p.tables e below (T2.setTop (mkF m 17 #[.val (.ref a)] [(.int (1 : Int32))])) _
      exact k
    obtain ⟨fs, hr, hrun, hended, hW, hsame⟩ := X2.leave (v := some (.int (1 : Int32))) (fun h => by rw [Bd.returns] at h; cases h)
    refine ⟨_, _, w5 _ ?_, hrun, hended, _, _, rfl, ?_, ⟨_, rfl⟩, hW, hsame.mono (by decide) (by decide)⟩
    · exact retN X2 hx (t := .boolean) Bd.returns (by simp) (hb hby d10_17) hr
    · show Q10_1 Z a i  h0 n0 _ T2.heap _
      rw [e2]
      exact ⟨(by simp [own_h, hc9_4]), N0, rfl⟩
  · have w6 : ∀ t, Steps p.tables e below (T2.setTop (mkF m 17 #[.val (.ref a)] [(.int (0 : Int32))])) t → Steps p.tables e below (s₁.setTop (entryFrame m #[(.ref a)] 1)) t := fun t k => by
      refine w3 t ?_
      refine XS.icmpYes X2.here hx rfl (pc0 := 9) (pc' := 16) rfl (hb hby d10_9) rfl (flt hc9_4).2.1 (by decide) (by decide) ?_
      show Steps p.tables e below (T2.setTop (mkF m 16 #[.val (.ref a)] [])) _
      refine XS.iconst X2.here hx rfl (hb hby d10_16) ?_
      show Steps p.tables e below (T2.setTop (mkF m 17 #[.val (.ref a)] [(.int (0 : Int32))])) _
      exact k
    obtain ⟨fs, hr, hrun, hended, hW, hsame⟩ := X2.leave (v := some (.int (0 : Int32))) (fun h => by rw [Bd.returns] at h; cases h)
    refine ⟨_, _, w6 _ ?_, hrun, hended, _, _, rfl, ?_, ⟨_, rfl⟩, hW, hsame.mono (by decide) (by decide)⟩
    · exact retN X2 hx (t := .boolean) Bd.returns (by simp) (hb hby d10_17) hr
    · show Q10_1 Z a i  h0 n0 _ T2.heap _
      rw [e2]
      exact ⟨(by simp [own_h, hc9_4]), N0, rfl⟩
theorem ef_10_2 (m : MethodId) (x0 : Addr) : entryFrame m #[(.ref x0)] 1 = mkF m 0 #[.val (.ref x0)] [] := by first | (simp [entryFrame, mkF, argsToLocals, Value.category]; done) | rfl
def Q10_2 (Z : State) (a : Addr) (i : Int32) (h0 : Heap) (n0 : Nat) (v : Option Value) (h : Heap) (L : List Loc) : Prop := v = some (.int (own_h i (2 : Int32))) ∧ Fr n0 L ∧ h = h0
set_option maxRecDepth 65536 in
set_option maxHeartbeats 40000000 in
theorem rm10_2 (l : Launch) (Z : State) (a0 : Array Value) (hw : ∀ d ∈ tables_1, d.before a0 Z = true) (ws : List Jvm.Cond) (a : Addr) (i : Int32) (h0 : Heap) (n0 : Nat) (O0 : Old Z n0 h0) (F_onTheWay_a : Fld Z h0 a "com/example/hashmesh/hashmesh/mesh/Congestion" "onTheWay" "I" (.int i)) (F_window_a : Fld Z h0 a "com/example/hashmesh/hashmesh/mesh/Congestion" "window" "D" (.double (4611686018427387904 : UInt64))) :
    MetFree l (⟨"com/example/hashmesh/hashmesh/mesh/Congestion", "hasRoom", "()Z"⟩ : MethodName) (head1 (Jvm.Cond.code (⟨"com/example/hashmesh/hashmesh/mesh/Congestion", "hasRoom", "()Z"⟩ : MethodName) prog_61_method_2_code 1 (some .boolean) :: ws) ({ frames := 0, cells := 0, slots := 0, locals := 0 } : Room)) (fun aA uU => aA = #[(.ref a)] ∧ Z.Warmed39 uU.vm ∧ uU.heap = h0) (fun _ _ _ _ _ => True) (fun _ uU oO uU' => ∃ vV lL, oO = .returned vV ∧ Q10_2 Z a i  h0 n0 vV uU'.heap lL ∧ FrameEnd uU oO uU' lL ({ frames := 0, cells := 0, slots := 0, locals := 0 } : Room).cells ({ frames := 0, cells := 0, slots := 0, locals := 0 } : Room).slots) := by
  refine MetFree.of_bodySF (plainFor_of_name pn_com_example_hashmesh_hashmesh_mesh_Congestion) hisR ?_
  intro p e s m args below meth c s₁ Bd hml0 hP hK
  obtain ⟨rfl, hZ, hh⟩ := hP
  have hx := Bd.exec
  have hby := Bd.bytes
  have hml : c.maxLocals = 1 := hml0
  have hown : s.vm.findClass "com/example/hashmesh/hashmesh/mesh/Congestion" = some m.cls := findClass_of_methodNamed Bd.named
  have hnm := (name_of_methodNamed Bd.named Bd.method).1
  have X0 : Stand p l e ({ frames := 0, cells := 0, slots := 0, locals := 0 } : Room) s m #[(.ref a)] below meth c s₁ [] 0 0 := Stand.of_body Bd
  have e0 : s₁.heap = h0 := by rw [← hh, Bd.state]; rfl
  have N0 := Fr.nil n0
  have O := O0
  have pre0 : ∀ t, Steps p.tables e below (s₁.setTop (mkF m 0 #[.val (.ref a)] [])) t → Steps p.tables e below (s₁.setTop (entryFrame m #[(.ref a)] 1)) t := fun t k => castTop (ef_10_2 m a) k
  obtain ⟨T1, X1, e1, st1⟩ := getF X0 hx hZ hown (host := "") (Or.inl (hw _ (List.mem_of_getElem? (i := 78) rfl))) Via.refl e0 F_onTheWay_a (g := (mkF m 1 #[.val (.ref a)] [(.ref a)])) rfl rfl (hb hby d10_1)
  obtain ⟨T2, X2, e2, st2⟩ := getF X1 hx hZ hown (host := "") (Or.inl (hw _ (List.mem_of_getElem? (i := 14) rfl))) Via.refl e1 F_window_a (g := (mkF m 5 #[.val (.ref a)] [(.ref a), (.int i)])) rfl rfl (hb hby d10_5)
  have w3 : ∀ t, Steps p.tables e below (T2.setTop (mkF m 9 #[.val (.ref a)] [(.int (2 : Int32)), (.int i)])) t → Steps p.tables e below (s₁.setTop (entryFrame m #[(.ref a)] 1)) t := fun t k => by
    refine pre0 t ?_
    refine XS.aloadN X0.here hx rfl (hb hby d10_0) rfl rfl ?_
    show Steps p.tables e below (s₁.setTop (mkF m 1 #[.val (.ref a)] [(.ref a)])) _
    refine st1 _ ?_
    show Steps p.tables e below (T1.setTop (mkF m 4 #[.val (.ref a)] [(.int i)])) _
    refine XS.aloadN X1.here hx rfl (hb hby d10_4) rfl rfl ?_
    show Steps p.tables e below (T1.setTop (mkF m 5 #[.val (.ref a)] [(.ref a), (.int i)])) _
    refine st2 _ ?_
    show Steps p.tables e below (T2.setTop (mkF m 8 #[.val (.ref a)] [(.double (4611686018427387904 : UInt64)), (.int i)])) _
    refine XS.d2iS X2.here hx rfl (hb hby d10_8) rfl (v := (2 : Int32)) (by decide +kernel) ?_
    show Steps p.tables e below (T2.setTop (mkF m 9 #[.val (.ref a)] [(.int (2 : Int32)), (.int i)])) _
    exact k
  by_cases hc9_4 : i < (2 : Int32)
  · have w5 : ∀ t, Steps p.tables e below (T2.setTop (mkF m 17 #[.val (.ref a)] [(.int (1 : Int32))])) t → Steps p.tables e below (s₁.setTop (entryFrame m #[(.ref a)] 1)) t := fun t k => by
      refine w3 t ?_
      refine XS.icmpNo X2.here hx rfl (hb hby d10_9) rfl (tlt hc9_4).2.1 ?_
      show Steps p.tables e below (T2.setTop (mkF m 12 #[.val (.ref a)] [])) _
      refine XS.iconst X2.here hx rfl (hb hby d10_12) ?_
      show Steps p.tables e below (T2.setTop (mkF m 13 #[.val (.ref a)] [(.int (1 : Int32))])) _
      refine XS.goto X2.here hx rfl (pc0 := 13) (pc' := 17) rfl (hb hby d10_13) (by decide) (by decide) ?_
      show Steps p.tables e below (T2.setTop (mkF m 17 #[.val (.ref a)] [(.int (1 : Int32))])) _
      exact k
    obtain ⟨fs, hr, hrun, hended, hW, hsame⟩ := X2.leave (v := some (.int (1 : Int32))) (fun h => by rw [Bd.returns] at h; cases h)
    refine ⟨_, _, w5 _ ?_, hrun, hended, _, _, rfl, ?_, ⟨_, rfl⟩, hW, hsame.mono (by decide) (by decide)⟩
    · exact retN X2 hx (t := .boolean) Bd.returns (by simp) (hb hby d10_17) hr
    · show Q10_2 Z a i  h0 n0 _ T2.heap _
      rw [e2]
      exact ⟨(by simp [own_h, hc9_4]), N0, rfl⟩
  · have w6 : ∀ t, Steps p.tables e below (T2.setTop (mkF m 17 #[.val (.ref a)] [(.int (0 : Int32))])) t → Steps p.tables e below (s₁.setTop (entryFrame m #[(.ref a)] 1)) t := fun t k => by
      refine w3 t ?_
      refine XS.icmpYes X2.here hx rfl (pc0 := 9) (pc' := 16) rfl (hb hby d10_9) rfl (flt hc9_4).2.1 (by decide) (by decide) ?_
      show Steps p.tables e below (T2.setTop (mkF m 16 #[.val (.ref a)] [])) _
      refine XS.iconst X2.here hx rfl (hb hby d10_16) ?_
      show Steps p.tables e below (T2.setTop (mkF m 17 #[.val (.ref a)] [(.int (0 : Int32))])) _
      exact k
    obtain ⟨fs, hr, hrun, hended, hW, hsame⟩ := X2.leave (v := some (.int (0 : Int32))) (fun h => by rw [Bd.returns] at h; cases h)
    refine ⟨_, _, w6 _ ?_, hrun, hended, _, _, rfl, ?_, ⟨_, rfl⟩, hW, hsame.mono (by decide) (by decide)⟩
    · exact retN X2 hx (t := .boolean) Bd.returns (by simp) (hb hby d10_17) hr
    · show Q10_2 Z a i  h0 n0 _ T2.heap _
      rw [e2]
      exact ⟨(by simp [own_h, hc9_4]), N0, rfl⟩
theorem ef_10_3 (m : MethodId) (x0 : Addr) : entryFrame m #[(.ref x0)] 1 = mkF m 0 #[.val (.ref x0)] [] := by first | (simp [entryFrame, mkF, argsToLocals, Value.category]; done) | rfl
def Q10_3 (Z : State) (a : Addr) (i : Int32) (h0 : Heap) (n0 : Nat) (v : Option Value) (h : Heap) (L : List Loc) : Prop := v = some (.int (own_h i (2 : Int32))) ∧ Fr n0 L ∧ h = h0
set_option maxRecDepth 65536 in
set_option maxHeartbeats 40000000 in
theorem rm10_3 (l : Launch) (Z : State) (a0 : Array Value) (hw : ∀ d ∈ tables_1, d.before a0 Z = true) (ws : List Jvm.Cond) (a : Addr) (i : Int32) (h0 : Heap) (n0 : Nat) (O0 : Old Z n0 h0) (F_onTheWay_a : Fld Z h0 a "com/example/hashmesh/hashmesh/mesh/Congestion" "onTheWay" "I" (.int i)) (F_window_a : Fld Z h0 a "com/example/hashmesh/hashmesh/mesh/Congestion" "window" "D" (.double (4612811918334230528 : UInt64))) :
    MetFree l (⟨"com/example/hashmesh/hashmesh/mesh/Congestion", "hasRoom", "()Z"⟩ : MethodName) (head1 (Jvm.Cond.code (⟨"com/example/hashmesh/hashmesh/mesh/Congestion", "hasRoom", "()Z"⟩ : MethodName) prog_61_method_2_code 1 (some .boolean) :: ws) ({ frames := 0, cells := 0, slots := 0, locals := 0 } : Room)) (fun aA uU => aA = #[(.ref a)] ∧ Z.Warmed39 uU.vm ∧ uU.heap = h0) (fun _ _ _ _ _ => True) (fun _ uU oO uU' => ∃ vV lL, oO = .returned vV ∧ Q10_3 Z a i  h0 n0 vV uU'.heap lL ∧ FrameEnd uU oO uU' lL ({ frames := 0, cells := 0, slots := 0, locals := 0 } : Room).cells ({ frames := 0, cells := 0, slots := 0, locals := 0 } : Room).slots) := by
  refine MetFree.of_bodySF (plainFor_of_name pn_com_example_hashmesh_hashmesh_mesh_Congestion) hisR ?_
  intro p e s m args below meth c s₁ Bd hml0 hP hK
  obtain ⟨rfl, hZ, hh⟩ := hP
  have hx := Bd.exec
  have hby := Bd.bytes
  have hml : c.maxLocals = 1 := hml0
  have hown : s.vm.findClass "com/example/hashmesh/hashmesh/mesh/Congestion" = some m.cls := findClass_of_methodNamed Bd.named
  have hnm := (name_of_methodNamed Bd.named Bd.method).1
  have X0 : Stand p l e ({ frames := 0, cells := 0, slots := 0, locals := 0 } : Room) s m #[(.ref a)] below meth c s₁ [] 0 0 := Stand.of_body Bd
  have e0 : s₁.heap = h0 := by rw [← hh, Bd.state]; rfl
  have N0 := Fr.nil n0
  have O := O0
  have pre0 : ∀ t, Steps p.tables e below (s₁.setTop (mkF m 0 #[.val (.ref a)] [])) t → Steps p.tables e below (s₁.setTop (entryFrame m #[(.ref a)] 1)) t := fun t k => castTop (ef_10_3 m a) k
  obtain ⟨T1, X1, e1, st1⟩ := getF X0 hx hZ hown (host := "") (Or.inl (hw _ (List.mem_of_getElem? (i := 78) rfl))) Via.refl e0 F_onTheWay_a (g := (mkF m 1 #[.val (.ref a)] [(.ref a)])) rfl rfl (hb hby d10_1)
  obtain ⟨T2, X2, e2, st2⟩ := getF X1 hx hZ hown (host := "") (Or.inl (hw _ (List.mem_of_getElem? (i := 14) rfl))) Via.refl e1 F_window_a (g := (mkF m 5 #[.val (.ref a)] [(.ref a), (.int i)])) rfl rfl (hb hby d10_5)
  have w3 : ∀ t, Steps p.tables e below (T2.setTop (mkF m 9 #[.val (.ref a)] [(.int (2 : Int32)), (.int i)])) t → Steps p.tables e below (s₁.setTop (entryFrame m #[(.ref a)] 1)) t := fun t k => by
    refine pre0 t ?_
    refine XS.aloadN X0.here hx rfl (hb hby d10_0) rfl rfl ?_
    show Steps p.tables e below (s₁.setTop (mkF m 1 #[.val (.ref a)] [(.ref a)])) _
    refine st1 _ ?_
    show Steps p.tables e below (T1.setTop (mkF m 4 #[.val (.ref a)] [(.int i)])) _
    refine XS.aloadN X1.here hx rfl (hb hby d10_4) rfl rfl ?_
    show Steps p.tables e below (T1.setTop (mkF m 5 #[.val (.ref a)] [(.ref a), (.int i)])) _
    refine st2 _ ?_
    show Steps p.tables e below (T2.setTop (mkF m 8 #[.val (.ref a)] [(.double (4612811918334230528 : UInt64)), (.int i)])) _
    refine XS.d2iS X2.here hx rfl (hb hby d10_8) rfl (v := (2 : Int32)) (by decide +kernel) ?_
    show Steps p.tables e below (T2.setTop (mkF m 9 #[.val (.ref a)] [(.int (2 : Int32)), (.int i)])) _
    exact k
  by_cases hc9_4 : i < (2 : Int32)
  · have w5 : ∀ t, Steps p.tables e below (T2.setTop (mkF m 17 #[.val (.ref a)] [(.int (1 : Int32))])) t → Steps p.tables e below (s₁.setTop (entryFrame m #[(.ref a)] 1)) t := fun t k => by
      refine w3 t ?_
      refine XS.icmpNo X2.here hx rfl (hb hby d10_9) rfl (tlt hc9_4).2.1 ?_
      show Steps p.tables e below (T2.setTop (mkF m 12 #[.val (.ref a)] [])) _
      refine XS.iconst X2.here hx rfl (hb hby d10_12) ?_
      show Steps p.tables e below (T2.setTop (mkF m 13 #[.val (.ref a)] [(.int (1 : Int32))])) _
      refine XS.goto X2.here hx rfl (pc0 := 13) (pc' := 17) rfl (hb hby d10_13) (by decide) (by decide) ?_
      show Steps p.tables e below (T2.setTop (mkF m 17 #[.val (.ref a)] [(.int (1 : Int32))])) _
      exact k
    obtain ⟨fs, hr, hrun, hended, hW, hsame⟩ := X2.leave (v := some (.int (1 : Int32))) (fun h => by rw [Bd.returns] at h; cases h)
    refine ⟨_, _, w5 _ ?_, hrun, hended, _, _, rfl, ?_, ⟨_, rfl⟩, hW, hsame.mono (by decide) (by decide)⟩
    · exact retN X2 hx (t := .boolean) Bd.returns (by simp) (hb hby d10_17) hr
    · show Q10_3 Z a i  h0 n0 _ T2.heap _
      rw [e2]
      exact ⟨(by simp [own_h, hc9_4]), N0, rfl⟩
  · have w6 : ∀ t, Steps p.tables e below (T2.setTop (mkF m 17 #[.val (.ref a)] [(.int (0 : Int32))])) t → Steps p.tables e below (s₁.setTop (entryFrame m #[(.ref a)] 1)) t := fun t k => by
      refine w3 t ?_
      refine XS.icmpYes X2.here hx rfl (pc0 := 9) (pc' := 16) rfl (hb hby d10_9) rfl (flt hc9_4).2.1 (by decide) (by decide) ?_
      show Steps p.tables e below (T2.setTop (mkF m 16 #[.val (.ref a)] [])) _
      refine XS.iconst X2.here hx rfl (hb hby d10_16) ?_
      show Steps p.tables e below (T2.setTop (mkF m 17 #[.val (.ref a)] [(.int (0 : Int32))])) _
      exact k
    obtain ⟨fs, hr, hrun, hended, hW, hsame⟩ := X2.leave (v := some (.int (0 : Int32))) (fun h => by rw [Bd.returns] at h; cases h)
    refine ⟨_, _, w6 _ ?_, hrun, hended, _, _, rfl, ?_, ⟨_, rfl⟩, hW, hsame.mono (by decide) (by decide)⟩
    · exact retN X2 hx (t := .boolean) Bd.returns (by simp) (hb hby d10_17) hr
    · show Q10_3 Z a i  h0 n0 _ T2.heap _
      rw [e2]
      exact ⟨(by simp [own_h, hc9_4]), N0, rfl⟩
theorem own_7 (x : Int32) : (x &&& (7 : Int32)) = (0 : Int32) ∨ (x &&& (7 : Int32)) = (1 : Int32) ∨ (x &&& (7 : Int32)) = (2 : Int32) ∨ (x &&& (7 : Int32)) = (3 : Int32) ∨ (x &&& (7 : Int32)) = (4 : Int32) ∨ (x &&& (7 : Int32)) = (5 : Int32) ∨ (x &&& (7 : Int32)) = (6 : Int32) ∨ (x &&& (7 : Int32)) = (7 : Int32) := by
  have e := c_mask x 7 3 (by decide) (by decide)
  simp only [← Int32.toInt_inj, show (0 : Int32).toInt = 0 from rfl, show (1 : Int32).toInt = 1 from rfl, show (2 : Int32).toInt = 2 from rfl, show (3 : Int32).toInt = 3 from rfl, show (4 : Int32).toInt = 4 from rfl, show (5 : Int32).toInt = 5 from rfl, show (6 : Int32).toInt = 6 from rfl, show (7 : Int32).toInt = 7 from rfl]
  omega
theorem own_3 (x : Int32) : (x &&& (3 : Int32)) = (0 : Int32) ∨ (x &&& (3 : Int32)) = (1 : Int32) ∨ (x &&& (3 : Int32)) = (2 : Int32) ∨ (x &&& (3 : Int32)) = (3 : Int32) := by
  have e := c_mask x 3 2 (by decide) (by decide)
  simp only [← Int32.toInt_inj, show (0 : Int32).toInt = 0 from rfl, show (1 : Int32).toInt = 1 from rfl, show (2 : Int32).toInt = 2 from rfl, show (3 : Int32).toInt = 3 from rfl, show (4 : Int32).toInt = 4 from rfl, show (5 : Int32).toInt = 5 from rfl, show (6 : Int32).toInt = 6 from rfl, show (7 : Int32).toInt = 7 from rfl]
  omega
theorem own_a (x : Int32) : (own_mi (x &&& (7 : Int32)) (4 : Int32)) = (0 : Int32) ∨ (own_mi (x &&& (7 : Int32)) (4 : Int32)) = (1 : Int32) ∨ (own_mi (x &&& (7 : Int32)) (4 : Int32)) = (2 : Int32) ∨ (own_mi (x &&& (7 : Int32)) (4 : Int32)) = (3 : Int32) ∨ (own_mi (x &&& (7 : Int32)) (4 : Int32)) = (4 : Int32) := by
  rcases own_7 x with h | h | h | h | h | h | h | h <;> rw [h] <;> decide
theorem own_b0 (x : Int32) : (own_mi (x &&& (3 : Int32)) (own_mi (0 : Int32) (2 : Int32))) = (0 : Int32) := by
  rcases own_3 x with h | h | h | h <;> rw [h] <;> decide
theorem own_b1 (x : Int32) : (own_mi (x &&& (3 : Int32)) (own_mi (1 : Int32) (2 : Int32))) = (0 : Int32) ∨ (own_mi (x &&& (3 : Int32)) (own_mi (1 : Int32) (2 : Int32))) = (1 : Int32) := by
  rcases own_3 x with h | h | h | h <;> rw [h] <;> decide
theorem own_b2 (x : Int32) : (own_mi (x &&& (3 : Int32)) (own_mi (2 : Int32) (2 : Int32))) = (0 : Int32) ∨ (own_mi (x &&& (3 : Int32)) (own_mi (2 : Int32) (2 : Int32))) = (1 : Int32) ∨ (own_mi (x &&& (3 : Int32)) (own_mi (2 : Int32) (2 : Int32))) = (2 : Int32) := by
  rcases own_3 x with h | h | h | h <;> rw [h] <;> decide
theorem own_b3 (x : Int32) : (own_mi (x &&& (3 : Int32)) (own_mi (3 : Int32) (2 : Int32))) = (0 : Int32) ∨ (own_mi (x &&& (3 : Int32)) (own_mi (3 : Int32) (2 : Int32))) = (1 : Int32) ∨ (own_mi (x &&& (3 : Int32)) (own_mi (3 : Int32) (2 : Int32))) = (2 : Int32) := by
  rcases own_3 x with h | h | h | h <;> rw [h] <;> decide
theorem own_b4 (x : Int32) : (own_mi (x &&& (3 : Int32)) (own_mi (4 : Int32) (2 : Int32))) = (0 : Int32) ∨ (own_mi (x &&& (3 : Int32)) (own_mi (4 : Int32) (2 : Int32))) = (1 : Int32) ∨ (own_mi (x &&& (3 : Int32)) (own_mi (4 : Int32) (2 : Int32))) = (2 : Int32) := by
  rcases own_3 x with h | h | h | h <;> rw [h] <;> decide
def own_F0 (x0 : Int32) (x1 : Int64) : Array Slot := #[.val (.int x0), .val (.long x1), .second, .unset, .unset, .unset, .unset, .unset]
def own_F1 (x0 : Int32) (x1 : Int64) (x3 : Int32) : Array Slot := #[.val (.int x0), .val (.long x1), .second, .val (.int x3), .unset, .unset, .unset, .unset]
def own_F2 (x0 : Int32) (x1 : Int64) (x3 : Int32) (x4 : Int32) : Array Slot := #[.val (.int x0), .val (.long x1), .second, .val (.int x3), .val (.int x4), .unset, .unset, .unset]
theorem pd__40_41V : parseMethodDescriptor "()V" = some ⟨[], none⟩ := by decide +kernel
def own_F3 (x0 : Int32) (x1 : Int64) (x3 : Int32) (x4 : Int32) (x5 : Addr) : Array Slot := #[.val (.int x0), .val (.long x1), .second, .val (.int x3), .val (.int x4), .val (.ref x5), .unset, .unset]
theorem pd__40J_41V : parseMethodDescriptor "(J)V" = some ⟨[.long], none⟩ := by decide +kernel
def own_F4 (x0 : Int32) (x1 : Int64) (x3 : Int32) (x4 : Int32) (x5 : Addr) (x6 : Int32) : Array Slot := #[.val (.int x0), .val (.long x1), .second, .val (.int x3), .val (.int x4), .val (.ref x5), .val (.int x6), .unset]
def own_F5 (x0 : Int32) (x1 : Int64) (x3 : Int32) (x4 : Int32) (x5 : Addr) (x6 : Int32) (x7 : Int32) : Array Slot := #[.val (.int x0), .val (.long x1), .second, .val (.int x3), .val (.int x4), .val (.ref x5), .val (.int x6), .val (.int x7)]
theorem pn_com_example_hashmesh_hashmesh_mesh_CongestionHasRoomPinLaw : plainName "com/example/hashmesh/hashmesh/mesh/CongestionHasRoomPinLaw" = true := by first | (simp [plainName, overriddenIn]; done) | decide +kernel
theorem ef_0 (m : MethodId) (x0 : Int32) (x1 : Int64) : entryFrame m #[(.int x0), (.long x1)] maxLocals = mkF m 0 #[.val (.int x0), .val (.long x1), .second, .unset, .unset, .unset, .unset, .unset] [] := by first | (simp [entryFrame, mkF, argsToLocals, Value.category, maxLocals]; done) | rfl
def Q0 (Z : State) (x1 : Int32) (q : Int64) (h0 : Heap) (n0 : Nat) (v : Option Value) (h : Heap) (L : List Loc) : Prop := v = some (.int (1 : Int32)) ∧ Fr n0 L
set_option maxRecDepth 65536 in
set_option maxHeartbeats 40000000 in
theorem rm0 (l : Launch) (Z : State) (a0 : Array Value) (hw : ∀ d ∈ tables_1, d.before a0 Z = true) (ws : List Jvm.Cond) (x1 : Int32) (q : Int64) (h0 : Heap) (n0 : Nat) (O0 : Old Z n0 h0) :
    MetFree l x (head1 (Jvm.Cond.code x code maxLocals ret :: ws) room_1) (fun aA uU => aA = #[(.int x1), (.long q)] ∧ Z.Warmed39 uU.vm ∧ uU.heap = h0) (fun _ _ _ _ _ => True) (fun _ uU oO uU' => ∃ vV lL, oO = .returned vV ∧ Q0 Z x1 q  h0 n0 vV uU'.heap lL ∧ FrameEnd uU oO uU' lL room_1.cells room_1.slots) := by
  refine MetFree.of_bodySF (plainFor_of_name pn_com_example_hashmesh_hashmesh_mesh_CongestionHasRoomPinLaw) hisR ?_
  intro p e s m args below meth c s₁ Bd hml0 hP hK
  obtain ⟨rfl, hZ, hh⟩ := hP
  have hx := Bd.exec
  have hby := Bd.bytes
  have hml : c.maxLocals = 8 := hml0
  have hown : s.vm.findClass "com/example/hashmesh/hashmesh/mesh/CongestionHasRoomPinLaw" = some m.cls := findClass_of_methodNamed Bd.named
  have hnm := (name_of_methodNamed Bd.named Bd.method).1
  have X0 : Stand p l e room_1 s m #[(.int x1), (.long q)] below meth c s₁ [] 0 0 := Stand.of_body Bd
  have e0 : s₁.heap = h0 := by rw [← hh, Bd.state]; rfl
  have N0 := Fr.nil n0
  have O := O0
  have pre0 : ∀ t, Steps p.tables e below (s₁.setTop (mkF m 0 #[.val (.int x1), .val (.long q), .second, .unset, .unset, .unset, .unset, .unset] [])) t → Steps p.tables e below (s₁.setTop (entryFrame m #[(.int x1), (.long q)] maxLocals)) t := fun t k => castTop (ef_0 m x1 q) k
  obtain ⟨_, _, ⟨T1, L1, k1, n1⟩, -, X1, ⟨Lc1, hQ1, l1, y1, z1⟩, st1⟩ := Jvm.LawKit.callS X0 hx (y := (⟨"java/lang/Math", "min", "(II)I"⟩ : MethodName)) hown (mvT hZ (hw _ (List.mem_of_getElem? (i := 0) rfl))) (mvT hZ (hw _ (List.mem_of_getElem? (i := 1) rfl))) (mvT hZ (hw _ (List.mem_of_getElem? (i := 2) rfl))) (mvT hZ (hw _ (List.mem_of_getElem? (i := 3) rfl))) (by decide) (backOf (W := 0) (rm1 l Z a0 hw [] (x1 &&& (7 : Int32)) (4 : Int32) h0 n0 O ) hZ (hw _ (List.mem_of_getElem? (i := 3) rfl)) (hw _ (List.mem_of_getElem? (i := 2) rfl)) (by decide) (by decide)) (g := (mkF m 5 (own_F0 x1 q) [(.int (4 : Int32)), (.int (x1 &&& (7 : Int32)))])) rfl (by rw [hml]; rfl) (argsL := [(.int (x1 &&& (7 : Int32))), (.int (4 : Int32))]) (rest := []) (lenOf pd__40II_41I rfl) rfl (by show 2 * 0 + _ ≤ _; exact Nat.le_of_eq rfl) (hb hby at_5) (fun _ _ => ⟨rfl, e0, (by decide : 0 + 0 ≤ _), (by decide : 0 + 0 ≤ _)⟩)
  dsimp only [Pt.U, Pt.locs, Pt.cells, Pt.slots] at X1 l1 y1 z1 st1 hQ1
  subst l1 y1 z1
  obtain ⟨rfl, N1q, eh1⟩ := hQ1
  have N1 := Fr.app N0 N1q
  obtain ⟨_, _, ⟨T2, L2, k2, n2⟩, -, X2, ⟨Lc2, hQ2, l2, y2, z2⟩, st2⟩ := Jvm.LawKit.callS X1 hx (y := (⟨"java/lang/Math", "min", "(II)I"⟩ : MethodName)) hown (mvT hZ (hw _ (List.mem_of_getElem? (i := 0) rfl))) (mvT hZ (hw _ (List.mem_of_getElem? (i := 1) rfl))) (mvT hZ (hw _ (List.mem_of_getElem? (i := 2) rfl))) (mvT hZ (hw _ (List.mem_of_getElem? (i := 3) rfl))) (by decide) (backOf (W := 1) (rm1 l Z a0 hw [] (own_mi (x1 &&& (7 : Int32)) (4 : Int32)) (2 : Int32) h0 n0 O ) hZ (hw _ (List.mem_of_getElem? (i := 3) rfl)) (hw _ (List.mem_of_getElem? (i := 2) rfl)) (by decide) (by decide)) (g := (mkF m 16 (own_F1 x1 q (own_mi (x1 &&& (7 : Int32)) (4 : Int32))) [(.int (2 : Int32)), (.int (own_mi (x1 &&& (7 : Int32)) (4 : Int32))), (.int (((x1.toUInt32 >>> ((3 : Int32) &&& 31).toUInt32).toInt32) &&& (3 : Int32)))])) rfl (by rw [hml]; rfl) (argsL := [(.int (own_mi (x1 &&& (7 : Int32)) (4 : Int32))), (.int (2 : Int32))]) (rest := [(.int (((x1.toUInt32 >>> ((3 : Int32) &&& 31).toUInt32).toInt32) &&& (3 : Int32)))]) (lenOf pd__40II_41I rfl) rfl (by show 2 * 0 + _ ≤ _; exact Nat.le_of_eq rfl) (hb hby at_16) (fun _ _ => ⟨rfl, eh1, (by decide : 0 + 0 ≤ _), (by decide : 0 + 0 ≤ _)⟩)
  dsimp only [Pt.U, Pt.locs, Pt.cells, Pt.slots] at X2 l2 y2 z2 st2 hQ2
  subst l2 y2 z2
  obtain ⟨rfl, N2q, eh2⟩ := hQ2
  have N2 := Fr.app N1 N2q
  obtain ⟨_, _, ⟨T3, L3, k3, n3⟩, -, X3, ⟨Lc3, hQ3, l3, y3, z3⟩, st3⟩ := Jvm.LawKit.callS X2 hx (y := (⟨"java/lang/Math", "min", "(II)I"⟩ : MethodName)) hown (mvT hZ (hw _ (List.mem_of_getElem? (i := 0) rfl))) (mvT hZ (hw _ (List.mem_of_getElem? (i := 1) rfl))) (mvT hZ (hw _ (List.mem_of_getElem? (i := 2) rfl))) (mvT hZ (hw _ (List.mem_of_getElem? (i := 3) rfl))) (by decide) (backOf (W := 0) (rm1 l Z a0 hw [] (((x1.toUInt32 >>> ((3 : Int32) &&& 31).toUInt32).toInt32) &&& (3 : Int32)) (own_mi (own_mi (x1 &&& (7 : Int32)) (4 : Int32)) (2 : Int32)) h0 n0 O ) hZ (hw _ (List.mem_of_getElem? (i := 3) rfl)) (hw _ (List.mem_of_getElem? (i := 2) rfl)) (by decide) (by decide)) (g := (mkF m 19 (own_F1 x1 q (own_mi (x1 &&& (7 : Int32)) (4 : Int32))) [(.int (own_mi (own_mi (x1 &&& (7 : Int32)) (4 : Int32)) (2 : Int32))), (.int (((x1.toUInt32 >>> ((3 : Int32) &&& 31).toUInt32).toInt32) &&& (3 : Int32)))])) rfl (by rw [hml]; rfl) (argsL := [(.int (((x1.toUInt32 >>> ((3 : Int32) &&& 31).toUInt32).toInt32) &&& (3 : Int32))), (.int (own_mi (own_mi (x1 &&& (7 : Int32)) (4 : Int32)) (2 : Int32)))]) (rest := []) (lenOf pd__40II_41I rfl) rfl (by show 2 * 0 + _ ≤ _; exact Nat.le_of_eq rfl) (hb hby at_19) (fun _ _ => ⟨rfl, eh2, (by decide : 0 + 0 ≤ _), (by decide : 0 + 0 ≤ _)⟩)
  dsimp only [Pt.U, Pt.locs, Pt.cells, Pt.slots] at X3 l3 y3 z3 st3 hQ3
  subst l3 y3 z3
  obtain ⟨rfl, N3q, eh3⟩ := hQ3
  have N3 := Fr.app N2 N3q
  have w4 : ∀ t, Steps p.tables e below (T3.setTop (mkF m 24 (own_F2 x1 q (own_mi (x1 &&& (7 : Int32)) (4 : Int32)) (own_mi (((x1.toUInt32 >>> ((3 : Int32) &&& 31).toUInt32).toInt32) &&& (3 : Int32)) (own_mi (own_mi (x1 &&& (7 : Int32)) (4 : Int32)) (2 : Int32)))) [])) t → Steps p.tables e below (s₁.setTop (entryFrame m #[(.int x1), (.long q)] maxLocals)) t := fun t k => by
    refine pre0 t ?_
    refine XS.iloadN X0.here hx rfl (hb hby at_0) rfl ?_
    show Steps p.tables e below (s₁.setTop (mkF m 1 (own_F0 x1 q) [(.int x1)])) _
    refine XS.bipush X0.here hx rfl (hb hby at_1) ?_
    show Steps p.tables e below (s₁.setTop (mkF m 3 (own_F0 x1 q) [(.int (7 : Int32)), (.int x1)])) _
    refine XS.iand X0.here hx rfl (hb hby at_3) rfl ?_
    show Steps p.tables e below (s₁.setTop (mkF m 4 (own_F0 x1 q) [(.int (x1 &&& (7 : Int32)))])) _
    refine XS.iconst X0.here hx rfl (hb hby at_4) ?_
    show Steps p.tables e below (s₁.setTop (mkF m 5 (own_F0 x1 q) [(.int (4 : Int32)), (.int (x1 &&& (7 : Int32)))])) _
    refine st1 _ ?_
    show Steps p.tables e below (T1.setTop (mkF m 8 (own_F0 x1 q) [(.int (own_mi (x1 &&& (7 : Int32)) (4 : Int32)))])) _
    refine XS.istoreN X1.here hx rfl (hb hby at_8) rfl (l' := (own_F1 x1 q (own_mi (x1 &&& (7 : Int32)) (4 : Int32)))) rfl ?_
    show Steps p.tables e below (T1.setTop (mkF m 9 (own_F1 x1 q (own_mi (x1 &&& (7 : Int32)) (4 : Int32))) [])) _
    refine XS.iloadN X1.here hx rfl (hb hby at_9) rfl ?_
    show Steps p.tables e below (T1.setTop (mkF m 10 (own_F1 x1 q (own_mi (x1 &&& (7 : Int32)) (4 : Int32))) [(.int x1)])) _
    refine XS.iconst X1.here hx rfl (hb hby at_10) ?_
    show Steps p.tables e below (T1.setTop (mkF m 11 (own_F1 x1 q (own_mi (x1 &&& (7 : Int32)) (4 : Int32))) [(.int (3 : Int32)), (.int x1)])) _
    refine XS.iushr X1.here hx rfl (hb hby at_11) rfl ?_
    show Steps p.tables e below (T1.setTop (mkF m 12 (own_F1 x1 q (own_mi (x1 &&& (7 : Int32)) (4 : Int32))) [(.int ((x1.toUInt32 >>> ((3 : Int32) &&& 31).toUInt32).toInt32))])) _
    refine XS.iconst X1.here hx rfl (hb hby at_12) ?_
    show Steps p.tables e below (T1.setTop (mkF m 13 (own_F1 x1 q (own_mi (x1 &&& (7 : Int32)) (4 : Int32))) [(.int (3 : Int32)), (.int ((x1.toUInt32 >>> ((3 : Int32) &&& 31).toUInt32).toInt32))])) _
    refine XS.iand X1.here hx rfl (hb hby at_13) rfl ?_
    show Steps p.tables e below (T1.setTop (mkF m 14 (own_F1 x1 q (own_mi (x1 &&& (7 : Int32)) (4 : Int32))) [(.int (((x1.toUInt32 >>> ((3 : Int32) &&& 31).toUInt32).toInt32) &&& (3 : Int32)))])) _
    refine XS.iloadN X1.here hx rfl (hb hby at_14) rfl ?_
    show Steps p.tables e below (T1.setTop (mkF m 15 (own_F1 x1 q (own_mi (x1 &&& (7 : Int32)) (4 : Int32))) [(.int (own_mi (x1 &&& (7 : Int32)) (4 : Int32))), (.int (((x1.toUInt32 >>> ((3 : Int32) &&& 31).toUInt32).toInt32) &&& (3 : Int32)))])) _
    refine XS.iconst X1.here hx rfl (hb hby at_15) ?_
    show Steps p.tables e below (T1.setTop (mkF m 16 (own_F1 x1 q (own_mi (x1 &&& (7 : Int32)) (4 : Int32))) [(.int (2 : Int32)), (.int (own_mi (x1 &&& (7 : Int32)) (4 : Int32))), (.int (((x1.toUInt32 >>> ((3 : Int32) &&& 31).toUInt32).toInt32) &&& (3 : Int32)))])) _
    refine st2 _ ?_
    show Steps p.tables e below (T2.setTop (mkF m 19 (own_F1 x1 q (own_mi (x1 &&& (7 : Int32)) (4 : Int32))) [(.int (own_mi (own_mi (x1 &&& (7 : Int32)) (4 : Int32)) (2 : Int32))), (.int (((x1.toUInt32 >>> ((3 : Int32) &&& 31).toUInt32).toInt32) &&& (3 : Int32)))])) _
    refine st3 _ ?_
    show Steps p.tables e below (T3.setTop (mkF m 22 (own_F1 x1 q (own_mi (x1 &&& (7 : Int32)) (4 : Int32))) [(.int (own_mi (((x1.toUInt32 >>> ((3 : Int32) &&& 31).toUInt32).toInt32) &&& (3 : Int32)) (own_mi (own_mi (x1 &&& (7 : Int32)) (4 : Int32)) (2 : Int32))))])) _
    refine XS.istore X3.here hx rfl (hb hby at_22) rfl (l' := (own_F2 x1 q (own_mi (x1 &&& (7 : Int32)) (4 : Int32)) (own_mi (((x1.toUInt32 >>> ((3 : Int32) &&& 31).toUInt32).toInt32) &&& (3 : Int32)) (own_mi (own_mi (x1 &&& (7 : Int32)) (4 : Int32)) (2 : Int32))))) rfl ?_
    show Steps p.tables e below (T3.setTop (mkF m 24 (own_F2 x1 q (own_mi (x1 &&& (7 : Int32)) (4 : Int32)) (own_mi (((x1.toUInt32 >>> ((3 : Int32) &&& 31).toUInt32).toInt32) &&& (3 : Int32)) (own_mi (own_mi (x1 &&& (7 : Int32)) (4 : Int32)) (2 : Int32)))) [])) _
    exact k
  obtain ⟨va, hva⟩ : ∃ v : Int32, v = (own_mi (x1 &&& (7 : Int32)) (4 : Int32)) := ⟨_, rfl⟩
  rw [← hva] at w4
  obtain ⟨vb, hvb⟩ : ∃ v : Int32, v = (own_mi (((x1.toUInt32 >>> ((3 : Int32) &&& 31).toUInt32).toInt32) &&& (3 : Int32)) (own_mi va (2 : Int32))) := ⟨_, rfl⟩
  rw [← hvb] at w4
  obtain ⟨T5, h5, X5, e5, E5, A5, D5, -, st5⟩ := newO X3 hx hZ hown (hw _ (List.mem_of_getElem? (i := 4) rfl)) (hw _ (List.mem_of_getElem? (i := 5) rfl)) (hw _ (List.mem_of_getElem? (i := 6) rfl)) eh3 (g := (mkF m 24 (own_F2 x1 q va vb) [])) rfl (hb hby at_24) (by decide) (by decide)
  obtain ⟨b5, gq5⟩ : ∃ z, z = Array.size h0 := ⟨_, rfl⟩
  rw [← gq5] at A5 D5 st5
  have g_b5 : n0 ≤ b5 := Nat.le_trans (O.1 ▸ O.2.1) (Nat.le_of_eq gq5.symm)
  have O := O.ext E5
  have F_window_b5 : Fld Z h5 b5 "com/example/hashmesh/hashmesh/mesh/Congestion" "window" "D" (defaultValue .double) := D5 (Or.inl (hw _ (List.mem_of_getElem? (i := 15) rfl))) (ty := .double) (by decide)
  have F_threshold_b5 : Fld Z h5 b5 "com/example/hashmesh/hashmesh/mesh/Congestion" "threshold" "D" (defaultValue .double) := D5 (Or.inl (hw _ (List.mem_of_getElem? (i := 18) rfl))) (ty := .double) (by decide)
  have F_paceAt_b5 : Fld Z h5 b5 "com/example/hashmesh/hashmesh/mesh/Congestion" "paceAt" "D" (defaultValue .double) := D5 (Or.inl (hw _ (List.mem_of_getElem? (i := 21) rfl))) (ty := .double) (by decide)
  have F_smoothedRtt_b5 : Fld Z h5 b5 "com/example/hashmesh/hashmesh/mesh/Congestion" "smoothedRtt" "J" (.long (0 : Int64)) := D5 (Or.inl (hw _ (List.mem_of_getElem? (i := 24) rfl))) (ty := .long) (by decide)
  have F_leastRtt_b5 : Fld Z h5 b5 "com/example/hashmesh/hashmesh/mesh/Congestion" "leastRtt" "J" (.long (0 : Int64)) := D5 (Or.inl (hw _ (List.mem_of_getElem? (i := 27) rfl))) (ty := .long) (by decide)
  have F_latestRtts_b5 : Fld Z h5 b5 "com/example/hashmesh/hashmesh/mesh/Congestion" "latestRtts" "[J" .null := D5 (Or.inr (hw _ (List.mem_of_getElem? (i := 30) rfl))) (ty := (.array .long)) (by decide)
  have F_nextLatest_b5 : Fld Z h5 b5 "com/example/hashmesh/hashmesh/mesh/Congestion" "nextLatest" "I" (.int (0 : Int32)) := D5 (Or.inl (hw _ (List.mem_of_getElem? (i := 40) rfl))) (ty := .int) (by decide)
  have F_latestCount_b5 : Fld Z h5 b5 "com/example/hashmesh/hashmesh/mesh/Congestion" "latestCount" "I" (.int (0 : Int32)) := D5 (Or.inl (hw _ (List.mem_of_getElem? (i := 42) rfl))) (ty := .int) (by decide)
  have F_rttVariation_b5 : Fld Z h5 b5 "com/example/hashmesh/hashmesh/mesh/Congestion" "rttVariation" "J" (.long (0 : Int64)) := D5 (Or.inl (hw _ (List.mem_of_getElem? (i := 46) rfl))) (ty := .long) (by decide)
  have F_sent_b5 : Fld Z h5 b5 "com/example/hashmesh/hashmesh/mesh/Congestion" "sent" "J" (.long (0 : Int64)) := D5 (Or.inl (hw _ (List.mem_of_getElem? (i := 70) rfl))) (ty := .long) (by decide)
  have F_shrunkAfter_b5 : Fld Z h5 b5 "com/example/hashmesh/hashmesh/mesh/Congestion" "shrunkAfter" "J" (.long (0 : Int64)) := D5 (Or.inl (hw _ (List.mem_of_getElem? (i := 72) rfl))) (ty := .long) (by decide)
  have F_onTheWay_b5 : Fld Z h5 b5 "com/example/hashmesh/hashmesh/mesh/Congestion" "onTheWay" "I" (.int (0 : Int32)) := D5 (Or.inl (hw _ (List.mem_of_getElem? (i := 79) rfl))) (ty := .int) (by decide)
  have lt6_b5 := A5.lt
  obtain ⟨_, _, ⟨T6, L6, k6, n6⟩, -, X6, ⟨Lc6, hQ6, l6, y6, z6⟩, st6⟩ := X5.specialBack hx (y := (⟨"com/example/hashmesh/hashmesh/mesh/Congestion", "<init>", "()V"⟩ : MethodName)) rfl hown (mvT hZ (hw _ (List.mem_of_getElem? (i := 7) rfl))) (mvT hZ (hw _ (List.mem_of_getElem? (i := 8) rfl))) (mvT hZ (hw _ (List.mem_of_getElem? (i := 9) rfl))) (by decide) (backOf (W := 1) (rm2 l Z a0 hw [] b5 h5 n0 O A5 F_window_b5 F_threshold_b5 F_paceAt_b5 F_smoothedRtt_b5 F_leastRtt_b5 F_latestRtts_b5 F_nextLatest_b5 F_latestCount_b5 F_rttVariation_b5 F_onTheWay_b5 F_sent_b5 F_shrunkAfter_b5 g_b5) hZ (hw _ (List.mem_of_getElem? (i := 9) rfl)) (hw _ (List.mem_of_getElem? (i := 6) rfl)) (by decide) (by decide)) (g := (mkF m 28 (own_F2 x1 q va vb) [(.ref b5), (.ref b5)])) rfl (by rw [hml]; rfl) (Steps.refl _) (a := b5) (argsL := []) (rest := [(.ref b5)]) (lenOf pd__40_41V rfl) rfl (by show 2 * 0 + _ ≤ _; exact Nat.le_of_eq rfl) (hb hby at_28) (fun _ _ => ⟨rfl, e5, (by decide : 1 + 1 ≤ _), (by decide : 12 + 4 ≤ _)⟩)
  dsimp only [Pt.U, Pt.locs, Pt.cells, Pt.slots] at X6 l6 y6 z6 st6 hQ6
  subst l6 y6 z6
  obtain ⟨t1_6, kt_6, rfl, N6q, K6, F_window_a_c6, F_threshold_a_c6, F_paceAt_a_c6, F_smoothedRtt_a_c6, F_leastRtt_a_c6, F_latestRtts_a_c6, F_nextLatest_a_c6, F_latestCount_a_c6, F_rttVariation_a_c6, F_onTheWay_a_c6, F_sent_a_c6, F_shrunkAfter_a_c6, V_t1_c6, gz_6, gn_6⟩ := hQ6
  have N6 := Fr.app N3 N6q
  have A5 := A5.keep K6
  have ne_b5_t1_6 : b5 ≠ t1_6 := Nat.ne_of_lt (Nat.lt_of_lt_of_le lt6_b5 gz_6)
  have g_t1_6 := gn_6
  have O := O.keep K6 (allS g_b5 all0)
  obtain ⟨cq7, kq7, q7a, q7b, q7c⟩ := isOf hZ rfl A5
  obtain ⟨_, _, ⟨T7, L7, k7, n7⟩, -, X7, ⟨Lc7, hQ7, l7, y7, z7⟩, st7⟩ := X6.virtualBack hx (y := (⟨"com/example/hashmesh/hashmesh/mesh/Congestion", "measured", "(J)V"⟩ : MethodName)) (z := (⟨"com/example/hashmesh/hashmesh/mesh/Congestion", "measured", "(J)V"⟩ : MethodName)) hown (mvT hZ (hw _ (List.mem_of_getElem? (i := 31) rfl))) (mvT hZ (hw _ (List.mem_of_getElem? (i := 32) rfl))) (notFace_of_selects (args := #[]) (mvT hZ (hw _ (List.mem_of_getElem? (i := 34) rfl)))) (mvT hZ (hw _ (List.mem_of_getElem? (i := 34) rfl))) (mvT hZ (hw _ (List.mem_of_getElem? (i := 33) rfl))) (by decide) (backOf (W := 0) (rm4_0 l Z a0 hw [] b5 t1_6 kt_6 T6.heap n0 O A5 F_window_a_c6 F_threshold_a_c6 F_paceAt_a_c6 F_smoothedRtt_a_c6 F_leastRtt_a_c6 F_latestRtts_a_c6 F_nextLatest_a_c6 F_latestCount_a_c6 F_rttVariation_a_c6 F_onTheWay_a_c6 F_sent_a_c6 F_shrunkAfter_a_c6 V_t1_c6 g_b5 g_t1_6) hZ (hw _ (List.mem_of_getElem? (i := 35) rfl)) (hw _ (List.mem_of_getElem? (i := 6) rfl)) (by decide) (by decide)) q7a q7c (g := (mkF m 36 (own_F3 x1 q va vb b5) [(.long (0 : Int64)), (.ref b5)])) rfl (by rw [hml]; rfl) (Steps.refl _) (argsL := [(.long (0 : Int64))]) (rest := []) (lenOf pd__40J_41V rfl) rfl (by show 2 * 0 + _ ≤ _; exact Nat.le_of_eq rfl) (hb hby at_36) (fun _ _ => ⟨rfl, rfl, (by decide : 2 + 0 ≤ _), (by decide : 16 + 0 ≤ _)⟩)
  dsimp only [Pt.U, Pt.locs, Pt.cells, Pt.slots] at X7 l7 y7 z7 st7 hQ7
  subst l7 y7 z7
  obtain ⟨rfl, N7q, K7, F_window_a_c7, F_threshold_a_c7, F_paceAt_a_c7, F_smoothedRtt_a_c7, F_leastRtt_a_c7, F_latestRtts_a_c7, F_nextLatest_a_c7, F_latestCount_a_c7, F_rttVariation_a_c7, F_onTheWay_a_c7, F_sent_a_c7, F_shrunkAfter_a_c7, V_t1_c7⟩ := hQ7
  have N7 := Fr.app N6 N7q
  have A5 := A5.keep K7
  have O := O.keep K7 (allS g_b5 (allS g_t1_6 all0))
  obtain ⟨cq8, kq8, q8a, q8b, q8c⟩ := isOf hZ rfl A5
  obtain ⟨_, _, ⟨T8, L8, k8, n8⟩, -, X8, ⟨Lc8, hQ8, l8, y8, z8⟩, st8⟩ := X7.virtualBack hx (y := (⟨"com/example/hashmesh/hashmesh/mesh/Congestion", "measured", "(J)V"⟩ : MethodName)) (z := (⟨"com/example/hashmesh/hashmesh/mesh/Congestion", "measured", "(J)V"⟩ : MethodName)) hown (mvT hZ (hw _ (List.mem_of_getElem? (i := 31) rfl))) (mvT hZ (hw _ (List.mem_of_getElem? (i := 32) rfl))) (notFace_of_selects (args := #[]) (mvT hZ (hw _ (List.mem_of_getElem? (i := 34) rfl)))) (mvT hZ (hw _ (List.mem_of_getElem? (i := 34) rfl))) (mvT hZ (hw _ (List.mem_of_getElem? (i := 33) rfl))) (by decide) (backOf (W := 0) (rm4_1 l Z a0 hw [] b5 t1_6 kt_6 T7.heap n0 O A5 F_window_a_c7 F_threshold_a_c7 F_paceAt_a_c7 F_smoothedRtt_a_c7 F_leastRtt_a_c7 F_latestRtts_a_c7 F_nextLatest_a_c7 F_latestCount_a_c7 F_rttVariation_a_c7 F_onTheWay_a_c7 F_sent_a_c7 F_shrunkAfter_a_c7 V_t1_c7 g_b5 g_t1_6) hZ (hw _ (List.mem_of_getElem? (i := 35) rfl)) (hw _ (List.mem_of_getElem? (i := 6) rfl)) (by decide) (by decide)) q8a q8c (g := (mkF m 44 (own_F3 x1 q va vb b5) [(.long (50 : Int64)), (.ref b5)])) rfl (by rw [hml]; rfl) (Steps.refl _) (argsL := [(.long (50 : Int64))]) (rest := []) (lenOf pd__40J_41V rfl) rfl (by show 2 * 0 + _ ≤ _; exact Nat.le_of_eq rfl) (hb hby at_44) (fun _ _ => ⟨rfl, rfl, (by decide : 2 + 0 ≤ _), (by decide : 16 + 0 ≤ _)⟩)
  dsimp only [Pt.U, Pt.locs, Pt.cells, Pt.slots] at X8 l8 y8 z8 st8 hQ8
  subst l8 y8 z8
  obtain ⟨rfl, N8q, K8, F_window_a_c8, F_threshold_a_c8, F_paceAt_a_c8, F_smoothedRtt_a_c8, F_leastRtt_a_c8, F_latestRtts_a_c8, F_nextLatest_a_c8, F_latestCount_a_c8, F_rttVariation_a_c8, F_onTheWay_a_c8, F_sent_a_c8, F_shrunkAfter_a_c8, V_t1_c8⟩ := hQ8
  have N8 := Fr.app N7 N8q
  have A5 := A5.keep K8
  have O := O.keep K8 (allS g_b5 (allS g_t1_6 all0))
  obtain ⟨cq9, kq9, q9a, q9b, q9c⟩ := isOf hZ rfl A5
  obtain ⟨_, _, ⟨T9, L9, k9, n9⟩, -, X9, ⟨Lc9, hQ9, l9, y9, z9⟩, st9⟩ := X8.virtualBack hx (y := (⟨"com/example/hashmesh/hashmesh/mesh/Congestion", "measured", "(J)V"⟩ : MethodName)) (z := (⟨"com/example/hashmesh/hashmesh/mesh/Congestion", "measured", "(J)V"⟩ : MethodName)) hown (mvT hZ (hw _ (List.mem_of_getElem? (i := 31) rfl))) (mvT hZ (hw _ (List.mem_of_getElem? (i := 32) rfl))) (notFace_of_selects (args := #[]) (mvT hZ (hw _ (List.mem_of_getElem? (i := 34) rfl)))) (mvT hZ (hw _ (List.mem_of_getElem? (i := 34) rfl))) (mvT hZ (hw _ (List.mem_of_getElem? (i := 33) rfl))) (by decide) (backOf (W := 0) (rm4_2 l Z a0 hw [] b5 t1_6 kt_6 T8.heap n0 O A5 F_window_a_c8 F_threshold_a_c8 F_paceAt_a_c8 F_smoothedRtt_a_c8 F_leastRtt_a_c8 F_latestRtts_a_c8 F_nextLatest_a_c8 F_latestCount_a_c8 F_rttVariation_a_c8 F_onTheWay_a_c8 F_sent_a_c8 F_shrunkAfter_a_c8 V_t1_c8 g_b5 g_t1_6) hZ (hw _ (List.mem_of_getElem? (i := 35) rfl)) (hw _ (List.mem_of_getElem? (i := 6) rfl)) (by decide) (by decide)) q9a q9c (g := (mkF m 52 (own_F3 x1 q va vb b5) [(.long (50 : Int64)), (.ref b5)])) rfl (by rw [hml]; rfl) (Steps.refl _) (argsL := [(.long (50 : Int64))]) (rest := []) (lenOf pd__40J_41V rfl) rfl (by show 2 * 0 + _ ≤ _; exact Nat.le_of_eq rfl) (hb hby at_52) (fun _ _ => ⟨rfl, rfl, (by decide : 2 + 0 ≤ _), (by decide : 16 + 0 ≤ _)⟩)
  dsimp only [Pt.U, Pt.locs, Pt.cells, Pt.slots] at X9 l9 y9 z9 st9 hQ9
  subst l9 y9 z9
  obtain ⟨rfl, N9q, K9, F_window_a_c9, F_threshold_a_c9, F_paceAt_a_c9, F_smoothedRtt_a_c9, F_leastRtt_a_c9, F_latestRtts_a_c9, F_nextLatest_a_c9, F_latestCount_a_c9, F_rttVariation_a_c9, F_onTheWay_a_c9, F_sent_a_c9, F_shrunkAfter_a_c9, V_t1_c9⟩ := hQ9
  have N9 := Fr.app N8 N9q
  have A5 := A5.keep K9
  have O := O.keep K9 (allS g_b5 (allS g_t1_6 all0))
  obtain ⟨cq10, kq10, q10a, q10b, q10c⟩ := isOf hZ rfl A5
  obtain ⟨_, _, ⟨T10, L10, k10, n10⟩, -, X10, ⟨Lc10, hQ10, l10, y10, z10⟩, st10⟩ := X9.virtualBack hx (y := (⟨"com/example/hashmesh/hashmesh/mesh/Congestion", "measured", "(J)V"⟩ : MethodName)) (z := (⟨"com/example/hashmesh/hashmesh/mesh/Congestion", "measured", "(J)V"⟩ : MethodName)) hown (mvT hZ (hw _ (List.mem_of_getElem? (i := 31) rfl))) (mvT hZ (hw _ (List.mem_of_getElem? (i := 32) rfl))) (notFace_of_selects (args := #[]) (mvT hZ (hw _ (List.mem_of_getElem? (i := 34) rfl)))) (mvT hZ (hw _ (List.mem_of_getElem? (i := 34) rfl))) (mvT hZ (hw _ (List.mem_of_getElem? (i := 33) rfl))) (by decide) (backOf (W := 0) (rm4_3 l Z a0 hw [] b5 t1_6 kt_6 T9.heap n0 O A5 F_window_a_c9 F_threshold_a_c9 F_paceAt_a_c9 F_smoothedRtt_a_c9 F_leastRtt_a_c9 F_latestRtts_a_c9 F_nextLatest_a_c9 F_latestCount_a_c9 F_rttVariation_a_c9 F_onTheWay_a_c9 F_sent_a_c9 F_shrunkAfter_a_c9 V_t1_c9 g_b5 g_t1_6) hZ (hw _ (List.mem_of_getElem? (i := 35) rfl)) (hw _ (List.mem_of_getElem? (i := 6) rfl)) (by decide) (by decide)) q10a q10c (g := (mkF m 60 (own_F3 x1 q va vb b5) [(.long (50 : Int64)), (.ref b5)])) rfl (by rw [hml]; rfl) (Steps.refl _) (argsL := [(.long (50 : Int64))]) (rest := []) (lenOf pd__40J_41V rfl) rfl (by show 2 * 0 + _ ≤ _; exact Nat.le_of_eq rfl) (hb hby at_60) (fun _ _ => ⟨rfl, rfl, (by decide : 2 + 0 ≤ _), (by decide : 16 + 0 ≤ _)⟩)
  dsimp only [Pt.U, Pt.locs, Pt.cells, Pt.slots] at X10 l10 y10 z10 st10 hQ10
  subst l10 y10 z10
  obtain ⟨rfl, N10q, K10, F_window_a_c10, F_threshold_a_c10, F_paceAt_a_c10, F_smoothedRtt_a_c10, F_leastRtt_a_c10, F_latestRtts_a_c10, F_nextLatest_a_c10, F_latestCount_a_c10, F_rttVariation_a_c10, F_onTheWay_a_c10, F_sent_a_c10, F_shrunkAfter_a_c10, V_t1_c10⟩ := hQ10
  have N10 := Fr.app N9 N10q
  have A5 := A5.keep K10
  have O := O.keep K10 (allS g_b5 (allS g_t1_6 all0))
  obtain ⟨cq11, kq11, q11a, q11b, q11c⟩ := isOf hZ rfl A5
  obtain ⟨_, _, ⟨T11, L11, k11, n11⟩, -, X11, ⟨Lc11, hQ11, l11, y11, z11⟩, st11⟩ := X10.virtualBack hx (y := (⟨"com/example/hashmesh/hashmesh/mesh/Congestion", "measured", "(J)V"⟩ : MethodName)) (z := (⟨"com/example/hashmesh/hashmesh/mesh/Congestion", "measured", "(J)V"⟩ : MethodName)) hown (mvT hZ (hw _ (List.mem_of_getElem? (i := 31) rfl))) (mvT hZ (hw _ (List.mem_of_getElem? (i := 32) rfl))) (notFace_of_selects (args := #[]) (mvT hZ (hw _ (List.mem_of_getElem? (i := 34) rfl)))) (mvT hZ (hw _ (List.mem_of_getElem? (i := 34) rfl))) (mvT hZ (hw _ (List.mem_of_getElem? (i := 33) rfl))) (by decide) (backOf (W := 0) (rm4_4 l Z a0 hw [] b5 t1_6 kt_6 T10.heap n0 O A5 F_window_a_c10 F_threshold_a_c10 F_paceAt_a_c10 F_smoothedRtt_a_c10 F_leastRtt_a_c10 F_latestRtts_a_c10 F_nextLatest_a_c10 F_latestCount_a_c10 F_rttVariation_a_c10 F_onTheWay_a_c10 F_sent_a_c10 F_shrunkAfter_a_c10 V_t1_c10 g_b5 g_t1_6) hZ (hw _ (List.mem_of_getElem? (i := 35) rfl)) (hw _ (List.mem_of_getElem? (i := 6) rfl)) (by decide) (by decide)) q11a q11c (g := (mkF m 68 (own_F3 x1 q va vb b5) [(.long (50 : Int64)), (.ref b5)])) rfl (by rw [hml]; rfl) (Steps.refl _) (argsL := [(.long (50 : Int64))]) (rest := []) (lenOf pd__40J_41V rfl) rfl (by show 2 * 0 + _ ≤ _; exact Nat.le_of_eq rfl) (hb hby at_68) (fun _ _ => ⟨rfl, rfl, (by decide : 2 + 0 ≤ _), (by decide : 16 + 0 ≤ _)⟩)
  dsimp only [Pt.U, Pt.locs, Pt.cells, Pt.slots] at X11 l11 y11 z11 st11 hQ11
  subst l11 y11 z11
  obtain ⟨rfl, N11q, K11, F_window_a_c11, F_threshold_a_c11, F_paceAt_a_c11, F_smoothedRtt_a_c11, F_leastRtt_a_c11, F_latestRtts_a_c11, F_nextLatest_a_c11, F_latestCount_a_c11, F_rttVariation_a_c11, F_onTheWay_a_c11, F_sent_a_c11, F_shrunkAfter_a_c11, V_t1_c11⟩ := hQ11
  have N11 := Fr.app N10 N11q
  have A5 := A5.keep K11
  have O := O.keep K11 (allS g_b5 (allS g_t1_6 all0))
  obtain ⟨cq12, kq12, q12a, q12b, q12c⟩ := isOf hZ rfl A5
  obtain ⟨_, _, ⟨T12, L12, k12, n12⟩, -, X12, ⟨Lc12, hQ12, l12, y12, z12⟩, st12⟩ := X11.virtualBack hx (y := (⟨"com/example/hashmesh/hashmesh/mesh/Congestion", "timedOut", "()V"⟩ : MethodName)) (z := (⟨"com/example/hashmesh/hashmesh/mesh/Congestion", "timedOut", "()V"⟩ : MethodName)) hown (mvT hZ (hw _ (List.mem_of_getElem? (i := 55) rfl))) (mvT hZ (hw _ (List.mem_of_getElem? (i := 56) rfl))) (notFace_of_selects (args := #[]) (mvT hZ (hw _ (List.mem_of_getElem? (i := 58) rfl)))) (mvT hZ (hw _ (List.mem_of_getElem? (i := 58) rfl))) (mvT hZ (hw _ (List.mem_of_getElem? (i := 57) rfl))) (by decide) (backOf (W := 0) (rm7 l Z a0 hw [] b5 t1_6 kt_6 T11.heap n0 O A5 F_window_a_c11 F_threshold_a_c11 F_paceAt_a_c11 F_smoothedRtt_a_c11 F_leastRtt_a_c11 F_latestRtts_a_c11 F_nextLatest_a_c11 F_latestCount_a_c11 F_rttVariation_a_c11 F_onTheWay_a_c11 F_sent_a_c11 F_shrunkAfter_a_c11 V_t1_c11 g_b5) hZ (hw _ (List.mem_of_getElem? (i := 59) rfl)) (hw _ (List.mem_of_getElem? (i := 6) rfl)) (by decide) (by decide)) q12a q12c (g := (mkF m 73 (own_F3 x1 q va vb b5) [(.ref b5)])) rfl (by rw [hml]; rfl) (Steps.refl _) (argsL := []) (rest := []) (lenOf pd__40_41V rfl) rfl (by show 2 * 0 + _ ≤ _; exact Nat.le_of_eq rfl) (hb hby at_73) (fun _ _ => ⟨rfl, rfl, (by decide : 2 + 0 ≤ _), (by decide : 16 + 0 ≤ _)⟩)
  dsimp only [Pt.U, Pt.locs, Pt.cells, Pt.slots] at X12 l12 y12 z12 st12 hQ12
  subst l12 y12 z12
  obtain ⟨rfl, N12q, K12, F_window_a_c12, F_threshold_a_c12, F_paceAt_a_c12, F_smoothedRtt_a_c12, F_leastRtt_a_c12, F_latestRtts_a_c12, F_nextLatest_a_c12, F_latestCount_a_c12, F_rttVariation_a_c12, F_onTheWay_a_c12, F_sent_a_c12, F_shrunkAfter_a_c12⟩ := hQ12
  have N12 := Fr.app N11 N12q
  have A5 := A5.keep K12
  have V_t1_c11 := V_t1_c11.keep K12 (ninS (Ne.symm ne_b5_t1_6) nin0)
  have O := O.keep K12 (allS g_b5 all0)
  have w13 : ∀ t, Steps p.tables e below (T12.setTop (mkF m 76 (own_F3 x1 q va vb b5) [])) t → Steps p.tables e below (s₁.setTop (entryFrame m #[(.int x1), (.long q)] maxLocals)) t := fun t k => by
    refine w4 t ?_
    refine st5 _ ?_
    show Steps p.tables e below (T5.setTop (mkF m 27 (own_F2 x1 q va vb) [(.ref b5)])) _
    refine XS.dup X5.here hx rfl (hb hby at_27) rfl rfl ?_
    show Steps p.tables e below (T5.setTop (mkF m 28 (own_F2 x1 q va vb) [(.ref b5), (.ref b5)])) _
    refine st6.trans ?_
    show Steps p.tables e below (T6.setTop (mkF m 31 (own_F2 x1 q va vb) [(.ref b5)])) _
    refine XS.astore X6.here hx rfl (hb hby at_31) rfl rfl (l' := (own_F3 x1 q va vb b5)) rfl ?_
    show Steps p.tables e below (T6.setTop (mkF m 33 (own_F3 x1 q va vb b5) [])) _
    refine XS.aload X6.here hx rfl (hb hby at_33) rfl rfl ?_
    show Steps p.tables e below (T6.setTop (mkF m 35 (own_F3 x1 q va vb b5) [(.ref b5)])) _
    refine XS.lconst X6.here hx rfl (hb hby at_35) ?_
    show Steps p.tables e below (T6.setTop (mkF m 36 (own_F3 x1 q va vb b5) [(.long (0 : Int64)), (.ref b5)])) _
    refine st7.trans ?_
    show Steps p.tables e below (T7.setTop (mkF m 39 (own_F3 x1 q va vb b5) [])) _
    refine XS.aload X7.here hx rfl (hb hby at_39) rfl rfl ?_
    show Steps p.tables e below (T7.setTop (mkF m 41 (own_F3 x1 q va vb b5) [(.ref b5)])) _
    refine X7.ldc2Long hx hown (mvT hZ (hw _ (List.mem_of_getElem? (i := 47) rfl))) (g := (mkF m 41 (own_F3 x1 q va vb b5) [(.ref b5)])) rfl (hb hby at_41) _ ?_
    show Steps p.tables e below (T7.setTop (mkF m 44 (own_F3 x1 q va vb b5) [(.long (50 : Int64)), (.ref b5)])) _
    refine st8.trans ?_
    show Steps p.tables e below (T8.setTop (mkF m 47 (own_F3 x1 q va vb b5) [])) _
    refine XS.aload X8.here hx rfl (hb hby at_47) rfl rfl ?_
    show Steps p.tables e below (T8.setTop (mkF m 49 (own_F3 x1 q va vb b5) [(.ref b5)])) _
    refine X8.ldc2Long hx hown (mvT hZ (hw _ (List.mem_of_getElem? (i := 47) rfl))) (g := (mkF m 49 (own_F3 x1 q va vb b5) [(.ref b5)])) rfl (hb hby at_49) _ ?_
    show Steps p.tables e below (T8.setTop (mkF m 52 (own_F3 x1 q va vb b5) [(.long (50 : Int64)), (.ref b5)])) _
    refine st9.trans ?_
    show Steps p.tables e below (T9.setTop (mkF m 55 (own_F3 x1 q va vb b5) [])) _
    refine XS.aload X9.here hx rfl (hb hby at_55) rfl rfl ?_
    show Steps p.tables e below (T9.setTop (mkF m 57 (own_F3 x1 q va vb b5) [(.ref b5)])) _
    refine X9.ldc2Long hx hown (mvT hZ (hw _ (List.mem_of_getElem? (i := 47) rfl))) (g := (mkF m 57 (own_F3 x1 q va vb b5) [(.ref b5)])) rfl (hb hby at_57) _ ?_
    show Steps p.tables e below (T9.setTop (mkF m 60 (own_F3 x1 q va vb b5) [(.long (50 : Int64)), (.ref b5)])) _
    refine st10.trans ?_
    show Steps p.tables e below (T10.setTop (mkF m 63 (own_F3 x1 q va vb b5) [])) _
    refine XS.aload X10.here hx rfl (hb hby at_63) rfl rfl ?_
    show Steps p.tables e below (T10.setTop (mkF m 65 (own_F3 x1 q va vb b5) [(.ref b5)])) _
    refine X10.ldc2Long hx hown (mvT hZ (hw _ (List.mem_of_getElem? (i := 47) rfl))) (g := (mkF m 65 (own_F3 x1 q va vb b5) [(.ref b5)])) rfl (hb hby at_65) _ ?_
    show Steps p.tables e below (T10.setTop (mkF m 68 (own_F3 x1 q va vb b5) [(.long (50 : Int64)), (.ref b5)])) _
    refine st11.trans ?_
    show Steps p.tables e below (T11.setTop (mkF m 71 (own_F3 x1 q va vb b5) [])) _
    refine XS.aload X11.here hx rfl (hb hby at_71) rfl rfl ?_
    show Steps p.tables e below (T11.setTop (mkF m 73 (own_F3 x1 q va vb b5) [(.ref b5)])) _
    refine st12.trans ?_
    show Steps p.tables e below (T12.setTop (mkF m 76 (own_F3 x1 q va vb b5) [])) _
    exact k
  have ma : va = (0 : Int32) ∨ va = (1 : Int32) ∨ va = (2 : Int32) ∨ va = (3 : Int32) ∨ va = (4 : Int32) := by rw [hva]; exact own_a _
  rcases ma with rfl | rfl | rfl | rfl | rfl
  · have mb : vb = (0 : Int32) := by rw [hvb]; exact own_b0 _
    have w14 : ∀ t, Steps p.tables e below (T12.setTop (mkF m 123 (own_F3 x1 q (0 : Int32) vb b5) [])) t → Steps p.tables e below (s₁.setTop (entryFrame m #[(.int x1), (.long q)] maxLocals)) t := fun t k => by
      refine w13 t ?_
      refine XS.iloadN X12.here hx rfl (hb hby at_76) rfl ?_
      show Steps p.tables e below (T12.setTop (mkF m 77 (own_F3 x1 q (0 : Int32) vb b5) [(.int (0 : Int32))])) _
      refine XS.ifYes X12.here hx rfl (pc0 := 77) (pc' := 87) rfl (hb hby at_77) rfl ((if0 _ _).trans (flt ((by decide) : ¬ ((0 : Int32) < (0 : Int32)))).2.2.2) (by decide) (by decide) ?_
      show Steps p.tables e below (T12.setTop (mkF m 87 (own_F3 x1 q (0 : Int32) vb b5) [])) _
      refine XS.iloadN X12.here hx rfl (hb hby at_87) rfl ?_
      show Steps p.tables e below (T12.setTop (mkF m 88 (own_F3 x1 q (0 : Int32) vb b5) [(.int (0 : Int32))])) _
      refine XS.iconst X12.here hx rfl (hb hby at_88) ?_
      show Steps p.tables e below (T12.setTop (mkF m 89 (own_F3 x1 q (0 : Int32) vb b5) [(.int (1 : Int32)), (.int (0 : Int32))])) _
      refine XS.icmpYes X12.here hx rfl (pc0 := 89) (pc' := 99) rfl (hb hby at_89) rfl (flt ((by decide) : ¬ ((1 : Int32) < (0 : Int32)))).2.2.2 (by decide) (by decide) ?_
      show Steps p.tables e below (T12.setTop (mkF m 99 (own_F3 x1 q (0 : Int32) vb b5) [])) _
      refine XS.iloadN X12.here hx rfl (hb hby at_99) rfl ?_
      show Steps p.tables e below (T12.setTop (mkF m 100 (own_F3 x1 q (0 : Int32) vb b5) [(.int (0 : Int32))])) _
      refine XS.iconst X12.here hx rfl (hb hby at_100) ?_
      show Steps p.tables e below (T12.setTop (mkF m 101 (own_F3 x1 q (0 : Int32) vb b5) [(.int (2 : Int32)), (.int (0 : Int32))])) _
      refine XS.icmpYes X12.here hx rfl (pc0 := 101) (pc' := 111) rfl (hb hby at_101) rfl (flt ((by decide) : ¬ ((2 : Int32) < (0 : Int32)))).2.2.2 (by decide) (by decide) ?_
      show Steps p.tables e below (T12.setTop (mkF m 111 (own_F3 x1 q (0 : Int32) vb b5) [])) _
      refine XS.iloadN X12.here hx rfl (hb hby at_111) rfl ?_
      show Steps p.tables e below (T12.setTop (mkF m 112 (own_F3 x1 q (0 : Int32) vb b5) [(.int (0 : Int32))])) _
      refine XS.iconst X12.here hx rfl (hb hby at_112) ?_
      show Steps p.tables e below (T12.setTop (mkF m 113 (own_F3 x1 q (0 : Int32) vb b5) [(.int (3 : Int32)), (.int (0 : Int32))])) _
      refine XS.icmpYes X12.here hx rfl (pc0 := 113) (pc' := 123) rfl (hb hby at_113) rfl (flt ((by decide) : ¬ ((3 : Int32) < (0 : Int32)))).2.2.2 (by decide) (by decide) ?_
      show Steps p.tables e below (T12.setTop (mkF m 123 (own_F3 x1 q (0 : Int32) vb b5) [])) _
      exact k
    subst mb
    obtain ⟨cq15, kq15, q15a, q15b, q15c⟩ := isOf hZ rfl A5
    obtain ⟨_, _, ⟨T15, L15, k15, n15⟩, -, X15, ⟨Lc15, hQ15, l15, y15, z15⟩, st15⟩ := X12.virtualBack hx (y := (⟨"com/example/hashmesh/hashmesh/mesh/Congestion", "hasRoom", "()Z"⟩ : MethodName)) (z := (⟨"com/example/hashmesh/hashmesh/mesh/Congestion", "hasRoom", "()Z"⟩ : MethodName)) hown (mvT hZ (hw _ (List.mem_of_getElem? (i := 73) rfl))) (mvT hZ (hw _ (List.mem_of_getElem? (i := 74) rfl))) (notFace_of_selects (args := #[]) (mvT hZ (hw _ (List.mem_of_getElem? (i := 76) rfl)))) (mvT hZ (hw _ (List.mem_of_getElem? (i := 76) rfl))) (mvT hZ (hw _ (List.mem_of_getElem? (i := 75) rfl))) (by decide) (backOf (W := 0) (rm10_1 l Z a0 hw [] b5 (0 : Int32) T12.heap n0 O F_onTheWay_a_c12 F_window_a_c12) hZ (hw _ (List.mem_of_getElem? (i := 77) rfl)) (hw _ (List.mem_of_getElem? (i := 6) rfl)) (by decide) (by decide)) q15a q15c (g := (mkF m 168 (own_F5 x1 q (0 : Int32) (0 : Int32) b5 (0 : Int32) (1 : Int32)) [(.ref b5)])) rfl (by rw [hml]; rfl) (Steps.refl _) (argsL := []) (rest := []) (lenOf pd__40_41Z rfl) rfl (by show 2 * 0 + _ ≤ _; exact Nat.le_of_eq rfl) (hb hby at_168) (fun _ _ => ⟨rfl, rfl, (by decide : 2 + 0 ≤ _), (by decide : 16 + 0 ≤ _)⟩)
    dsimp only [Pt.U, Pt.locs, Pt.cells, Pt.slots] at X15 l15 y15 z15 st15 hQ15
    subst l15 y15 z15
    obtain ⟨rfl, N15q, eh15⟩ := hQ15
    have N15 := Fr.app N12 N15q
    have w16 : ∀ t, Steps p.tables e below (T15.setTop (mkF m 191 (own_F5 x1 q (0 : Int32) (0 : Int32) b5 (0 : Int32) (1 : Int32)) [(.int (1 : Int32))])) t → Steps p.tables e below (s₁.setTop (entryFrame m #[(.int x1), (.long q)] maxLocals)) t := fun t k => by
      refine w14 t ?_
      refine XS.iload X12.here hx rfl (hb hby at_123) rfl ?_
      show Steps p.tables e below (T12.setTop (mkF m 125 (own_F3 x1 q (0 : Int32) (0 : Int32) b5) [(.int (0 : Int32))])) _
      refine XS.ifYes X12.here hx rfl (pc0 := 125) (pc' := 134) rfl (hb hby at_125) rfl ((if0 _ _).trans (flt ((by decide) : ¬ ((0 : Int32) < (0 : Int32)))).2.2.2) (by decide) (by decide) ?_
      show Steps p.tables e below (T12.setTop (mkF m 134 (own_F3 x1 q (0 : Int32) (0 : Int32) b5) [])) _
      refine XS.iload X12.here hx rfl (hb hby at_134) rfl ?_
      show Steps p.tables e below (T12.setTop (mkF m 136 (own_F3 x1 q (0 : Int32) (0 : Int32) b5) [(.int (0 : Int32))])) _
      refine XS.iconst X12.here hx rfl (hb hby at_136) ?_
      show Steps p.tables e below (T12.setTop (mkF m 137 (own_F3 x1 q (0 : Int32) (0 : Int32) b5) [(.int (1 : Int32)), (.int (0 : Int32))])) _
      refine XS.icmpYes X12.here hx rfl (pc0 := 137) (pc' := 148) rfl (hb hby at_137) rfl (flt ((by decide) : ¬ ((1 : Int32) < (0 : Int32)))).2.2.2 (by decide) (by decide) ?_
      show Steps p.tables e below (T12.setTop (mkF m 148 (own_F3 x1 q (0 : Int32) (0 : Int32) b5) [])) _
      refine XS.iloadN X12.here hx rfl (hb hby at_148) rfl ?_
      show Steps p.tables e below (T12.setTop (mkF m 149 (own_F3 x1 q (0 : Int32) (0 : Int32) b5) [(.int (0 : Int32))])) _
      refine XS.iload X12.here hx rfl (hb hby at_149) rfl ?_
      show Steps p.tables e below (T12.setTop (mkF m 151 (own_F3 x1 q (0 : Int32) (0 : Int32) b5) [(.int (0 : Int32)), (.int (0 : Int32))])) _
      refine XS.isub X12.here hx rfl (hb hby at_151) rfl ?_
      show Steps p.tables e below (T12.setTop (mkF m 152 (own_F3 x1 q (0 : Int32) (0 : Int32) b5) [(.int (0 : Int32))])) _
      refine XS.istore X12.here hx rfl (hb hby at_152) rfl (l' := (own_F4 x1 q (0 : Int32) (0 : Int32) b5 (0 : Int32))) rfl ?_
      show Steps p.tables e below (T12.setTop (mkF m 154 (own_F4 x1 q (0 : Int32) (0 : Int32) b5 (0 : Int32)) [])) _
      refine XS.iload X12.here hx rfl (hb hby at_154) rfl ?_
      show Steps p.tables e below (T12.setTop (mkF m 156 (own_F4 x1 q (0 : Int32) (0 : Int32) b5 (0 : Int32)) [(.int (0 : Int32))])) _
      refine XS.ifNo X12.here hx rfl (hb hby at_156) rfl ((if0 _ _).trans (teq (rfl : (0 : Int32) = (0 : Int32))).2) ?_
      show Steps p.tables e below (T12.setTop (mkF m 159 (own_F4 x1 q (0 : Int32) (0 : Int32) b5 (0 : Int32)) [])) _
      refine XS.iconst X12.here hx rfl (hb hby at_159) ?_
      show Steps p.tables e below (T12.setTop (mkF m 160 (own_F4 x1 q (0 : Int32) (0 : Int32) b5 (0 : Int32)) [(.int (1 : Int32))])) _
      refine XS.goto X12.here hx rfl (pc0 := 160) (pc' := 164) rfl (hb hby at_160) (by decide) (by decide) ?_
      show Steps p.tables e below (T12.setTop (mkF m 164 (own_F4 x1 q (0 : Int32) (0 : Int32) b5 (0 : Int32)) [(.int (1 : Int32))])) _
      refine XS.istore X12.here hx rfl (hb hby at_164) rfl (l' := (own_F5 x1 q (0 : Int32) (0 : Int32) b5 (0 : Int32) (1 : Int32))) rfl ?_
      show Steps p.tables e below (T12.setTop (mkF m 166 (own_F5 x1 q (0 : Int32) (0 : Int32) b5 (0 : Int32) (1 : Int32)) [])) _
      refine XS.aload X12.here hx rfl (hb hby at_166) rfl rfl ?_
      show Steps p.tables e below (T12.setTop (mkF m 168 (own_F5 x1 q (0 : Int32) (0 : Int32) b5 (0 : Int32) (1 : Int32)) [(.ref b5)])) _
      refine st15.trans ?_
      show Steps p.tables e below (T15.setTop (mkF m 171 (own_F5 x1 q (0 : Int32) (0 : Int32) b5 (0 : Int32) (1 : Int32)) [(.int (own_h (0 : Int32) (1 : Int32)))])) _
      refine XS.iload X15.here hx rfl (hb hby at_171) rfl ?_
      show Steps p.tables e below (T15.setTop (mkF m 173 (own_F5 x1 q (0 : Int32) (0 : Int32) b5 (0 : Int32) (1 : Int32)) [(.int (0 : Int32)), (.int (own_h (0 : Int32) (1 : Int32)))])) _
      refine XS.iload X15.here hx rfl (hb hby at_173) rfl ?_
      show Steps p.tables e below (T15.setTop (mkF m 175 (own_F5 x1 q (0 : Int32) (0 : Int32) b5 (0 : Int32) (1 : Int32)) [(.int (1 : Int32)), (.int (0 : Int32)), (.int (own_h (0 : Int32) (1 : Int32)))])) _
      refine XS.icmpNo X15.here hx rfl (hb hby at_175) rfl (tlt ((by decide) : (0 : Int32) < (1 : Int32))).2.1 ?_
      show Steps p.tables e below (T15.setTop (mkF m 178 (own_F5 x1 q (0 : Int32) (0 : Int32) b5 (0 : Int32) (1 : Int32)) [(.int (own_h (0 : Int32) (1 : Int32)))])) _
      refine XS.iconst X15.here hx rfl (hb hby at_178) ?_
      show Steps p.tables e below (T15.setTop (mkF m 179 (own_F5 x1 q (0 : Int32) (0 : Int32) b5 (0 : Int32) (1 : Int32)) [(.int (1 : Int32)), (.int (own_h (0 : Int32) (1 : Int32)))])) _
      refine XS.goto X15.here hx rfl (pc0 := 179) (pc' := 183) rfl (hb hby at_179) (by decide) (by decide) ?_
      show Steps p.tables e below (T15.setTop (mkF m 183 (own_F5 x1 q (0 : Int32) (0 : Int32) b5 (0 : Int32) (1 : Int32)) [(.int (1 : Int32)), (.int (own_h (0 : Int32) (1 : Int32)))])) _
      refine XS.icmpNo X15.here hx rfl (hb hby at_183) rfl (teq ((by decide) : (own_h (0 : Int32) (1 : Int32)) = (1 : Int32))).2 ?_
      show Steps p.tables e below (T15.setTop (mkF m 186 (own_F5 x1 q (0 : Int32) (0 : Int32) b5 (0 : Int32) (1 : Int32)) [])) _
      refine XS.iconst X15.here hx rfl (hb hby at_186) ?_
      show Steps p.tables e below (T15.setTop (mkF m 187 (own_F5 x1 q (0 : Int32) (0 : Int32) b5 (0 : Int32) (1 : Int32)) [(.int (1 : Int32))])) _
      refine XS.goto X15.here hx rfl (pc0 := 187) (pc' := 191) rfl (hb hby at_187) (by decide) (by decide) ?_
      show Steps p.tables e below (T15.setTop (mkF m 191 (own_F5 x1 q (0 : Int32) (0 : Int32) b5 (0 : Int32) (1 : Int32)) [(.int (1 : Int32))])) _
      exact k
    obtain ⟨fs, hr, hrun, hended, hW, hsame⟩ := X15.leave (v := some (.int (1 : Int32))) (fun h => by rw [Bd.returns] at h; cases h)
    refine ⟨_, _, w16 _ ?_, hrun, hended, _, _, rfl, ?_, ⟨_, rfl⟩, hW, hsame.mono (by decide) (by decide)⟩
    · exact retN X15 hx (t := .boolean) Bd.returns (by simp) (hb hby at_191) hr
    · show Q0 Z x1 q  h0 n0 _ T15.heap _
      rw [eh15]
      exact ⟨rfl, N15⟩
  · have mb : vb = (0 : Int32) ∨ vb = (1 : Int32) := by rw [hvb]; exact own_b1 _
    obtain ⟨cq17, kq17, q17a, q17b, q17c⟩ := isOf hZ rfl A5
    obtain ⟨_, _, ⟨T17, L17, k17, n17⟩, -, X17, ⟨Lc17, hQ17, l17, y17, z17⟩, st17⟩ := X12.virtualBack hx (y := (⟨"com/example/hashmesh/hashmesh/mesh/Congestion", "sent", "(J)J"⟩ : MethodName)) (z := (⟨"com/example/hashmesh/hashmesh/mesh/Congestion", "sent", "(J)J"⟩ : MethodName)) hown (mvT hZ (hw _ (List.mem_of_getElem? (i := 80) rfl))) (mvT hZ (hw _ (List.mem_of_getElem? (i := 81) rfl))) (notFace_of_selects (args := #[]) (mvT hZ (hw _ (List.mem_of_getElem? (i := 83) rfl)))) (mvT hZ (hw _ (List.mem_of_getElem? (i := 83) rfl))) (mvT hZ (hw _ (List.mem_of_getElem? (i := 82) rfl))) (by decide) (backOf (W := 0) (rm11 l Z a0 hw [] b5 q t1_6 (18442240474082181120 : UInt64) (0 : Int32) (0 : Int64) T12.heap n0 O A5 F_window_a_c12 F_threshold_a_c12 F_paceAt_a_c12 F_smoothedRtt_a_c12 F_leastRtt_a_c12 F_latestRtts_a_c12 F_nextLatest_a_c12 F_latestCount_a_c12 F_rttVariation_a_c12 F_onTheWay_a_c12 F_sent_a_c12 F_shrunkAfter_a_c12 (show (18442240474082181120 : UInt64) &&& 0x7fffffffffffffff ≤ 0x7ff0000000000000 by decide +kernel) g_b5) hZ (hw _ (List.mem_of_getElem? (i := 84) rfl)) (hw _ (List.mem_of_getElem? (i := 6) rfl)) (by decide) (by decide)) q17a q17c (g := (mkF m 83 (own_F3 x1 q (1 : Int32) vb b5) [(.long q), (.ref b5)])) rfl (by rw [hml]; rfl) (Steps.refl _) (argsL := [(.long q)]) (rest := []) (lenOf pd__40J_41J rfl) rfl (by show 2 * 0 + _ ≤ _; exact Nat.le_of_eq rfl) (hb hby at_83) (fun _ _ => ⟨rfl, rfl, (by decide : 2 + 0 ≤ _), (by decide : 16 + 0 ≤ _)⟩)
    dsimp only [Pt.U, Pt.locs, Pt.cells, Pt.slots] at X17 l17 y17 z17 st17 hQ17
    subst l17 y17 z17
    obtain ⟨d2_17, rfl, N17q, K17, F_window_a_c17, F_threshold_a_c17, F_paceAt_a_c17, F_smoothedRtt_a_c17, F_leastRtt_a_c17, F_latestRtts_a_c17, F_nextLatest_a_c17, F_latestCount_a_c17, F_rttVariation_a_c17, F_onTheWay_a_c17, F_sent_a_c17, F_shrunkAfter_a_c17, hd2_17⟩ := hQ17
    have N17 := Fr.app N12 N17q
    have A5 := A5.keep K17
    have V_t1_c11 := V_t1_c11.keep K17 (ninS (Ne.symm ne_b5_t1_6) nin0)
    have O := O.keep K17 (allS g_b5 all0)
    have F_onTheWay_a_c17 : Fld Z T17.heap b5 "com/example/hashmesh/hashmesh/mesh/Congestion" "onTheWay" "I" (.int (1 : Int32)) := F_onTheWay_a_c17
    have F_sent_a_c17 : Fld Z T17.heap b5 "com/example/hashmesh/hashmesh/mesh/Congestion" "sent" "J" (.long (1 : Int64)) := F_sent_a_c17
    have w18 : ∀ t, Steps p.tables e below (T17.setTop (mkF m 123 (own_F3 x1 q (1 : Int32) vb b5) [])) t → Steps p.tables e below (s₁.setTop (entryFrame m #[(.int x1), (.long q)] maxLocals)) t := fun t k => by
      refine w13 t ?_
      refine XS.iloadN X12.here hx rfl (hb hby at_76) rfl ?_
      show Steps p.tables e below (T12.setTop (mkF m 77 (own_F3 x1 q (1 : Int32) vb b5) [(.int (1 : Int32))])) _
      refine XS.ifNo X12.here hx rfl (hb hby at_77) rfl ((if0 _ _).trans (tlt ((by decide) : (0 : Int32) < (1 : Int32))).2.2.2) ?_
      show Steps p.tables e below (T12.setTop (mkF m 80 (own_F3 x1 q (1 : Int32) vb b5) [])) _
      refine XS.aload X12.here hx rfl (hb hby at_80) rfl rfl ?_
      show Steps p.tables e below (T12.setTop (mkF m 82 (own_F3 x1 q (1 : Int32) vb b5) [(.ref b5)])) _
      refine XS.lloadN X12.here hx rfl (hb hby at_82) rfl ?_
      show Steps p.tables e below (T12.setTop (mkF m 83 (own_F3 x1 q (1 : Int32) vb b5) [(.long q), (.ref b5)])) _
      refine st17.trans ?_
      show Steps p.tables e below (T17.setTop (mkF m 86 (own_F3 x1 q (1 : Int32) vb b5) [(.long ((0 : Int64) + (1 : Int64)))])) _
      jvm_step X17.here [X17.here.top, hx, (hb hby at_86), Value.category]
      show Steps p.tables e below (T17.setTop (mkF m 87 (own_F3 x1 q (1 : Int32) vb b5) [])) _
      refine XS.iloadN X17.here hx rfl (hb hby at_87) rfl ?_
      show Steps p.tables e below (T17.setTop (mkF m 88 (own_F3 x1 q (1 : Int32) vb b5) [(.int (1 : Int32))])) _
      refine XS.iconst X17.here hx rfl (hb hby at_88) ?_
      show Steps p.tables e below (T17.setTop (mkF m 89 (own_F3 x1 q (1 : Int32) vb b5) [(.int (1 : Int32)), (.int (1 : Int32))])) _
      refine XS.icmpYes X17.here hx rfl (pc0 := 89) (pc' := 99) rfl (hb hby at_89) rfl (flt ((by decide) : ¬ ((1 : Int32) < (1 : Int32)))).2.2.2 (by decide) (by decide) ?_
      show Steps p.tables e below (T17.setTop (mkF m 99 (own_F3 x1 q (1 : Int32) vb b5) [])) _
      refine XS.iloadN X17.here hx rfl (hb hby at_99) rfl ?_
      show Steps p.tables e below (T17.setTop (mkF m 100 (own_F3 x1 q (1 : Int32) vb b5) [(.int (1 : Int32))])) _
      refine XS.iconst X17.here hx rfl (hb hby at_100) ?_
      show Steps p.tables e below (T17.setTop (mkF m 101 (own_F3 x1 q (1 : Int32) vb b5) [(.int (2 : Int32)), (.int (1 : Int32))])) _
      refine XS.icmpYes X17.here hx rfl (pc0 := 101) (pc' := 111) rfl (hb hby at_101) rfl (flt ((by decide) : ¬ ((2 : Int32) < (1 : Int32)))).2.2.2 (by decide) (by decide) ?_
      show Steps p.tables e below (T17.setTop (mkF m 111 (own_F3 x1 q (1 : Int32) vb b5) [])) _
      refine XS.iloadN X17.here hx rfl (hb hby at_111) rfl ?_
      show Steps p.tables e below (T17.setTop (mkF m 112 (own_F3 x1 q (1 : Int32) vb b5) [(.int (1 : Int32))])) _
      refine XS.iconst X17.here hx rfl (hb hby at_112) ?_
      show Steps p.tables e below (T17.setTop (mkF m 113 (own_F3 x1 q (1 : Int32) vb b5) [(.int (3 : Int32)), (.int (1 : Int32))])) _
      refine XS.icmpYes X17.here hx rfl (pc0 := 113) (pc' := 123) rfl (hb hby at_113) rfl (flt ((by decide) : ¬ ((3 : Int32) < (1 : Int32)))).2.2.2 (by decide) (by decide) ?_
      show Steps p.tables e below (T17.setTop (mkF m 123 (own_F3 x1 q (1 : Int32) vb b5) [])) _
      exact k
    rcases mb with rfl | rfl
    · have wz := w18
      obtain ⟨cq19, kq19, q19a, q19b, q19c⟩ := isOf hZ rfl A5
      obtain ⟨_, _, ⟨T19, L19, k19, n19⟩, -, X19, ⟨Lc19, hQ19, l19, y19, z19⟩, st19⟩ := X17.virtualBack hx (y := (⟨"com/example/hashmesh/hashmesh/mesh/Congestion", "hasRoom", "()Z"⟩ : MethodName)) (z := (⟨"com/example/hashmesh/hashmesh/mesh/Congestion", "hasRoom", "()Z"⟩ : MethodName)) hown (mvT hZ (hw _ (List.mem_of_getElem? (i := 73) rfl))) (mvT hZ (hw _ (List.mem_of_getElem? (i := 74) rfl))) (notFace_of_selects (args := #[]) (mvT hZ (hw _ (List.mem_of_getElem? (i := 76) rfl)))) (mvT hZ (hw _ (List.mem_of_getElem? (i := 76) rfl))) (mvT hZ (hw _ (List.mem_of_getElem? (i := 75) rfl))) (by decide) (backOf (W := 0) (rm10_1 l Z a0 hw [] b5 (1 : Int32) T17.heap n0 O F_onTheWay_a_c17 F_window_a_c17) hZ (hw _ (List.mem_of_getElem? (i := 77) rfl)) (hw _ (List.mem_of_getElem? (i := 6) rfl)) (by decide) (by decide)) q19a q19c (g := (mkF m 168 (own_F5 x1 q (1 : Int32) (0 : Int32) b5 (1 : Int32) (1 : Int32)) [(.ref b5)])) rfl (by rw [hml]; rfl) (Steps.refl _) (argsL := []) (rest := []) (lenOf pd__40_41Z rfl) rfl (by show 2 * 0 + _ ≤ _; exact Nat.le_of_eq rfl) (hb hby at_168) (fun _ _ => ⟨rfl, rfl, (by decide : 2 + 0 ≤ _), (by decide : 16 + 0 ≤ _)⟩)
      dsimp only [Pt.U, Pt.locs, Pt.cells, Pt.slots] at X19 l19 y19 z19 st19 hQ19
      subst l19 y19 z19
      obtain ⟨rfl, N19q, eh19⟩ := hQ19
      have N19 := Fr.app N17 N19q
      have w20 : ∀ t, Steps p.tables e below (T19.setTop (mkF m 191 (own_F5 x1 q (1 : Int32) (0 : Int32) b5 (1 : Int32) (1 : Int32)) [(.int (1 : Int32))])) t → Steps p.tables e below (s₁.setTop (entryFrame m #[(.int x1), (.long q)] maxLocals)) t := fun t k => by
        refine w18 t ?_
        refine XS.iload X17.here hx rfl (hb hby at_123) rfl ?_
        show Steps p.tables e below (T17.setTop (mkF m 125 (own_F3 x1 q (1 : Int32) (0 : Int32) b5) [(.int (0 : Int32))])) _
        refine XS.ifYes X17.here hx rfl (pc0 := 125) (pc' := 134) rfl (hb hby at_125) rfl ((if0 _ _).trans (flt ((by decide) : ¬ ((0 : Int32) < (0 : Int32)))).2.2.2) (by decide) (by decide) ?_
        show Steps p.tables e below (T17.setTop (mkF m 134 (own_F3 x1 q (1 : Int32) (0 : Int32) b5) [])) _
        refine XS.iload X17.here hx rfl (hb hby at_134) rfl ?_
        show Steps p.tables e below (T17.setTop (mkF m 136 (own_F3 x1 q (1 : Int32) (0 : Int32) b5) [(.int (0 : Int32))])) _
        refine XS.iconst X17.here hx rfl (hb hby at_136) ?_
        show Steps p.tables e below (T17.setTop (mkF m 137 (own_F3 x1 q (1 : Int32) (0 : Int32) b5) [(.int (1 : Int32)), (.int (0 : Int32))])) _
        refine XS.icmpYes X17.here hx rfl (pc0 := 137) (pc' := 148) rfl (hb hby at_137) rfl (flt ((by decide) : ¬ ((1 : Int32) < (0 : Int32)))).2.2.2 (by decide) (by decide) ?_
        show Steps p.tables e below (T17.setTop (mkF m 148 (own_F3 x1 q (1 : Int32) (0 : Int32) b5) [])) _
        refine XS.iloadN X17.here hx rfl (hb hby at_148) rfl ?_
        show Steps p.tables e below (T17.setTop (mkF m 149 (own_F3 x1 q (1 : Int32) (0 : Int32) b5) [(.int (1 : Int32))])) _
        refine XS.iload X17.here hx rfl (hb hby at_149) rfl ?_
        show Steps p.tables e below (T17.setTop (mkF m 151 (own_F3 x1 q (1 : Int32) (0 : Int32) b5) [(.int (0 : Int32)), (.int (1 : Int32))])) _
        refine XS.isub X17.here hx rfl (hb hby at_151) rfl ?_
        show Steps p.tables e below (T17.setTop (mkF m 152 (own_F3 x1 q (1 : Int32) (0 : Int32) b5) [(.int (1 : Int32))])) _
        refine XS.istore X17.here hx rfl (hb hby at_152) rfl (l' := (own_F4 x1 q (1 : Int32) (0 : Int32) b5 (1 : Int32))) rfl ?_
        show Steps p.tables e below (T17.setTop (mkF m 154 (own_F4 x1 q (1 : Int32) (0 : Int32) b5 (1 : Int32)) [])) _
        refine XS.iload X17.here hx rfl (hb hby at_154) rfl ?_
        show Steps p.tables e below (T17.setTop (mkF m 156 (own_F4 x1 q (1 : Int32) (0 : Int32) b5 (1 : Int32)) [(.int (0 : Int32))])) _
        refine XS.ifNo X17.here hx rfl (hb hby at_156) rfl ((if0 _ _).trans (teq (rfl : (0 : Int32) = (0 : Int32))).2) ?_
        show Steps p.tables e below (T17.setTop (mkF m 159 (own_F4 x1 q (1 : Int32) (0 : Int32) b5 (1 : Int32)) [])) _
        refine XS.iconst X17.here hx rfl (hb hby at_159) ?_
        show Steps p.tables e below (T17.setTop (mkF m 160 (own_F4 x1 q (1 : Int32) (0 : Int32) b5 (1 : Int32)) [(.int (1 : Int32))])) _
        refine XS.goto X17.here hx rfl (pc0 := 160) (pc' := 164) rfl (hb hby at_160) (by decide) (by decide) ?_
        show Steps p.tables e below (T17.setTop (mkF m 164 (own_F4 x1 q (1 : Int32) (0 : Int32) b5 (1 : Int32)) [(.int (1 : Int32))])) _
        refine XS.istore X17.here hx rfl (hb hby at_164) rfl (l' := (own_F5 x1 q (1 : Int32) (0 : Int32) b5 (1 : Int32) (1 : Int32))) rfl ?_
        show Steps p.tables e below (T17.setTop (mkF m 166 (own_F5 x1 q (1 : Int32) (0 : Int32) b5 (1 : Int32) (1 : Int32)) [])) _
        refine XS.aload X17.here hx rfl (hb hby at_166) rfl rfl ?_
        show Steps p.tables e below (T17.setTop (mkF m 168 (own_F5 x1 q (1 : Int32) (0 : Int32) b5 (1 : Int32) (1 : Int32)) [(.ref b5)])) _
        refine st19.trans ?_
        show Steps p.tables e below (T19.setTop (mkF m 171 (own_F5 x1 q (1 : Int32) (0 : Int32) b5 (1 : Int32) (1 : Int32)) [(.int (own_h (1 : Int32) (1 : Int32)))])) _
        refine XS.iload X19.here hx rfl (hb hby at_171) rfl ?_
        show Steps p.tables e below (T19.setTop (mkF m 173 (own_F5 x1 q (1 : Int32) (0 : Int32) b5 (1 : Int32) (1 : Int32)) [(.int (1 : Int32)), (.int (own_h (1 : Int32) (1 : Int32)))])) _
        refine XS.iload X19.here hx rfl (hb hby at_173) rfl ?_
        show Steps p.tables e below (T19.setTop (mkF m 175 (own_F5 x1 q (1 : Int32) (0 : Int32) b5 (1 : Int32) (1 : Int32)) [(.int (1 : Int32)), (.int (1 : Int32)), (.int (own_h (1 : Int32) (1 : Int32)))])) _
        refine XS.icmpYes X19.here hx rfl (pc0 := 175) (pc' := 182) rfl (hb hby at_175) rfl (flt ((by decide) : ¬ ((1 : Int32) < (1 : Int32)))).2.1 (by decide) (by decide) ?_
        show Steps p.tables e below (T19.setTop (mkF m 182 (own_F5 x1 q (1 : Int32) (0 : Int32) b5 (1 : Int32) (1 : Int32)) [(.int (own_h (1 : Int32) (1 : Int32)))])) _
        refine XS.iconst X19.here hx rfl (hb hby at_182) ?_
        show Steps p.tables e below (T19.setTop (mkF m 183 (own_F5 x1 q (1 : Int32) (0 : Int32) b5 (1 : Int32) (1 : Int32)) [(.int (0 : Int32)), (.int (own_h (1 : Int32) (1 : Int32)))])) _
        refine XS.icmpNo X19.here hx rfl (hb hby at_183) rfl (teq ((by decide) : (own_h (1 : Int32) (1 : Int32)) = (0 : Int32))).2 ?_
        show Steps p.tables e below (T19.setTop (mkF m 186 (own_F5 x1 q (1 : Int32) (0 : Int32) b5 (1 : Int32) (1 : Int32)) [])) _
        refine XS.iconst X19.here hx rfl (hb hby at_186) ?_
        show Steps p.tables e below (T19.setTop (mkF m 187 (own_F5 x1 q (1 : Int32) (0 : Int32) b5 (1 : Int32) (1 : Int32)) [(.int (1 : Int32))])) _
        refine XS.goto X19.here hx rfl (pc0 := 187) (pc' := 191) rfl (hb hby at_187) (by decide) (by decide) ?_
        show Steps p.tables e below (T19.setTop (mkF m 191 (own_F5 x1 q (1 : Int32) (0 : Int32) b5 (1 : Int32) (1 : Int32)) [(.int (1 : Int32))])) _
        exact k
      obtain ⟨fs, hr, hrun, hended, hW, hsame⟩ := X19.leave (v := some (.int (1 : Int32))) (fun h => by rw [Bd.returns] at h; cases h)
      refine ⟨_, _, w20 _ ?_, hrun, hended, _, _, rfl, ?_, ⟨_, rfl⟩, hW, hsame.mono (by decide) (by decide)⟩
      · exact retN X19 hx (t := .boolean) Bd.returns (by simp) (hb hby at_191) hr
      · show Q0 Z x1 q  h0 n0 _ T19.heap _
        rw [eh19]
        exact ⟨rfl, N19⟩
    · have wz := w18
      obtain ⟨cq21, kq21, q21a, q21b, q21c⟩ := isOf hZ rfl A5
      obtain ⟨_, _, ⟨T21, L21, k21, n21⟩, -, X21, ⟨Lc21, hQ21, l21, y21, z21⟩, st21⟩ := X17.virtualBack hx (y := (⟨"com/example/hashmesh/hashmesh/mesh/Congestion", "taken", "(J)V"⟩ : MethodName)) (z := (⟨"com/example/hashmesh/hashmesh/mesh/Congestion", "taken", "(J)V"⟩ : MethodName)) hown (mvT hZ (hw _ (List.mem_of_getElem? (i := 86) rfl))) (mvT hZ (hw _ (List.mem_of_getElem? (i := 87) rfl))) (notFace_of_selects (args := #[]) (mvT hZ (hw _ (List.mem_of_getElem? (i := 89) rfl)))) (mvT hZ (hw _ (List.mem_of_getElem? (i := 89) rfl))) (mvT hZ (hw _ (List.mem_of_getElem? (i := 88) rfl))) (by decide) (backOf (W := 0) (rm12_1 l Z a0 hw [] b5 t1_6 kt_6 d2_17 (1 : Int32) (1 : Int64) T17.heap n0 O A5 F_window_a_c17 F_threshold_a_c17 F_paceAt_a_c17 F_smoothedRtt_a_c17 F_leastRtt_a_c17 F_latestRtts_a_c17 F_nextLatest_a_c17 F_latestCount_a_c17 F_rttVariation_a_c17 F_onTheWay_a_c17 F_sent_a_c17 F_shrunkAfter_a_c17 V_t1_c11 g_b5) hZ (hw _ (List.mem_of_getElem? (i := 90) rfl)) (hw _ (List.mem_of_getElem? (i := 6) rfl)) (by decide) (by decide)) q21a q21c (g := (mkF m 131 (own_F3 x1 q (1 : Int32) (1 : Int32) b5) [(.long (1 : Int64)), (.ref b5)])) rfl (by rw [hml]; rfl) (Steps.refl _) (argsL := [(.long (1 : Int64))]) (rest := []) (lenOf pd__40J_41V rfl) rfl (by show 2 * 0 + _ ≤ _; exact Nat.le_of_eq rfl) (hb hby at_131) (fun _ _ => ⟨rfl, rfl, (by decide : 2 + 0 ≤ _), (by decide : 16 + 0 ≤ _)⟩)
      dsimp only [Pt.U, Pt.locs, Pt.cells, Pt.slots] at X21 l21 y21 z21 st21 hQ21
      subst l21 y21 z21
      obtain ⟨rfl, N21q, K21, F_window_a_c21, F_threshold_a_c21, F_paceAt_a_c21, F_smoothedRtt_a_c21, F_leastRtt_a_c21, F_latestRtts_a_c21, F_nextLatest_a_c21, F_latestCount_a_c21, F_rttVariation_a_c21, F_onTheWay_a_c21, F_sent_a_c21, F_shrunkAfter_a_c21⟩ := hQ21
      have N21 := Fr.app N17 N21q
      have A5 := A5.keep K21
      have V_t1_c11 := V_t1_c11.keep K21 (ninS (Ne.symm ne_b5_t1_6) nin0)
      have O := O.keep K21 (allS g_b5 all0)
      have F_onTheWay_a_c21 : Fld Z T21.heap b5 "com/example/hashmesh/hashmesh/mesh/Congestion" "onTheWay" "I" (.int (0 : Int32)) := F_onTheWay_a_c21
      obtain ⟨cq22, kq22, q22a, q22b, q22c⟩ := isOf hZ rfl A5
      obtain ⟨_, _, ⟨T22, L22, k22, n22⟩, -, X22, ⟨Lc22, hQ22, l22, y22, z22⟩, st22⟩ := X21.virtualBack hx (y := (⟨"com/example/hashmesh/hashmesh/mesh/Congestion", "hasRoom", "()Z"⟩ : MethodName)) (z := (⟨"com/example/hashmesh/hashmesh/mesh/Congestion", "hasRoom", "()Z"⟩ : MethodName)) hown (mvT hZ (hw _ (List.mem_of_getElem? (i := 73) rfl))) (mvT hZ (hw _ (List.mem_of_getElem? (i := 74) rfl))) (notFace_of_selects (args := #[]) (mvT hZ (hw _ (List.mem_of_getElem? (i := 76) rfl)))) (mvT hZ (hw _ (List.mem_of_getElem? (i := 76) rfl))) (mvT hZ (hw _ (List.mem_of_getElem? (i := 75) rfl))) (by decide) (backOf (W := 0) (rm10_2 l Z a0 hw [] b5 (0 : Int32) T21.heap n0 O F_onTheWay_a_c21 F_window_a_c21) hZ (hw _ (List.mem_of_getElem? (i := 77) rfl)) (hw _ (List.mem_of_getElem? (i := 6) rfl)) (by decide) (by decide)) q22a q22c (g := (mkF m 168 (own_F5 x1 q (1 : Int32) (1 : Int32) b5 (0 : Int32) (2 : Int32)) [(.ref b5)])) rfl (by rw [hml]; rfl) (Steps.refl _) (argsL := []) (rest := []) (lenOf pd__40_41Z rfl) rfl (by show 2 * 0 + _ ≤ _; exact Nat.le_of_eq rfl) (hb hby at_168) (fun _ _ => ⟨rfl, rfl, (by decide : 2 + 0 ≤ _), (by decide : 16 + 0 ≤ _)⟩)
      dsimp only [Pt.U, Pt.locs, Pt.cells, Pt.slots] at X22 l22 y22 z22 st22 hQ22
      subst l22 y22 z22
      obtain ⟨rfl, N22q, eh22⟩ := hQ22
      have N22 := Fr.app N21 N22q
      have w23 : ∀ t, Steps p.tables e below (T22.setTop (mkF m 191 (own_F5 x1 q (1 : Int32) (1 : Int32) b5 (0 : Int32) (2 : Int32)) [(.int (1 : Int32))])) t → Steps p.tables e below (s₁.setTop (entryFrame m #[(.int x1), (.long q)] maxLocals)) t := fun t k => by
        refine w18 t ?_
        refine XS.iload X17.here hx rfl (hb hby at_123) rfl ?_
        show Steps p.tables e below (T17.setTop (mkF m 125 (own_F3 x1 q (1 : Int32) (1 : Int32) b5) [(.int (1 : Int32))])) _
        refine XS.ifNo X17.here hx rfl (hb hby at_125) rfl ((if0 _ _).trans (tlt ((by decide) : (0 : Int32) < (1 : Int32))).2.2.2) ?_
        show Steps p.tables e below (T17.setTop (mkF m 128 (own_F3 x1 q (1 : Int32) (1 : Int32) b5) [])) _
        refine XS.aload X17.here hx rfl (hb hby at_128) rfl rfl ?_
        show Steps p.tables e below (T17.setTop (mkF m 130 (own_F3 x1 q (1 : Int32) (1 : Int32) b5) [(.ref b5)])) _
        refine XS.lconst X17.here hx rfl (hb hby at_130) ?_
        show Steps p.tables e below (T17.setTop (mkF m 131 (own_F3 x1 q (1 : Int32) (1 : Int32) b5) [(.long (1 : Int64)), (.ref b5)])) _
        refine st21.trans ?_
        show Steps p.tables e below (T21.setTop (mkF m 134 (own_F3 x1 q (1 : Int32) (1 : Int32) b5) [])) _
        refine XS.iload X21.here hx rfl (hb hby at_134) rfl ?_
        show Steps p.tables e below (T21.setTop (mkF m 136 (own_F3 x1 q (1 : Int32) (1 : Int32) b5) [(.int (1 : Int32))])) _
        refine XS.iconst X21.here hx rfl (hb hby at_136) ?_
        show Steps p.tables e below (T21.setTop (mkF m 137 (own_F3 x1 q (1 : Int32) (1 : Int32) b5) [(.int (1 : Int32)), (.int (1 : Int32))])) _
        refine XS.icmpYes X21.here hx rfl (pc0 := 137) (pc' := 148) rfl (hb hby at_137) rfl (flt ((by decide) : ¬ ((1 : Int32) < (1 : Int32)))).2.2.2 (by decide) (by decide) ?_
        show Steps p.tables e below (T21.setTop (mkF m 148 (own_F3 x1 q (1 : Int32) (1 : Int32) b5) [])) _
        refine XS.iloadN X21.here hx rfl (hb hby at_148) rfl ?_
        show Steps p.tables e below (T21.setTop (mkF m 149 (own_F3 x1 q (1 : Int32) (1 : Int32) b5) [(.int (1 : Int32))])) _
        refine XS.iload X21.here hx rfl (hb hby at_149) rfl ?_
        show Steps p.tables e below (T21.setTop (mkF m 151 (own_F3 x1 q (1 : Int32) (1 : Int32) b5) [(.int (1 : Int32)), (.int (1 : Int32))])) _
        refine XS.isub X21.here hx rfl (hb hby at_151) rfl ?_
        show Steps p.tables e below (T21.setTop (mkF m 152 (own_F3 x1 q (1 : Int32) (1 : Int32) b5) [(.int (0 : Int32))])) _
        refine XS.istore X21.here hx rfl (hb hby at_152) rfl (l' := (own_F4 x1 q (1 : Int32) (1 : Int32) b5 (0 : Int32))) rfl ?_
        show Steps p.tables e below (T21.setTop (mkF m 154 (own_F4 x1 q (1 : Int32) (1 : Int32) b5 (0 : Int32)) [])) _
        refine XS.iload X21.here hx rfl (hb hby at_154) rfl ?_
        show Steps p.tables e below (T21.setTop (mkF m 156 (own_F4 x1 q (1 : Int32) (1 : Int32) b5 (0 : Int32)) [(.int (1 : Int32))])) _
        refine XS.ifYes X21.here hx rfl (pc0 := 156) (pc' := 163) rfl (hb hby at_156) rfl ((if0 _ _).trans (feq ((by decide) : ¬ ((1 : Int32) = (0 : Int32)))).2) (by decide) (by decide) ?_
        show Steps p.tables e below (T21.setTop (mkF m 163 (own_F4 x1 q (1 : Int32) (1 : Int32) b5 (0 : Int32)) [])) _
        refine XS.iconst X21.here hx rfl (hb hby at_163) ?_
        show Steps p.tables e below (T21.setTop (mkF m 164 (own_F4 x1 q (1 : Int32) (1 : Int32) b5 (0 : Int32)) [(.int (2 : Int32))])) _
        refine XS.istore X21.here hx rfl (hb hby at_164) rfl (l' := (own_F5 x1 q (1 : Int32) (1 : Int32) b5 (0 : Int32) (2 : Int32))) rfl ?_
        show Steps p.tables e below (T21.setTop (mkF m 166 (own_F5 x1 q (1 : Int32) (1 : Int32) b5 (0 : Int32) (2 : Int32)) [])) _
        refine XS.aload X21.here hx rfl (hb hby at_166) rfl rfl ?_
        show Steps p.tables e below (T21.setTop (mkF m 168 (own_F5 x1 q (1 : Int32) (1 : Int32) b5 (0 : Int32) (2 : Int32)) [(.ref b5)])) _
        refine st22.trans ?_
        show Steps p.tables e below (T22.setTop (mkF m 171 (own_F5 x1 q (1 : Int32) (1 : Int32) b5 (0 : Int32) (2 : Int32)) [(.int (own_h (0 : Int32) (2 : Int32)))])) _
        refine XS.iload X22.here hx rfl (hb hby at_171) rfl ?_
        show Steps p.tables e below (T22.setTop (mkF m 173 (own_F5 x1 q (1 : Int32) (1 : Int32) b5 (0 : Int32) (2 : Int32)) [(.int (0 : Int32)), (.int (own_h (0 : Int32) (2 : Int32)))])) _
        refine XS.iload X22.here hx rfl (hb hby at_173) rfl ?_
        show Steps p.tables e below (T22.setTop (mkF m 175 (own_F5 x1 q (1 : Int32) (1 : Int32) b5 (0 : Int32) (2 : Int32)) [(.int (2 : Int32)), (.int (0 : Int32)), (.int (own_h (0 : Int32) (2 : Int32)))])) _
        refine XS.icmpNo X22.here hx rfl (hb hby at_175) rfl (tlt ((by decide) : (0 : Int32) < (2 : Int32))).2.1 ?_
        show Steps p.tables e below (T22.setTop (mkF m 178 (own_F5 x1 q (1 : Int32) (1 : Int32) b5 (0 : Int32) (2 : Int32)) [(.int (own_h (0 : Int32) (2 : Int32)))])) _
        refine XS.iconst X22.here hx rfl (hb hby at_178) ?_
        show Steps p.tables e below (T22.setTop (mkF m 179 (own_F5 x1 q (1 : Int32) (1 : Int32) b5 (0 : Int32) (2 : Int32)) [(.int (1 : Int32)), (.int (own_h (0 : Int32) (2 : Int32)))])) _
        refine XS.goto X22.here hx rfl (pc0 := 179) (pc' := 183) rfl (hb hby at_179) (by decide) (by decide) ?_
        show Steps p.tables e below (T22.setTop (mkF m 183 (own_F5 x1 q (1 : Int32) (1 : Int32) b5 (0 : Int32) (2 : Int32)) [(.int (1 : Int32)), (.int (own_h (0 : Int32) (2 : Int32)))])) _
        refine XS.icmpNo X22.here hx rfl (hb hby at_183) rfl (teq ((by decide) : (own_h (0 : Int32) (2 : Int32)) = (1 : Int32))).2 ?_
        show Steps p.tables e below (T22.setTop (mkF m 186 (own_F5 x1 q (1 : Int32) (1 : Int32) b5 (0 : Int32) (2 : Int32)) [])) _
        refine XS.iconst X22.here hx rfl (hb hby at_186) ?_
        show Steps p.tables e below (T22.setTop (mkF m 187 (own_F5 x1 q (1 : Int32) (1 : Int32) b5 (0 : Int32) (2 : Int32)) [(.int (1 : Int32))])) _
        refine XS.goto X22.here hx rfl (pc0 := 187) (pc' := 191) rfl (hb hby at_187) (by decide) (by decide) ?_
        show Steps p.tables e below (T22.setTop (mkF m 191 (own_F5 x1 q (1 : Int32) (1 : Int32) b5 (0 : Int32) (2 : Int32)) [(.int (1 : Int32))])) _
        exact k
      obtain ⟨fs, hr, hrun, hended, hW, hsame⟩ := X22.leave (v := some (.int (1 : Int32))) (fun h => by rw [Bd.returns] at h; cases h)
      refine ⟨_, _, w23 _ ?_, hrun, hended, _, _, rfl, ?_, ⟨_, rfl⟩, hW, hsame.mono (by decide) (by decide)⟩
      · exact retN X22 hx (t := .boolean) Bd.returns (by simp) (hb hby at_191) hr
      · show Q0 Z x1 q  h0 n0 _ T22.heap _
        rw [eh22]
        exact ⟨rfl, N22⟩
  · have mb : vb = (0 : Int32) ∨ vb = (1 : Int32) ∨ vb = (2 : Int32) := by rw [hvb]; exact own_b2 _
    obtain ⟨cq24, kq24, q24a, q24b, q24c⟩ := isOf hZ rfl A5
    obtain ⟨_, _, ⟨T24, L24, k24, n24⟩, -, X24, ⟨Lc24, hQ24, l24, y24, z24⟩, st24⟩ := X12.virtualBack hx (y := (⟨"com/example/hashmesh/hashmesh/mesh/Congestion", "sent", "(J)J"⟩ : MethodName)) (z := (⟨"com/example/hashmesh/hashmesh/mesh/Congestion", "sent", "(J)J"⟩ : MethodName)) hown (mvT hZ (hw _ (List.mem_of_getElem? (i := 80) rfl))) (mvT hZ (hw _ (List.mem_of_getElem? (i := 81) rfl))) (notFace_of_selects (args := #[]) (mvT hZ (hw _ (List.mem_of_getElem? (i := 83) rfl)))) (mvT hZ (hw _ (List.mem_of_getElem? (i := 83) rfl))) (mvT hZ (hw _ (List.mem_of_getElem? (i := 82) rfl))) (by decide) (backOf (W := 0) (rm11 l Z a0 hw [] b5 q t1_6 (18442240474082181120 : UInt64) (0 : Int32) (0 : Int64) T12.heap n0 O A5 F_window_a_c12 F_threshold_a_c12 F_paceAt_a_c12 F_smoothedRtt_a_c12 F_leastRtt_a_c12 F_latestRtts_a_c12 F_nextLatest_a_c12 F_latestCount_a_c12 F_rttVariation_a_c12 F_onTheWay_a_c12 F_sent_a_c12 F_shrunkAfter_a_c12 (show (18442240474082181120 : UInt64) &&& 0x7fffffffffffffff ≤ 0x7ff0000000000000 by decide +kernel) g_b5) hZ (hw _ (List.mem_of_getElem? (i := 84) rfl)) (hw _ (List.mem_of_getElem? (i := 6) rfl)) (by decide) (by decide)) q24a q24c (g := (mkF m 83 (own_F3 x1 q (2 : Int32) vb b5) [(.long q), (.ref b5)])) rfl (by rw [hml]; rfl) (Steps.refl _) (argsL := [(.long q)]) (rest := []) (lenOf pd__40J_41J rfl) rfl (by show 2 * 0 + _ ≤ _; exact Nat.le_of_eq rfl) (hb hby at_83) (fun _ _ => ⟨rfl, rfl, (by decide : 2 + 0 ≤ _), (by decide : 16 + 0 ≤ _)⟩)
    dsimp only [Pt.U, Pt.locs, Pt.cells, Pt.slots] at X24 l24 y24 z24 st24 hQ24
    subst l24 y24 z24
    obtain ⟨d2_24, rfl, N24q, K24, F_window_a_c24, F_threshold_a_c24, F_paceAt_a_c24, F_smoothedRtt_a_c24, F_leastRtt_a_c24, F_latestRtts_a_c24, F_nextLatest_a_c24, F_latestCount_a_c24, F_rttVariation_a_c24, F_onTheWay_a_c24, F_sent_a_c24, F_shrunkAfter_a_c24, hd2_24⟩ := hQ24
    have N24 := Fr.app N12 N24q
    have A5 := A5.keep K24
    have V_t1_c11 := V_t1_c11.keep K24 (ninS (Ne.symm ne_b5_t1_6) nin0)
    have O := O.keep K24 (allS g_b5 all0)
    have F_onTheWay_a_c24 : Fld Z T24.heap b5 "com/example/hashmesh/hashmesh/mesh/Congestion" "onTheWay" "I" (.int (1 : Int32)) := F_onTheWay_a_c24
    have F_sent_a_c24 : Fld Z T24.heap b5 "com/example/hashmesh/hashmesh/mesh/Congestion" "sent" "J" (.long (1 : Int64)) := F_sent_a_c24
    obtain ⟨cq25, kq25, q25a, q25b, q25c⟩ := isOf hZ rfl A5
    obtain ⟨_, _, ⟨T25, L25, k25, n25⟩, -, X25, ⟨Lc25, hQ25, l25, y25, z25⟩, st25⟩ := X24.virtualBack hx (y := (⟨"com/example/hashmesh/hashmesh/mesh/Congestion", "sent", "(J)J"⟩ : MethodName)) (z := (⟨"com/example/hashmesh/hashmesh/mesh/Congestion", "sent", "(J)J"⟩ : MethodName)) hown (mvT hZ (hw _ (List.mem_of_getElem? (i := 80) rfl))) (mvT hZ (hw _ (List.mem_of_getElem? (i := 81) rfl))) (notFace_of_selects (args := #[]) (mvT hZ (hw _ (List.mem_of_getElem? (i := 83) rfl)))) (mvT hZ (hw _ (List.mem_of_getElem? (i := 83) rfl))) (mvT hZ (hw _ (List.mem_of_getElem? (i := 82) rfl))) (by decide) (backOf (W := 0) (rm11 l Z a0 hw [] b5 q t1_6 d2_24 (1 : Int32) (1 : Int64) T24.heap n0 O A5 F_window_a_c24 F_threshold_a_c24 F_paceAt_a_c24 F_smoothedRtt_a_c24 F_leastRtt_a_c24 F_latestRtts_a_c24 F_nextLatest_a_c24 F_latestCount_a_c24 F_rttVariation_a_c24 F_onTheWay_a_c24 F_sent_a_c24 F_shrunkAfter_a_c24 hd2_24 g_b5) hZ (hw _ (List.mem_of_getElem? (i := 84) rfl)) (hw _ (List.mem_of_getElem? (i := 6) rfl)) (by decide) (by decide)) q25a q25c (g := (mkF m 95 (own_F3 x1 q (2 : Int32) vb b5) [(.long q), (.ref b5)])) rfl (by rw [hml]; rfl) (Steps.refl _) (argsL := [(.long q)]) (rest := []) (lenOf pd__40J_41J rfl) rfl (by show 2 * 0 + _ ≤ _; exact Nat.le_of_eq rfl) (hb hby at_95) (fun _ _ => ⟨rfl, rfl, (by decide : 2 + 0 ≤ _), (by decide : 16 + 0 ≤ _)⟩)
    dsimp only [Pt.U, Pt.locs, Pt.cells, Pt.slots] at X25 l25 y25 z25 st25 hQ25
    subst l25 y25 z25
    obtain ⟨d2_25, rfl, N25q, K25, F_window_a_c25, F_threshold_a_c25, F_paceAt_a_c25, F_smoothedRtt_a_c25, F_leastRtt_a_c25, F_latestRtts_a_c25, F_nextLatest_a_c25, F_latestCount_a_c25, F_rttVariation_a_c25, F_onTheWay_a_c25, F_sent_a_c25, F_shrunkAfter_a_c25, hd2_25⟩ := hQ25
    have N25 := Fr.app N24 N25q
    have A5 := A5.keep K25
    have V_t1_c11 := V_t1_c11.keep K25 (ninS (Ne.symm ne_b5_t1_6) nin0)
    have O := O.keep K25 (allS g_b5 all0)
    have F_onTheWay_a_c25 : Fld Z T25.heap b5 "com/example/hashmesh/hashmesh/mesh/Congestion" "onTheWay" "I" (.int (2 : Int32)) := F_onTheWay_a_c25
    have F_sent_a_c25 : Fld Z T25.heap b5 "com/example/hashmesh/hashmesh/mesh/Congestion" "sent" "J" (.long (2 : Int64)) := F_sent_a_c25
    have w26 : ∀ t, Steps p.tables e below (T25.setTop (mkF m 123 (own_F3 x1 q (2 : Int32) vb b5) [])) t → Steps p.tables e below (s₁.setTop (entryFrame m #[(.int x1), (.long q)] maxLocals)) t := fun t k => by
      refine w13 t ?_
      refine XS.iloadN X12.here hx rfl (hb hby at_76) rfl ?_
      show Steps p.tables e below (T12.setTop (mkF m 77 (own_F3 x1 q (2 : Int32) vb b5) [(.int (2 : Int32))])) _
      refine XS.ifNo X12.here hx rfl (hb hby at_77) rfl ((if0 _ _).trans (tlt ((by decide) : (0 : Int32) < (2 : Int32))).2.2.2) ?_
      show Steps p.tables e below (T12.setTop (mkF m 80 (own_F3 x1 q (2 : Int32) vb b5) [])) _
      refine XS.aload X12.here hx rfl (hb hby at_80) rfl rfl ?_
      show Steps p.tables e below (T12.setTop (mkF m 82 (own_F3 x1 q (2 : Int32) vb b5) [(.ref b5)])) _
      refine XS.lloadN X12.here hx rfl (hb hby at_82) rfl ?_
      show Steps p.tables e below (T12.setTop (mkF m 83 (own_F3 x1 q (2 : Int32) vb b5) [(.long q), (.ref b5)])) _
      refine st24.trans ?_
      show Steps p.tables e below (T24.setTop (mkF m 86 (own_F3 x1 q (2 : Int32) vb b5) [(.long ((0 : Int64) + (1 : Int64)))])) _
      jvm_step X24.here [X24.here.top, hx, (hb hby at_86), Value.category]
      show Steps p.tables e below (T24.setTop (mkF m 87 (own_F3 x1 q (2 : Int32) vb b5) [])) _
      refine XS.iloadN X24.here hx rfl (hb hby at_87) rfl ?_
      show Steps p.tables e below (T24.setTop (mkF m 88 (own_F3 x1 q (2 : Int32) vb b5) [(.int (2 : Int32))])) _
      refine XS.iconst X24.here hx rfl (hb hby at_88) ?_
      show Steps p.tables e below (T24.setTop (mkF m 89 (own_F3 x1 q (2 : Int32) vb b5) [(.int (1 : Int32)), (.int (2 : Int32))])) _
      refine XS.icmpNo X24.here hx rfl (hb hby at_89) rfl (tlt ((by decide) : (1 : Int32) < (2 : Int32))).2.2.2 ?_
      show Steps p.tables e below (T24.setTop (mkF m 92 (own_F3 x1 q (2 : Int32) vb b5) [])) _
      refine XS.aload X24.here hx rfl (hb hby at_92) rfl rfl ?_
      show Steps p.tables e below (T24.setTop (mkF m 94 (own_F3 x1 q (2 : Int32) vb b5) [(.ref b5)])) _
      refine XS.lloadN X24.here hx rfl (hb hby at_94) rfl ?_
      show Steps p.tables e below (T24.setTop (mkF m 95 (own_F3 x1 q (2 : Int32) vb b5) [(.long q), (.ref b5)])) _
      refine st25.trans ?_
      show Steps p.tables e below (T25.setTop (mkF m 98 (own_F3 x1 q (2 : Int32) vb b5) [(.long ((1 : Int64) + (1 : Int64)))])) _
      jvm_step X25.here [X25.here.top, hx, (hb hby at_98), Value.category]
      show Steps p.tables e below (T25.setTop (mkF m 99 (own_F3 x1 q (2 : Int32) vb b5) [])) _
      refine XS.iloadN X25.here hx rfl (hb hby at_99) rfl ?_
      show Steps p.tables e below (T25.setTop (mkF m 100 (own_F3 x1 q (2 : Int32) vb b5) [(.int (2 : Int32))])) _
      refine XS.iconst X25.here hx rfl (hb hby at_100) ?_
      show Steps p.tables e below (T25.setTop (mkF m 101 (own_F3 x1 q (2 : Int32) vb b5) [(.int (2 : Int32)), (.int (2 : Int32))])) _
      refine XS.icmpYes X25.here hx rfl (pc0 := 101) (pc' := 111) rfl (hb hby at_101) rfl (flt ((by decide) : ¬ ((2 : Int32) < (2 : Int32)))).2.2.2 (by decide) (by decide) ?_
      show Steps p.tables e below (T25.setTop (mkF m 111 (own_F3 x1 q (2 : Int32) vb b5) [])) _
      refine XS.iloadN X25.here hx rfl (hb hby at_111) rfl ?_
      show Steps p.tables e below (T25.setTop (mkF m 112 (own_F3 x1 q (2 : Int32) vb b5) [(.int (2 : Int32))])) _
      refine XS.iconst X25.here hx rfl (hb hby at_112) ?_
      show Steps p.tables e below (T25.setTop (mkF m 113 (own_F3 x1 q (2 : Int32) vb b5) [(.int (3 : Int32)), (.int (2 : Int32))])) _
      refine XS.icmpYes X25.here hx rfl (pc0 := 113) (pc' := 123) rfl (hb hby at_113) rfl (flt ((by decide) : ¬ ((3 : Int32) < (2 : Int32)))).2.2.2 (by decide) (by decide) ?_
      show Steps p.tables e below (T25.setTop (mkF m 123 (own_F3 x1 q (2 : Int32) vb b5) [])) _
      exact k
    rcases mb with rfl | rfl | rfl
    · have wz := w26
      obtain ⟨cq27, kq27, q27a, q27b, q27c⟩ := isOf hZ rfl A5
      obtain ⟨_, _, ⟨T27, L27, k27, n27⟩, -, X27, ⟨Lc27, hQ27, l27, y27, z27⟩, st27⟩ := X25.virtualBack hx (y := (⟨"com/example/hashmesh/hashmesh/mesh/Congestion", "hasRoom", "()Z"⟩ : MethodName)) (z := (⟨"com/example/hashmesh/hashmesh/mesh/Congestion", "hasRoom", "()Z"⟩ : MethodName)) hown (mvT hZ (hw _ (List.mem_of_getElem? (i := 73) rfl))) (mvT hZ (hw _ (List.mem_of_getElem? (i := 74) rfl))) (notFace_of_selects (args := #[]) (mvT hZ (hw _ (List.mem_of_getElem? (i := 76) rfl)))) (mvT hZ (hw _ (List.mem_of_getElem? (i := 76) rfl))) (mvT hZ (hw _ (List.mem_of_getElem? (i := 75) rfl))) (by decide) (backOf (W := 0) (rm10_1 l Z a0 hw [] b5 (2 : Int32) T25.heap n0 O F_onTheWay_a_c25 F_window_a_c25) hZ (hw _ (List.mem_of_getElem? (i := 77) rfl)) (hw _ (List.mem_of_getElem? (i := 6) rfl)) (by decide) (by decide)) q27a q27c (g := (mkF m 168 (own_F5 x1 q (2 : Int32) (0 : Int32) b5 (2 : Int32) (1 : Int32)) [(.ref b5)])) rfl (by rw [hml]; rfl) (Steps.refl _) (argsL := []) (rest := []) (lenOf pd__40_41Z rfl) rfl (by show 2 * 0 + _ ≤ _; exact Nat.le_of_eq rfl) (hb hby at_168) (fun _ _ => ⟨rfl, rfl, (by decide : 2 + 0 ≤ _), (by decide : 16 + 0 ≤ _)⟩)
      dsimp only [Pt.U, Pt.locs, Pt.cells, Pt.slots] at X27 l27 y27 z27 st27 hQ27
      subst l27 y27 z27
      obtain ⟨rfl, N27q, eh27⟩ := hQ27
      have N27 := Fr.app N25 N27q
      have w28 : ∀ t, Steps p.tables e below (T27.setTop (mkF m 191 (own_F5 x1 q (2 : Int32) (0 : Int32) b5 (2 : Int32) (1 : Int32)) [(.int (1 : Int32))])) t → Steps p.tables e below (s₁.setTop (entryFrame m #[(.int x1), (.long q)] maxLocals)) t := fun t k => by
        refine w26 t ?_
        refine XS.iload X25.here hx rfl (hb hby at_123) rfl ?_
        show Steps p.tables e below (T25.setTop (mkF m 125 (own_F3 x1 q (2 : Int32) (0 : Int32) b5) [(.int (0 : Int32))])) _
        refine XS.ifYes X25.here hx rfl (pc0 := 125) (pc' := 134) rfl (hb hby at_125) rfl ((if0 _ _).trans (flt ((by decide) : ¬ ((0 : Int32) < (0 : Int32)))).2.2.2) (by decide) (by decide) ?_
        show Steps p.tables e below (T25.setTop (mkF m 134 (own_F3 x1 q (2 : Int32) (0 : Int32) b5) [])) _
        refine XS.iload X25.here hx rfl (hb hby at_134) rfl ?_
        show Steps p.tables e below (T25.setTop (mkF m 136 (own_F3 x1 q (2 : Int32) (0 : Int32) b5) [(.int (0 : Int32))])) _
        refine XS.iconst X25.here hx rfl (hb hby at_136) ?_
        show Steps p.tables e below (T25.setTop (mkF m 137 (own_F3 x1 q (2 : Int32) (0 : Int32) b5) [(.int (1 : Int32)), (.int (0 : Int32))])) _
        refine XS.icmpYes X25.here hx rfl (pc0 := 137) (pc' := 148) rfl (hb hby at_137) rfl (flt ((by decide) : ¬ ((1 : Int32) < (0 : Int32)))).2.2.2 (by decide) (by decide) ?_
        show Steps p.tables e below (T25.setTop (mkF m 148 (own_F3 x1 q (2 : Int32) (0 : Int32) b5) [])) _
        refine XS.iloadN X25.here hx rfl (hb hby at_148) rfl ?_
        show Steps p.tables e below (T25.setTop (mkF m 149 (own_F3 x1 q (2 : Int32) (0 : Int32) b5) [(.int (2 : Int32))])) _
        refine XS.iload X25.here hx rfl (hb hby at_149) rfl ?_
        show Steps p.tables e below (T25.setTop (mkF m 151 (own_F3 x1 q (2 : Int32) (0 : Int32) b5) [(.int (0 : Int32)), (.int (2 : Int32))])) _
        refine XS.isub X25.here hx rfl (hb hby at_151) rfl ?_
        show Steps p.tables e below (T25.setTop (mkF m 152 (own_F3 x1 q (2 : Int32) (0 : Int32) b5) [(.int (2 : Int32))])) _
        refine XS.istore X25.here hx rfl (hb hby at_152) rfl (l' := (own_F4 x1 q (2 : Int32) (0 : Int32) b5 (2 : Int32))) rfl ?_
        show Steps p.tables e below (T25.setTop (mkF m 154 (own_F4 x1 q (2 : Int32) (0 : Int32) b5 (2 : Int32)) [])) _
        refine XS.iload X25.here hx rfl (hb hby at_154) rfl ?_
        show Steps p.tables e below (T25.setTop (mkF m 156 (own_F4 x1 q (2 : Int32) (0 : Int32) b5 (2 : Int32)) [(.int (0 : Int32))])) _
        refine XS.ifNo X25.here hx rfl (hb hby at_156) rfl ((if0 _ _).trans (teq (rfl : (0 : Int32) = (0 : Int32))).2) ?_
        show Steps p.tables e below (T25.setTop (mkF m 159 (own_F4 x1 q (2 : Int32) (0 : Int32) b5 (2 : Int32)) [])) _
        refine XS.iconst X25.here hx rfl (hb hby at_159) ?_
        show Steps p.tables e below (T25.setTop (mkF m 160 (own_F4 x1 q (2 : Int32) (0 : Int32) b5 (2 : Int32)) [(.int (1 : Int32))])) _
        refine XS.goto X25.here hx rfl (pc0 := 160) (pc' := 164) rfl (hb hby at_160) (by decide) (by decide) ?_
        show Steps p.tables e below (T25.setTop (mkF m 164 (own_F4 x1 q (2 : Int32) (0 : Int32) b5 (2 : Int32)) [(.int (1 : Int32))])) _
        refine XS.istore X25.here hx rfl (hb hby at_164) rfl (l' := (own_F5 x1 q (2 : Int32) (0 : Int32) b5 (2 : Int32) (1 : Int32))) rfl ?_
        show Steps p.tables e below (T25.setTop (mkF m 166 (own_F5 x1 q (2 : Int32) (0 : Int32) b5 (2 : Int32) (1 : Int32)) [])) _
        refine XS.aload X25.here hx rfl (hb hby at_166) rfl rfl ?_
        show Steps p.tables e below (T25.setTop (mkF m 168 (own_F5 x1 q (2 : Int32) (0 : Int32) b5 (2 : Int32) (1 : Int32)) [(.ref b5)])) _
        refine st27.trans ?_
        show Steps p.tables e below (T27.setTop (mkF m 171 (own_F5 x1 q (2 : Int32) (0 : Int32) b5 (2 : Int32) (1 : Int32)) [(.int (own_h (2 : Int32) (1 : Int32)))])) _
        refine XS.iload X27.here hx rfl (hb hby at_171) rfl ?_
        show Steps p.tables e below (T27.setTop (mkF m 173 (own_F5 x1 q (2 : Int32) (0 : Int32) b5 (2 : Int32) (1 : Int32)) [(.int (2 : Int32)), (.int (own_h (2 : Int32) (1 : Int32)))])) _
        refine XS.iload X27.here hx rfl (hb hby at_173) rfl ?_
        show Steps p.tables e below (T27.setTop (mkF m 175 (own_F5 x1 q (2 : Int32) (0 : Int32) b5 (2 : Int32) (1 : Int32)) [(.int (1 : Int32)), (.int (2 : Int32)), (.int (own_h (2 : Int32) (1 : Int32)))])) _
        refine XS.icmpYes X27.here hx rfl (pc0 := 175) (pc' := 182) rfl (hb hby at_175) rfl (flt ((by decide) : ¬ ((2 : Int32) < (1 : Int32)))).2.1 (by decide) (by decide) ?_
        show Steps p.tables e below (T27.setTop (mkF m 182 (own_F5 x1 q (2 : Int32) (0 : Int32) b5 (2 : Int32) (1 : Int32)) [(.int (own_h (2 : Int32) (1 : Int32)))])) _
        refine XS.iconst X27.here hx rfl (hb hby at_182) ?_
        show Steps p.tables e below (T27.setTop (mkF m 183 (own_F5 x1 q (2 : Int32) (0 : Int32) b5 (2 : Int32) (1 : Int32)) [(.int (0 : Int32)), (.int (own_h (2 : Int32) (1 : Int32)))])) _
        refine XS.icmpNo X27.here hx rfl (hb hby at_183) rfl (teq ((by decide) : (own_h (2 : Int32) (1 : Int32)) = (0 : Int32))).2 ?_
        show Steps p.tables e below (T27.setTop (mkF m 186 (own_F5 x1 q (2 : Int32) (0 : Int32) b5 (2 : Int32) (1 : Int32)) [])) _
        refine XS.iconst X27.here hx rfl (hb hby at_186) ?_
        show Steps p.tables e below (T27.setTop (mkF m 187 (own_F5 x1 q (2 : Int32) (0 : Int32) b5 (2 : Int32) (1 : Int32)) [(.int (1 : Int32))])) _
        refine XS.goto X27.here hx rfl (pc0 := 187) (pc' := 191) rfl (hb hby at_187) (by decide) (by decide) ?_
        show Steps p.tables e below (T27.setTop (mkF m 191 (own_F5 x1 q (2 : Int32) (0 : Int32) b5 (2 : Int32) (1 : Int32)) [(.int (1 : Int32))])) _
        exact k
      obtain ⟨fs, hr, hrun, hended, hW, hsame⟩ := X27.leave (v := some (.int (1 : Int32))) (fun h => by rw [Bd.returns] at h; cases h)
      refine ⟨_, _, w28 _ ?_, hrun, hended, _, _, rfl, ?_, ⟨_, rfl⟩, hW, hsame.mono (by decide) (by decide)⟩
      · exact retN X27 hx (t := .boolean) Bd.returns (by simp) (hb hby at_191) hr
      · show Q0 Z x1 q  h0 n0 _ T27.heap _
        rw [eh27]
        exact ⟨rfl, N27⟩
    · have wz := w26
      obtain ⟨cq29, kq29, q29a, q29b, q29c⟩ := isOf hZ rfl A5
      obtain ⟨_, _, ⟨T29, L29, k29, n29⟩, -, X29, ⟨Lc29, hQ29, l29, y29, z29⟩, st29⟩ := X25.virtualBack hx (y := (⟨"com/example/hashmesh/hashmesh/mesh/Congestion", "taken", "(J)V"⟩ : MethodName)) (z := (⟨"com/example/hashmesh/hashmesh/mesh/Congestion", "taken", "(J)V"⟩ : MethodName)) hown (mvT hZ (hw _ (List.mem_of_getElem? (i := 86) rfl))) (mvT hZ (hw _ (List.mem_of_getElem? (i := 87) rfl))) (notFace_of_selects (args := #[]) (mvT hZ (hw _ (List.mem_of_getElem? (i := 89) rfl)))) (mvT hZ (hw _ (List.mem_of_getElem? (i := 89) rfl))) (mvT hZ (hw _ (List.mem_of_getElem? (i := 88) rfl))) (by decide) (backOf (W := 0) (rm12_1 l Z a0 hw [] b5 t1_6 kt_6 d2_25 (2 : Int32) (2 : Int64) T25.heap n0 O A5 F_window_a_c25 F_threshold_a_c25 F_paceAt_a_c25 F_smoothedRtt_a_c25 F_leastRtt_a_c25 F_latestRtts_a_c25 F_nextLatest_a_c25 F_latestCount_a_c25 F_rttVariation_a_c25 F_onTheWay_a_c25 F_sent_a_c25 F_shrunkAfter_a_c25 V_t1_c11 g_b5) hZ (hw _ (List.mem_of_getElem? (i := 90) rfl)) (hw _ (List.mem_of_getElem? (i := 6) rfl)) (by decide) (by decide)) q29a q29c (g := (mkF m 131 (own_F3 x1 q (2 : Int32) (1 : Int32) b5) [(.long (1 : Int64)), (.ref b5)])) rfl (by rw [hml]; rfl) (Steps.refl _) (argsL := [(.long (1 : Int64))]) (rest := []) (lenOf pd__40J_41V rfl) rfl (by show 2 * 0 + _ ≤ _; exact Nat.le_of_eq rfl) (hb hby at_131) (fun _ _ => ⟨rfl, rfl, (by decide : 2 + 0 ≤ _), (by decide : 16 + 0 ≤ _)⟩)
      dsimp only [Pt.U, Pt.locs, Pt.cells, Pt.slots] at X29 l29 y29 z29 st29 hQ29
      subst l29 y29 z29
      obtain ⟨rfl, N29q, K29, F_window_a_c29, F_threshold_a_c29, F_paceAt_a_c29, F_smoothedRtt_a_c29, F_leastRtt_a_c29, F_latestRtts_a_c29, F_nextLatest_a_c29, F_latestCount_a_c29, F_rttVariation_a_c29, F_onTheWay_a_c29, F_sent_a_c29, F_shrunkAfter_a_c29⟩ := hQ29
      have N29 := Fr.app N25 N29q
      have A5 := A5.keep K29
      have V_t1_c11 := V_t1_c11.keep K29 (ninS (Ne.symm ne_b5_t1_6) nin0)
      have O := O.keep K29 (allS g_b5 all0)
      have F_onTheWay_a_c29 : Fld Z T29.heap b5 "com/example/hashmesh/hashmesh/mesh/Congestion" "onTheWay" "I" (.int (1 : Int32)) := F_onTheWay_a_c29
      obtain ⟨cq30, kq30, q30a, q30b, q30c⟩ := isOf hZ rfl A5
      obtain ⟨_, _, ⟨T30, L30, k30, n30⟩, -, X30, ⟨Lc30, hQ30, l30, y30, z30⟩, st30⟩ := X29.virtualBack hx (y := (⟨"com/example/hashmesh/hashmesh/mesh/Congestion", "hasRoom", "()Z"⟩ : MethodName)) (z := (⟨"com/example/hashmesh/hashmesh/mesh/Congestion", "hasRoom", "()Z"⟩ : MethodName)) hown (mvT hZ (hw _ (List.mem_of_getElem? (i := 73) rfl))) (mvT hZ (hw _ (List.mem_of_getElem? (i := 74) rfl))) (notFace_of_selects (args := #[]) (mvT hZ (hw _ (List.mem_of_getElem? (i := 76) rfl)))) (mvT hZ (hw _ (List.mem_of_getElem? (i := 76) rfl))) (mvT hZ (hw _ (List.mem_of_getElem? (i := 75) rfl))) (by decide) (backOf (W := 0) (rm10_2 l Z a0 hw [] b5 (1 : Int32) T29.heap n0 O F_onTheWay_a_c29 F_window_a_c29) hZ (hw _ (List.mem_of_getElem? (i := 77) rfl)) (hw _ (List.mem_of_getElem? (i := 6) rfl)) (by decide) (by decide)) q30a q30c (g := (mkF m 168 (own_F5 x1 q (2 : Int32) (1 : Int32) b5 (1 : Int32) (2 : Int32)) [(.ref b5)])) rfl (by rw [hml]; rfl) (Steps.refl _) (argsL := []) (rest := []) (lenOf pd__40_41Z rfl) rfl (by show 2 * 0 + _ ≤ _; exact Nat.le_of_eq rfl) (hb hby at_168) (fun _ _ => ⟨rfl, rfl, (by decide : 2 + 0 ≤ _), (by decide : 16 + 0 ≤ _)⟩)
      dsimp only [Pt.U, Pt.locs, Pt.cells, Pt.slots] at X30 l30 y30 z30 st30 hQ30
      subst l30 y30 z30
      obtain ⟨rfl, N30q, eh30⟩ := hQ30
      have N30 := Fr.app N29 N30q
      have w31 : ∀ t, Steps p.tables e below (T30.setTop (mkF m 191 (own_F5 x1 q (2 : Int32) (1 : Int32) b5 (1 : Int32) (2 : Int32)) [(.int (1 : Int32))])) t → Steps p.tables e below (s₁.setTop (entryFrame m #[(.int x1), (.long q)] maxLocals)) t := fun t k => by
        refine w26 t ?_
        refine XS.iload X25.here hx rfl (hb hby at_123) rfl ?_
        show Steps p.tables e below (T25.setTop (mkF m 125 (own_F3 x1 q (2 : Int32) (1 : Int32) b5) [(.int (1 : Int32))])) _
        refine XS.ifNo X25.here hx rfl (hb hby at_125) rfl ((if0 _ _).trans (tlt ((by decide) : (0 : Int32) < (1 : Int32))).2.2.2) ?_
        show Steps p.tables e below (T25.setTop (mkF m 128 (own_F3 x1 q (2 : Int32) (1 : Int32) b5) [])) _
        refine XS.aload X25.here hx rfl (hb hby at_128) rfl rfl ?_
        show Steps p.tables e below (T25.setTop (mkF m 130 (own_F3 x1 q (2 : Int32) (1 : Int32) b5) [(.ref b5)])) _
        refine XS.lconst X25.here hx rfl (hb hby at_130) ?_
        show Steps p.tables e below (T25.setTop (mkF m 131 (own_F3 x1 q (2 : Int32) (1 : Int32) b5) [(.long (1 : Int64)), (.ref b5)])) _
        refine st29.trans ?_
        show Steps p.tables e below (T29.setTop (mkF m 134 (own_F3 x1 q (2 : Int32) (1 : Int32) b5) [])) _
        refine XS.iload X29.here hx rfl (hb hby at_134) rfl ?_
        show Steps p.tables e below (T29.setTop (mkF m 136 (own_F3 x1 q (2 : Int32) (1 : Int32) b5) [(.int (1 : Int32))])) _
        refine XS.iconst X29.here hx rfl (hb hby at_136) ?_
        show Steps p.tables e below (T29.setTop (mkF m 137 (own_F3 x1 q (2 : Int32) (1 : Int32) b5) [(.int (1 : Int32)), (.int (1 : Int32))])) _
        refine XS.icmpYes X29.here hx rfl (pc0 := 137) (pc' := 148) rfl (hb hby at_137) rfl (flt ((by decide) : ¬ ((1 : Int32) < (1 : Int32)))).2.2.2 (by decide) (by decide) ?_
        show Steps p.tables e below (T29.setTop (mkF m 148 (own_F3 x1 q (2 : Int32) (1 : Int32) b5) [])) _
        refine XS.iloadN X29.here hx rfl (hb hby at_148) rfl ?_
        show Steps p.tables e below (T29.setTop (mkF m 149 (own_F3 x1 q (2 : Int32) (1 : Int32) b5) [(.int (2 : Int32))])) _
        refine XS.iload X29.here hx rfl (hb hby at_149) rfl ?_
        show Steps p.tables e below (T29.setTop (mkF m 151 (own_F3 x1 q (2 : Int32) (1 : Int32) b5) [(.int (1 : Int32)), (.int (2 : Int32))])) _
        refine XS.isub X29.here hx rfl (hb hby at_151) rfl ?_
        show Steps p.tables e below (T29.setTop (mkF m 152 (own_F3 x1 q (2 : Int32) (1 : Int32) b5) [(.int (1 : Int32))])) _
        refine XS.istore X29.here hx rfl (hb hby at_152) rfl (l' := (own_F4 x1 q (2 : Int32) (1 : Int32) b5 (1 : Int32))) rfl ?_
        show Steps p.tables e below (T29.setTop (mkF m 154 (own_F4 x1 q (2 : Int32) (1 : Int32) b5 (1 : Int32)) [])) _
        refine XS.iload X29.here hx rfl (hb hby at_154) rfl ?_
        show Steps p.tables e below (T29.setTop (mkF m 156 (own_F4 x1 q (2 : Int32) (1 : Int32) b5 (1 : Int32)) [(.int (1 : Int32))])) _
        refine XS.ifYes X29.here hx rfl (pc0 := 156) (pc' := 163) rfl (hb hby at_156) rfl ((if0 _ _).trans (feq ((by decide) : ¬ ((1 : Int32) = (0 : Int32)))).2) (by decide) (by decide) ?_
        show Steps p.tables e below (T29.setTop (mkF m 163 (own_F4 x1 q (2 : Int32) (1 : Int32) b5 (1 : Int32)) [])) _
        refine XS.iconst X29.here hx rfl (hb hby at_163) ?_
        show Steps p.tables e below (T29.setTop (mkF m 164 (own_F4 x1 q (2 : Int32) (1 : Int32) b5 (1 : Int32)) [(.int (2 : Int32))])) _
        refine XS.istore X29.here hx rfl (hb hby at_164) rfl (l' := (own_F5 x1 q (2 : Int32) (1 : Int32) b5 (1 : Int32) (2 : Int32))) rfl ?_
        show Steps p.tables e below (T29.setTop (mkF m 166 (own_F5 x1 q (2 : Int32) (1 : Int32) b5 (1 : Int32) (2 : Int32)) [])) _
        refine XS.aload X29.here hx rfl (hb hby at_166) rfl rfl ?_
        show Steps p.tables e below (T29.setTop (mkF m 168 (own_F5 x1 q (2 : Int32) (1 : Int32) b5 (1 : Int32) (2 : Int32)) [(.ref b5)])) _
        refine st30.trans ?_
        show Steps p.tables e below (T30.setTop (mkF m 171 (own_F5 x1 q (2 : Int32) (1 : Int32) b5 (1 : Int32) (2 : Int32)) [(.int (own_h (1 : Int32) (2 : Int32)))])) _
        refine XS.iload X30.here hx rfl (hb hby at_171) rfl ?_
        show Steps p.tables e below (T30.setTop (mkF m 173 (own_F5 x1 q (2 : Int32) (1 : Int32) b5 (1 : Int32) (2 : Int32)) [(.int (1 : Int32)), (.int (own_h (1 : Int32) (2 : Int32)))])) _
        refine XS.iload X30.here hx rfl (hb hby at_173) rfl ?_
        show Steps p.tables e below (T30.setTop (mkF m 175 (own_F5 x1 q (2 : Int32) (1 : Int32) b5 (1 : Int32) (2 : Int32)) [(.int (2 : Int32)), (.int (1 : Int32)), (.int (own_h (1 : Int32) (2 : Int32)))])) _
        refine XS.icmpNo X30.here hx rfl (hb hby at_175) rfl (tlt ((by decide) : (1 : Int32) < (2 : Int32))).2.1 ?_
        show Steps p.tables e below (T30.setTop (mkF m 178 (own_F5 x1 q (2 : Int32) (1 : Int32) b5 (1 : Int32) (2 : Int32)) [(.int (own_h (1 : Int32) (2 : Int32)))])) _
        refine XS.iconst X30.here hx rfl (hb hby at_178) ?_
        show Steps p.tables e below (T30.setTop (mkF m 179 (own_F5 x1 q (2 : Int32) (1 : Int32) b5 (1 : Int32) (2 : Int32)) [(.int (1 : Int32)), (.int (own_h (1 : Int32) (2 : Int32)))])) _
        refine XS.goto X30.here hx rfl (pc0 := 179) (pc' := 183) rfl (hb hby at_179) (by decide) (by decide) ?_
        show Steps p.tables e below (T30.setTop (mkF m 183 (own_F5 x1 q (2 : Int32) (1 : Int32) b5 (1 : Int32) (2 : Int32)) [(.int (1 : Int32)), (.int (own_h (1 : Int32) (2 : Int32)))])) _
        refine XS.icmpNo X30.here hx rfl (hb hby at_183) rfl (teq ((by decide) : (own_h (1 : Int32) (2 : Int32)) = (1 : Int32))).2 ?_
        show Steps p.tables e below (T30.setTop (mkF m 186 (own_F5 x1 q (2 : Int32) (1 : Int32) b5 (1 : Int32) (2 : Int32)) [])) _
        refine XS.iconst X30.here hx rfl (hb hby at_186) ?_
        show Steps p.tables e below (T30.setTop (mkF m 187 (own_F5 x1 q (2 : Int32) (1 : Int32) b5 (1 : Int32) (2 : Int32)) [(.int (1 : Int32))])) _
        refine XS.goto X30.here hx rfl (pc0 := 187) (pc' := 191) rfl (hb hby at_187) (by decide) (by decide) ?_
        show Steps p.tables e below (T30.setTop (mkF m 191 (own_F5 x1 q (2 : Int32) (1 : Int32) b5 (1 : Int32) (2 : Int32)) [(.int (1 : Int32))])) _
        exact k
      obtain ⟨fs, hr, hrun, hended, hW, hsame⟩ := X30.leave (v := some (.int (1 : Int32))) (fun h => by rw [Bd.returns] at h; cases h)
      refine ⟨_, _, w31 _ ?_, hrun, hended, _, _, rfl, ?_, ⟨_, rfl⟩, hW, hsame.mono (by decide) (by decide)⟩
      · exact retN X30 hx (t := .boolean) Bd.returns (by simp) (hb hby at_191) hr
      · show Q0 Z x1 q  h0 n0 _ T30.heap _
        rw [eh30]
        exact ⟨rfl, N30⟩
    · have wz := w26
      obtain ⟨cq32, kq32, q32a, q32b, q32c⟩ := isOf hZ rfl A5
      obtain ⟨_, _, ⟨T32, L32, k32, n32⟩, -, X32, ⟨Lc32, hQ32, l32, y32, z32⟩, st32⟩ := X25.virtualBack hx (y := (⟨"com/example/hashmesh/hashmesh/mesh/Congestion", "taken", "(J)V"⟩ : MethodName)) (z := (⟨"com/example/hashmesh/hashmesh/mesh/Congestion", "taken", "(J)V"⟩ : MethodName)) hown (mvT hZ (hw _ (List.mem_of_getElem? (i := 86) rfl))) (mvT hZ (hw _ (List.mem_of_getElem? (i := 87) rfl))) (notFace_of_selects (args := #[]) (mvT hZ (hw _ (List.mem_of_getElem? (i := 89) rfl)))) (mvT hZ (hw _ (List.mem_of_getElem? (i := 89) rfl))) (mvT hZ (hw _ (List.mem_of_getElem? (i := 88) rfl))) (by decide) (backOf (W := 0) (rm12_1 l Z a0 hw [] b5 t1_6 kt_6 d2_25 (2 : Int32) (2 : Int64) T25.heap n0 O A5 F_window_a_c25 F_threshold_a_c25 F_paceAt_a_c25 F_smoothedRtt_a_c25 F_leastRtt_a_c25 F_latestRtts_a_c25 F_nextLatest_a_c25 F_latestCount_a_c25 F_rttVariation_a_c25 F_onTheWay_a_c25 F_sent_a_c25 F_shrunkAfter_a_c25 V_t1_c11 g_b5) hZ (hw _ (List.mem_of_getElem? (i := 90) rfl)) (hw _ (List.mem_of_getElem? (i := 6) rfl)) (by decide) (by decide)) q32a q32c (g := (mkF m 131 (own_F3 x1 q (2 : Int32) (2 : Int32) b5) [(.long (1 : Int64)), (.ref b5)])) rfl (by rw [hml]; rfl) (Steps.refl _) (argsL := [(.long (1 : Int64))]) (rest := []) (lenOf pd__40J_41V rfl) rfl (by show 2 * 0 + _ ≤ _; exact Nat.le_of_eq rfl) (hb hby at_131) (fun _ _ => ⟨rfl, rfl, (by decide : 2 + 0 ≤ _), (by decide : 16 + 0 ≤ _)⟩)
      dsimp only [Pt.U, Pt.locs, Pt.cells, Pt.slots] at X32 l32 y32 z32 st32 hQ32
      subst l32 y32 z32
      obtain ⟨rfl, N32q, K32, F_window_a_c32, F_threshold_a_c32, F_paceAt_a_c32, F_smoothedRtt_a_c32, F_leastRtt_a_c32, F_latestRtts_a_c32, F_nextLatest_a_c32, F_latestCount_a_c32, F_rttVariation_a_c32, F_onTheWay_a_c32, F_sent_a_c32, F_shrunkAfter_a_c32⟩ := hQ32
      have N32 := Fr.app N25 N32q
      have A5 := A5.keep K32
      have V_t1_c11 := V_t1_c11.keep K32 (ninS (Ne.symm ne_b5_t1_6) nin0)
      have O := O.keep K32 (allS g_b5 all0)
      have F_onTheWay_a_c32 : Fld Z T32.heap b5 "com/example/hashmesh/hashmesh/mesh/Congestion" "onTheWay" "I" (.int (1 : Int32)) := F_onTheWay_a_c32
      obtain ⟨cq33, kq33, q33a, q33b, q33c⟩ := isOf hZ rfl A5
      obtain ⟨_, _, ⟨T33, L33, k33, n33⟩, -, X33, ⟨Lc33, hQ33, l33, y33, z33⟩, st33⟩ := X32.virtualBack hx (y := (⟨"com/example/hashmesh/hashmesh/mesh/Congestion", "taken", "(J)V"⟩ : MethodName)) (z := (⟨"com/example/hashmesh/hashmesh/mesh/Congestion", "taken", "(J)V"⟩ : MethodName)) hown (mvT hZ (hw _ (List.mem_of_getElem? (i := 86) rfl))) (mvT hZ (hw _ (List.mem_of_getElem? (i := 87) rfl))) (notFace_of_selects (args := #[]) (mvT hZ (hw _ (List.mem_of_getElem? (i := 89) rfl)))) (mvT hZ (hw _ (List.mem_of_getElem? (i := 89) rfl))) (mvT hZ (hw _ (List.mem_of_getElem? (i := 88) rfl))) (by decide) (backOf (W := 0) (rm12_2 l Z a0 hw [] b5 t1_6 kt_6 d2_25 (1 : Int32) (2 : Int64) T32.heap n0 O A5 F_window_a_c32 F_threshold_a_c32 F_paceAt_a_c32 F_smoothedRtt_a_c32 F_leastRtt_a_c32 F_latestRtts_a_c32 F_nextLatest_a_c32 F_latestCount_a_c32 F_rttVariation_a_c32 F_onTheWay_a_c32 F_sent_a_c32 F_shrunkAfter_a_c32 V_t1_c11 g_b5) hZ (hw _ (List.mem_of_getElem? (i := 90) rfl)) (hw _ (List.mem_of_getElem? (i := 6) rfl)) (by decide) (by decide)) q33a q33c (g := (mkF m 145 (own_F3 x1 q (2 : Int32) (2 : Int32) b5) [(.long (2 : Int64)), (.ref b5)])) rfl (by rw [hml]; rfl) (Steps.refl _) (argsL := [(.long (2 : Int64))]) (rest := []) (lenOf pd__40J_41V rfl) rfl (by show 2 * 0 + _ ≤ _; exact Nat.le_of_eq rfl) (hb hby at_145) (fun _ _ => ⟨rfl, rfl, (by decide : 2 + 0 ≤ _), (by decide : 16 + 0 ≤ _)⟩)
      dsimp only [Pt.U, Pt.locs, Pt.cells, Pt.slots] at X33 l33 y33 z33 st33 hQ33
      subst l33 y33 z33
      obtain ⟨rfl, N33q, K33, F_window_a_c33, F_threshold_a_c33, F_paceAt_a_c33, F_smoothedRtt_a_c33, F_leastRtt_a_c33, F_latestRtts_a_c33, F_nextLatest_a_c33, F_latestCount_a_c33, F_rttVariation_a_c33, F_onTheWay_a_c33, F_sent_a_c33, F_shrunkAfter_a_c33⟩ := hQ33
      have N33 := Fr.app N32 N33q
      have A5 := A5.keep K33
      have V_t1_c11 := V_t1_c11.keep K33 (ninS (Ne.symm ne_b5_t1_6) nin0)
      have O := O.keep K33 (allS g_b5 all0)
      have F_onTheWay_a_c33 : Fld Z T33.heap b5 "com/example/hashmesh/hashmesh/mesh/Congestion" "onTheWay" "I" (.int (0 : Int32)) := F_onTheWay_a_c33
      obtain ⟨cq34, kq34, q34a, q34b, q34c⟩ := isOf hZ rfl A5
      obtain ⟨_, _, ⟨T34, L34, k34, n34⟩, -, X34, ⟨Lc34, hQ34, l34, y34, z34⟩, st34⟩ := X33.virtualBack hx (y := (⟨"com/example/hashmesh/hashmesh/mesh/Congestion", "hasRoom", "()Z"⟩ : MethodName)) (z := (⟨"com/example/hashmesh/hashmesh/mesh/Congestion", "hasRoom", "()Z"⟩ : MethodName)) hown (mvT hZ (hw _ (List.mem_of_getElem? (i := 73) rfl))) (mvT hZ (hw _ (List.mem_of_getElem? (i := 74) rfl))) (notFace_of_selects (args := #[]) (mvT hZ (hw _ (List.mem_of_getElem? (i := 76) rfl)))) (mvT hZ (hw _ (List.mem_of_getElem? (i := 76) rfl))) (mvT hZ (hw _ (List.mem_of_getElem? (i := 75) rfl))) (by decide) (backOf (W := 0) (rm10_3 l Z a0 hw [] b5 (0 : Int32) T33.heap n0 O F_onTheWay_a_c33 F_window_a_c33) hZ (hw _ (List.mem_of_getElem? (i := 77) rfl)) (hw _ (List.mem_of_getElem? (i := 6) rfl)) (by decide) (by decide)) q34a q34c (g := (mkF m 168 (own_F5 x1 q (2 : Int32) (2 : Int32) b5 (0 : Int32) (2 : Int32)) [(.ref b5)])) rfl (by rw [hml]; rfl) (Steps.refl _) (argsL := []) (rest := []) (lenOf pd__40_41Z rfl) rfl (by show 2 * 0 + _ ≤ _; exact Nat.le_of_eq rfl) (hb hby at_168) (fun _ _ => ⟨rfl, rfl, (by decide : 2 + 0 ≤ _), (by decide : 16 + 0 ≤ _)⟩)
      dsimp only [Pt.U, Pt.locs, Pt.cells, Pt.slots] at X34 l34 y34 z34 st34 hQ34
      subst l34 y34 z34
      obtain ⟨rfl, N34q, eh34⟩ := hQ34
      have N34 := Fr.app N33 N34q
      have w35 : ∀ t, Steps p.tables e below (T34.setTop (mkF m 191 (own_F5 x1 q (2 : Int32) (2 : Int32) b5 (0 : Int32) (2 : Int32)) [(.int (1 : Int32))])) t → Steps p.tables e below (s₁.setTop (entryFrame m #[(.int x1), (.long q)] maxLocals)) t := fun t k => by
        refine w26 t ?_
        refine XS.iload X25.here hx rfl (hb hby at_123) rfl ?_
        show Steps p.tables e below (T25.setTop (mkF m 125 (own_F3 x1 q (2 : Int32) (2 : Int32) b5) [(.int (2 : Int32))])) _
        refine XS.ifNo X25.here hx rfl (hb hby at_125) rfl ((if0 _ _).trans (tlt ((by decide) : (0 : Int32) < (2 : Int32))).2.2.2) ?_
        show Steps p.tables e below (T25.setTop (mkF m 128 (own_F3 x1 q (2 : Int32) (2 : Int32) b5) [])) _
        refine XS.aload X25.here hx rfl (hb hby at_128) rfl rfl ?_
        show Steps p.tables e below (T25.setTop (mkF m 130 (own_F3 x1 q (2 : Int32) (2 : Int32) b5) [(.ref b5)])) _
        refine XS.lconst X25.here hx rfl (hb hby at_130) ?_
        show Steps p.tables e below (T25.setTop (mkF m 131 (own_F3 x1 q (2 : Int32) (2 : Int32) b5) [(.long (1 : Int64)), (.ref b5)])) _
        refine st32.trans ?_
        show Steps p.tables e below (T32.setTop (mkF m 134 (own_F3 x1 q (2 : Int32) (2 : Int32) b5) [])) _
        refine XS.iload X32.here hx rfl (hb hby at_134) rfl ?_
        show Steps p.tables e below (T32.setTop (mkF m 136 (own_F3 x1 q (2 : Int32) (2 : Int32) b5) [(.int (2 : Int32))])) _
        refine XS.iconst X32.here hx rfl (hb hby at_136) ?_
        show Steps p.tables e below (T32.setTop (mkF m 137 (own_F3 x1 q (2 : Int32) (2 : Int32) b5) [(.int (1 : Int32)), (.int (2 : Int32))])) _
        refine XS.icmpNo X32.here hx rfl (hb hby at_137) rfl (tlt ((by decide) : (1 : Int32) < (2 : Int32))).2.2.2 ?_
        show Steps p.tables e below (T32.setTop (mkF m 140 (own_F3 x1 q (2 : Int32) (2 : Int32) b5) [])) _
        refine XS.aload X32.here hx rfl (hb hby at_140) rfl rfl ?_
        show Steps p.tables e below (T32.setTop (mkF m 142 (own_F3 x1 q (2 : Int32) (2 : Int32) b5) [(.ref b5)])) _
        refine X32.ldc2Long hx hown (mvT hZ (hw _ (List.mem_of_getElem? (i := 94) rfl))) (g := (mkF m 142 (own_F3 x1 q (2 : Int32) (2 : Int32) b5) [(.ref b5)])) rfl (hb hby at_142) _ ?_
        show Steps p.tables e below (T32.setTop (mkF m 145 (own_F3 x1 q (2 : Int32) (2 : Int32) b5) [(.long (2 : Int64)), (.ref b5)])) _
        refine st33.trans ?_
        show Steps p.tables e below (T33.setTop (mkF m 148 (own_F3 x1 q (2 : Int32) (2 : Int32) b5) [])) _
        refine XS.iloadN X33.here hx rfl (hb hby at_148) rfl ?_
        show Steps p.tables e below (T33.setTop (mkF m 149 (own_F3 x1 q (2 : Int32) (2 : Int32) b5) [(.int (2 : Int32))])) _
        refine XS.iload X33.here hx rfl (hb hby at_149) rfl ?_
        show Steps p.tables e below (T33.setTop (mkF m 151 (own_F3 x1 q (2 : Int32) (2 : Int32) b5) [(.int (2 : Int32)), (.int (2 : Int32))])) _
        refine XS.isub X33.here hx rfl (hb hby at_151) rfl ?_
        show Steps p.tables e below (T33.setTop (mkF m 152 (own_F3 x1 q (2 : Int32) (2 : Int32) b5) [(.int (0 : Int32))])) _
        refine XS.istore X33.here hx rfl (hb hby at_152) rfl (l' := (own_F4 x1 q (2 : Int32) (2 : Int32) b5 (0 : Int32))) rfl ?_
        show Steps p.tables e below (T33.setTop (mkF m 154 (own_F4 x1 q (2 : Int32) (2 : Int32) b5 (0 : Int32)) [])) _
        refine XS.iload X33.here hx rfl (hb hby at_154) rfl ?_
        show Steps p.tables e below (T33.setTop (mkF m 156 (own_F4 x1 q (2 : Int32) (2 : Int32) b5 (0 : Int32)) [(.int (2 : Int32))])) _
        refine XS.ifYes X33.here hx rfl (pc0 := 156) (pc' := 163) rfl (hb hby at_156) rfl ((if0 _ _).trans (feq ((by decide) : ¬ ((2 : Int32) = (0 : Int32)))).2) (by decide) (by decide) ?_
        show Steps p.tables e below (T33.setTop (mkF m 163 (own_F4 x1 q (2 : Int32) (2 : Int32) b5 (0 : Int32)) [])) _
        refine XS.iconst X33.here hx rfl (hb hby at_163) ?_
        show Steps p.tables e below (T33.setTop (mkF m 164 (own_F4 x1 q (2 : Int32) (2 : Int32) b5 (0 : Int32)) [(.int (2 : Int32))])) _
        refine XS.istore X33.here hx rfl (hb hby at_164) rfl (l' := (own_F5 x1 q (2 : Int32) (2 : Int32) b5 (0 : Int32) (2 : Int32))) rfl ?_
        show Steps p.tables e below (T33.setTop (mkF m 166 (own_F5 x1 q (2 : Int32) (2 : Int32) b5 (0 : Int32) (2 : Int32)) [])) _
        refine XS.aload X33.here hx rfl (hb hby at_166) rfl rfl ?_
        show Steps p.tables e below (T33.setTop (mkF m 168 (own_F5 x1 q (2 : Int32) (2 : Int32) b5 (0 : Int32) (2 : Int32)) [(.ref b5)])) _
        refine st34.trans ?_
        show Steps p.tables e below (T34.setTop (mkF m 171 (own_F5 x1 q (2 : Int32) (2 : Int32) b5 (0 : Int32) (2 : Int32)) [(.int (own_h (0 : Int32) (2 : Int32)))])) _
        refine XS.iload X34.here hx rfl (hb hby at_171) rfl ?_
        show Steps p.tables e below (T34.setTop (mkF m 173 (own_F5 x1 q (2 : Int32) (2 : Int32) b5 (0 : Int32) (2 : Int32)) [(.int (0 : Int32)), (.int (own_h (0 : Int32) (2 : Int32)))])) _
        refine XS.iload X34.here hx rfl (hb hby at_173) rfl ?_
        show Steps p.tables e below (T34.setTop (mkF m 175 (own_F5 x1 q (2 : Int32) (2 : Int32) b5 (0 : Int32) (2 : Int32)) [(.int (2 : Int32)), (.int (0 : Int32)), (.int (own_h (0 : Int32) (2 : Int32)))])) _
        refine XS.icmpNo X34.here hx rfl (hb hby at_175) rfl (tlt ((by decide) : (0 : Int32) < (2 : Int32))).2.1 ?_
        show Steps p.tables e below (T34.setTop (mkF m 178 (own_F5 x1 q (2 : Int32) (2 : Int32) b5 (0 : Int32) (2 : Int32)) [(.int (own_h (0 : Int32) (2 : Int32)))])) _
        refine XS.iconst X34.here hx rfl (hb hby at_178) ?_
        show Steps p.tables e below (T34.setTop (mkF m 179 (own_F5 x1 q (2 : Int32) (2 : Int32) b5 (0 : Int32) (2 : Int32)) [(.int (1 : Int32)), (.int (own_h (0 : Int32) (2 : Int32)))])) _
        refine XS.goto X34.here hx rfl (pc0 := 179) (pc' := 183) rfl (hb hby at_179) (by decide) (by decide) ?_
        show Steps p.tables e below (T34.setTop (mkF m 183 (own_F5 x1 q (2 : Int32) (2 : Int32) b5 (0 : Int32) (2 : Int32)) [(.int (1 : Int32)), (.int (own_h (0 : Int32) (2 : Int32)))])) _
        refine XS.icmpNo X34.here hx rfl (hb hby at_183) rfl (teq ((by decide) : (own_h (0 : Int32) (2 : Int32)) = (1 : Int32))).2 ?_
        show Steps p.tables e below (T34.setTop (mkF m 186 (own_F5 x1 q (2 : Int32) (2 : Int32) b5 (0 : Int32) (2 : Int32)) [])) _
        refine XS.iconst X34.here hx rfl (hb hby at_186) ?_
        show Steps p.tables e below (T34.setTop (mkF m 187 (own_F5 x1 q (2 : Int32) (2 : Int32) b5 (0 : Int32) (2 : Int32)) [(.int (1 : Int32))])) _
        refine XS.goto X34.here hx rfl (pc0 := 187) (pc' := 191) rfl (hb hby at_187) (by decide) (by decide) ?_
        show Steps p.tables e below (T34.setTop (mkF m 191 (own_F5 x1 q (2 : Int32) (2 : Int32) b5 (0 : Int32) (2 : Int32)) [(.int (1 : Int32))])) _
        exact k
      obtain ⟨fs, hr, hrun, hended, hW, hsame⟩ := X34.leave (v := some (.int (1 : Int32))) (fun h => by rw [Bd.returns] at h; cases h)
      refine ⟨_, _, w35 _ ?_, hrun, hended, _, _, rfl, ?_, ⟨_, rfl⟩, hW, hsame.mono (by decide) (by decide)⟩
      · exact retN X34 hx (t := .boolean) Bd.returns (by simp) (hb hby at_191) hr
      · show Q0 Z x1 q  h0 n0 _ T34.heap _
        rw [eh34]
        exact ⟨rfl, N34⟩
  · have mb : vb = (0 : Int32) ∨ vb = (1 : Int32) ∨ vb = (2 : Int32) := by rw [hvb]; exact own_b3 _
    obtain ⟨cq36, kq36, q36a, q36b, q36c⟩ := isOf hZ rfl A5
    obtain ⟨_, _, ⟨T36, L36, k36, n36⟩, -, X36, ⟨Lc36, hQ36, l36, y36, z36⟩, st36⟩ := X12.virtualBack hx (y := (⟨"com/example/hashmesh/hashmesh/mesh/Congestion", "sent", "(J)J"⟩ : MethodName)) (z := (⟨"com/example/hashmesh/hashmesh/mesh/Congestion", "sent", "(J)J"⟩ : MethodName)) hown (mvT hZ (hw _ (List.mem_of_getElem? (i := 80) rfl))) (mvT hZ (hw _ (List.mem_of_getElem? (i := 81) rfl))) (notFace_of_selects (args := #[]) (mvT hZ (hw _ (List.mem_of_getElem? (i := 83) rfl)))) (mvT hZ (hw _ (List.mem_of_getElem? (i := 83) rfl))) (mvT hZ (hw _ (List.mem_of_getElem? (i := 82) rfl))) (by decide) (backOf (W := 0) (rm11 l Z a0 hw [] b5 q t1_6 (18442240474082181120 : UInt64) (0 : Int32) (0 : Int64) T12.heap n0 O A5 F_window_a_c12 F_threshold_a_c12 F_paceAt_a_c12 F_smoothedRtt_a_c12 F_leastRtt_a_c12 F_latestRtts_a_c12 F_nextLatest_a_c12 F_latestCount_a_c12 F_rttVariation_a_c12 F_onTheWay_a_c12 F_sent_a_c12 F_shrunkAfter_a_c12 (show (18442240474082181120 : UInt64) &&& 0x7fffffffffffffff ≤ 0x7ff0000000000000 by decide +kernel) g_b5) hZ (hw _ (List.mem_of_getElem? (i := 84) rfl)) (hw _ (List.mem_of_getElem? (i := 6) rfl)) (by decide) (by decide)) q36a q36c (g := (mkF m 83 (own_F3 x1 q (3 : Int32) vb b5) [(.long q), (.ref b5)])) rfl (by rw [hml]; rfl) (Steps.refl _) (argsL := [(.long q)]) (rest := []) (lenOf pd__40J_41J rfl) rfl (by show 2 * 0 + _ ≤ _; exact Nat.le_of_eq rfl) (hb hby at_83) (fun _ _ => ⟨rfl, rfl, (by decide : 2 + 0 ≤ _), (by decide : 16 + 0 ≤ _)⟩)
    dsimp only [Pt.U, Pt.locs, Pt.cells, Pt.slots] at X36 l36 y36 z36 st36 hQ36
    subst l36 y36 z36
    obtain ⟨d2_36, rfl, N36q, K36, F_window_a_c36, F_threshold_a_c36, F_paceAt_a_c36, F_smoothedRtt_a_c36, F_leastRtt_a_c36, F_latestRtts_a_c36, F_nextLatest_a_c36, F_latestCount_a_c36, F_rttVariation_a_c36, F_onTheWay_a_c36, F_sent_a_c36, F_shrunkAfter_a_c36, hd2_36⟩ := hQ36
    have N36 := Fr.app N12 N36q
    have A5 := A5.keep K36
    have V_t1_c11 := V_t1_c11.keep K36 (ninS (Ne.symm ne_b5_t1_6) nin0)
    have O := O.keep K36 (allS g_b5 all0)
    have F_onTheWay_a_c36 : Fld Z T36.heap b5 "com/example/hashmesh/hashmesh/mesh/Congestion" "onTheWay" "I" (.int (1 : Int32)) := F_onTheWay_a_c36
    have F_sent_a_c36 : Fld Z T36.heap b5 "com/example/hashmesh/hashmesh/mesh/Congestion" "sent" "J" (.long (1 : Int64)) := F_sent_a_c36
    obtain ⟨cq37, kq37, q37a, q37b, q37c⟩ := isOf hZ rfl A5
    obtain ⟨_, _, ⟨T37, L37, k37, n37⟩, -, X37, ⟨Lc37, hQ37, l37, y37, z37⟩, st37⟩ := X36.virtualBack hx (y := (⟨"com/example/hashmesh/hashmesh/mesh/Congestion", "sent", "(J)J"⟩ : MethodName)) (z := (⟨"com/example/hashmesh/hashmesh/mesh/Congestion", "sent", "(J)J"⟩ : MethodName)) hown (mvT hZ (hw _ (List.mem_of_getElem? (i := 80) rfl))) (mvT hZ (hw _ (List.mem_of_getElem? (i := 81) rfl))) (notFace_of_selects (args := #[]) (mvT hZ (hw _ (List.mem_of_getElem? (i := 83) rfl)))) (mvT hZ (hw _ (List.mem_of_getElem? (i := 83) rfl))) (mvT hZ (hw _ (List.mem_of_getElem? (i := 82) rfl))) (by decide) (backOf (W := 0) (rm11 l Z a0 hw [] b5 q t1_6 d2_36 (1 : Int32) (1 : Int64) T36.heap n0 O A5 F_window_a_c36 F_threshold_a_c36 F_paceAt_a_c36 F_smoothedRtt_a_c36 F_leastRtt_a_c36 F_latestRtts_a_c36 F_nextLatest_a_c36 F_latestCount_a_c36 F_rttVariation_a_c36 F_onTheWay_a_c36 F_sent_a_c36 F_shrunkAfter_a_c36 hd2_36 g_b5) hZ (hw _ (List.mem_of_getElem? (i := 84) rfl)) (hw _ (List.mem_of_getElem? (i := 6) rfl)) (by decide) (by decide)) q37a q37c (g := (mkF m 95 (own_F3 x1 q (3 : Int32) vb b5) [(.long q), (.ref b5)])) rfl (by rw [hml]; rfl) (Steps.refl _) (argsL := [(.long q)]) (rest := []) (lenOf pd__40J_41J rfl) rfl (by show 2 * 0 + _ ≤ _; exact Nat.le_of_eq rfl) (hb hby at_95) (fun _ _ => ⟨rfl, rfl, (by decide : 2 + 0 ≤ _), (by decide : 16 + 0 ≤ _)⟩)
    dsimp only [Pt.U, Pt.locs, Pt.cells, Pt.slots] at X37 l37 y37 z37 st37 hQ37
    subst l37 y37 z37
    obtain ⟨d2_37, rfl, N37q, K37, F_window_a_c37, F_threshold_a_c37, F_paceAt_a_c37, F_smoothedRtt_a_c37, F_leastRtt_a_c37, F_latestRtts_a_c37, F_nextLatest_a_c37, F_latestCount_a_c37, F_rttVariation_a_c37, F_onTheWay_a_c37, F_sent_a_c37, F_shrunkAfter_a_c37, hd2_37⟩ := hQ37
    have N37 := Fr.app N36 N37q
    have A5 := A5.keep K37
    have V_t1_c11 := V_t1_c11.keep K37 (ninS (Ne.symm ne_b5_t1_6) nin0)
    have O := O.keep K37 (allS g_b5 all0)
    have F_onTheWay_a_c37 : Fld Z T37.heap b5 "com/example/hashmesh/hashmesh/mesh/Congestion" "onTheWay" "I" (.int (2 : Int32)) := F_onTheWay_a_c37
    have F_sent_a_c37 : Fld Z T37.heap b5 "com/example/hashmesh/hashmesh/mesh/Congestion" "sent" "J" (.long (2 : Int64)) := F_sent_a_c37
    obtain ⟨cq38, kq38, q38a, q38b, q38c⟩ := isOf hZ rfl A5
    obtain ⟨_, _, ⟨T38, L38, k38, n38⟩, -, X38, ⟨Lc38, hQ38, l38, y38, z38⟩, st38⟩ := X37.virtualBack hx (y := (⟨"com/example/hashmesh/hashmesh/mesh/Congestion", "sent", "(J)J"⟩ : MethodName)) (z := (⟨"com/example/hashmesh/hashmesh/mesh/Congestion", "sent", "(J)J"⟩ : MethodName)) hown (mvT hZ (hw _ (List.mem_of_getElem? (i := 80) rfl))) (mvT hZ (hw _ (List.mem_of_getElem? (i := 81) rfl))) (notFace_of_selects (args := #[]) (mvT hZ (hw _ (List.mem_of_getElem? (i := 83) rfl)))) (mvT hZ (hw _ (List.mem_of_getElem? (i := 83) rfl))) (mvT hZ (hw _ (List.mem_of_getElem? (i := 82) rfl))) (by decide) (backOf (W := 0) (rm11 l Z a0 hw [] b5 q t1_6 d2_37 (2 : Int32) (2 : Int64) T37.heap n0 O A5 F_window_a_c37 F_threshold_a_c37 F_paceAt_a_c37 F_smoothedRtt_a_c37 F_leastRtt_a_c37 F_latestRtts_a_c37 F_nextLatest_a_c37 F_latestCount_a_c37 F_rttVariation_a_c37 F_onTheWay_a_c37 F_sent_a_c37 F_shrunkAfter_a_c37 hd2_37 g_b5) hZ (hw _ (List.mem_of_getElem? (i := 84) rfl)) (hw _ (List.mem_of_getElem? (i := 6) rfl)) (by decide) (by decide)) q38a q38c (g := (mkF m 107 (own_F3 x1 q (3 : Int32) vb b5) [(.long q), (.ref b5)])) rfl (by rw [hml]; rfl) (Steps.refl _) (argsL := [(.long q)]) (rest := []) (lenOf pd__40J_41J rfl) rfl (by show 2 * 0 + _ ≤ _; exact Nat.le_of_eq rfl) (hb hby at_107) (fun _ _ => ⟨rfl, rfl, (by decide : 2 + 0 ≤ _), (by decide : 16 + 0 ≤ _)⟩)
    dsimp only [Pt.U, Pt.locs, Pt.cells, Pt.slots] at X38 l38 y38 z38 st38 hQ38
    subst l38 y38 z38
    obtain ⟨d2_38, rfl, N38q, K38, F_window_a_c38, F_threshold_a_c38, F_paceAt_a_c38, F_smoothedRtt_a_c38, F_leastRtt_a_c38, F_latestRtts_a_c38, F_nextLatest_a_c38, F_latestCount_a_c38, F_rttVariation_a_c38, F_onTheWay_a_c38, F_sent_a_c38, F_shrunkAfter_a_c38, hd2_38⟩ := hQ38
    have N38 := Fr.app N37 N38q
    have A5 := A5.keep K38
    have V_t1_c11 := V_t1_c11.keep K38 (ninS (Ne.symm ne_b5_t1_6) nin0)
    have O := O.keep K38 (allS g_b5 all0)
    have F_onTheWay_a_c38 : Fld Z T38.heap b5 "com/example/hashmesh/hashmesh/mesh/Congestion" "onTheWay" "I" (.int (3 : Int32)) := F_onTheWay_a_c38
    have F_sent_a_c38 : Fld Z T38.heap b5 "com/example/hashmesh/hashmesh/mesh/Congestion" "sent" "J" (.long (3 : Int64)) := F_sent_a_c38
    have w39 : ∀ t, Steps p.tables e below (T38.setTop (mkF m 123 (own_F3 x1 q (3 : Int32) vb b5) [])) t → Steps p.tables e below (s₁.setTop (entryFrame m #[(.int x1), (.long q)] maxLocals)) t := fun t k => by
      refine w13 t ?_
      refine XS.iloadN X12.here hx rfl (hb hby at_76) rfl ?_
      show Steps p.tables e below (T12.setTop (mkF m 77 (own_F3 x1 q (3 : Int32) vb b5) [(.int (3 : Int32))])) _
      refine XS.ifNo X12.here hx rfl (hb hby at_77) rfl ((if0 _ _).trans (tlt ((by decide) : (0 : Int32) < (3 : Int32))).2.2.2) ?_
      show Steps p.tables e below (T12.setTop (mkF m 80 (own_F3 x1 q (3 : Int32) vb b5) [])) _
      refine XS.aload X12.here hx rfl (hb hby at_80) rfl rfl ?_
      show Steps p.tables e below (T12.setTop (mkF m 82 (own_F3 x1 q (3 : Int32) vb b5) [(.ref b5)])) _
      refine XS.lloadN X12.here hx rfl (hb hby at_82) rfl ?_
      show Steps p.tables e below (T12.setTop (mkF m 83 (own_F3 x1 q (3 : Int32) vb b5) [(.long q), (.ref b5)])) _
      refine st36.trans ?_
      show Steps p.tables e below (T36.setTop (mkF m 86 (own_F3 x1 q (3 : Int32) vb b5) [(.long ((0 : Int64) + (1 : Int64)))])) _
      jvm_step X36.here [X36.here.top, hx, (hb hby at_86), Value.category]
      show Steps p.tables e below (T36.setTop (mkF m 87 (own_F3 x1 q (3 : Int32) vb b5) [])) _
      refine XS.iloadN X36.here hx rfl (hb hby at_87) rfl ?_
      show Steps p.tables e below (T36.setTop (mkF m 88 (own_F3 x1 q (3 : Int32) vb b5) [(.int (3 : Int32))])) _
      refine XS.iconst X36.here hx rfl (hb hby at_88) ?_
      show Steps p.tables e below (T36.setTop (mkF m 89 (own_F3 x1 q (3 : Int32) vb b5) [(.int (1 : Int32)), (.int (3 : Int32))])) _
      refine XS.icmpNo X36.here hx rfl (hb hby at_89) rfl (tlt ((by decide) : (1 : Int32) < (3 : Int32))).2.2.2 ?_
      show Steps p.tables e below (T36.setTop (mkF m 92 (own_F3 x1 q (3 : Int32) vb b5) [])) _
      refine XS.aload X36.here hx rfl (hb hby at_92) rfl rfl ?_
      show Steps p.tables e below (T36.setTop (mkF m 94 (own_F3 x1 q (3 : Int32) vb b5) [(.ref b5)])) _
      refine XS.lloadN X36.here hx rfl (hb hby at_94) rfl ?_
      show Steps p.tables e below (T36.setTop (mkF m 95 (own_F3 x1 q (3 : Int32) vb b5) [(.long q), (.ref b5)])) _
      refine st37.trans ?_
      show Steps p.tables e below (T37.setTop (mkF m 98 (own_F3 x1 q (3 : Int32) vb b5) [(.long ((1 : Int64) + (1 : Int64)))])) _
      jvm_step X37.here [X37.here.top, hx, (hb hby at_98), Value.category]
      show Steps p.tables e below (T37.setTop (mkF m 99 (own_F3 x1 q (3 : Int32) vb b5) [])) _
      refine XS.iloadN X37.here hx rfl (hb hby at_99) rfl ?_
      show Steps p.tables e below (T37.setTop (mkF m 100 (own_F3 x1 q (3 : Int32) vb b5) [(.int (3 : Int32))])) _
      refine XS.iconst X37.here hx rfl (hb hby at_100) ?_
      show Steps p.tables e below (T37.setTop (mkF m 101 (own_F3 x1 q (3 : Int32) vb b5) [(.int (2 : Int32)), (.int (3 : Int32))])) _
      refine XS.icmpNo X37.here hx rfl (hb hby at_101) rfl (tlt ((by decide) : (2 : Int32) < (3 : Int32))).2.2.2 ?_
      show Steps p.tables e below (T37.setTop (mkF m 104 (own_F3 x1 q (3 : Int32) vb b5) [])) _
      refine XS.aload X37.here hx rfl (hb hby at_104) rfl rfl ?_
      show Steps p.tables e below (T37.setTop (mkF m 106 (own_F3 x1 q (3 : Int32) vb b5) [(.ref b5)])) _
      refine XS.lloadN X37.here hx rfl (hb hby at_106) rfl ?_
      show Steps p.tables e below (T37.setTop (mkF m 107 (own_F3 x1 q (3 : Int32) vb b5) [(.long q), (.ref b5)])) _
      refine st38.trans ?_
      show Steps p.tables e below (T38.setTop (mkF m 110 (own_F3 x1 q (3 : Int32) vb b5) [(.long ((2 : Int64) + (1 : Int64)))])) _
      jvm_step X38.here [X38.here.top, hx, (hb hby at_110), Value.category]
      show Steps p.tables e below (T38.setTop (mkF m 111 (own_F3 x1 q (3 : Int32) vb b5) [])) _
      refine XS.iloadN X38.here hx rfl (hb hby at_111) rfl ?_
      show Steps p.tables e below (T38.setTop (mkF m 112 (own_F3 x1 q (3 : Int32) vb b5) [(.int (3 : Int32))])) _
      refine XS.iconst X38.here hx rfl (hb hby at_112) ?_
      show Steps p.tables e below (T38.setTop (mkF m 113 (own_F3 x1 q (3 : Int32) vb b5) [(.int (3 : Int32)), (.int (3 : Int32))])) _
      refine XS.icmpYes X38.here hx rfl (pc0 := 113) (pc' := 123) rfl (hb hby at_113) rfl (flt ((by decide) : ¬ ((3 : Int32) < (3 : Int32)))).2.2.2 (by decide) (by decide) ?_
      show Steps p.tables e below (T38.setTop (mkF m 123 (own_F3 x1 q (3 : Int32) vb b5) [])) _
      exact k
    rcases mb with rfl | rfl | rfl
    · have wz := w39
      obtain ⟨cq40, kq40, q40a, q40b, q40c⟩ := isOf hZ rfl A5
      obtain ⟨_, _, ⟨T40, L40, k40, n40⟩, -, X40, ⟨Lc40, hQ40, l40, y40, z40⟩, st40⟩ := X38.virtualBack hx (y := (⟨"com/example/hashmesh/hashmesh/mesh/Congestion", "hasRoom", "()Z"⟩ : MethodName)) (z := (⟨"com/example/hashmesh/hashmesh/mesh/Congestion", "hasRoom", "()Z"⟩ : MethodName)) hown (mvT hZ (hw _ (List.mem_of_getElem? (i := 73) rfl))) (mvT hZ (hw _ (List.mem_of_getElem? (i := 74) rfl))) (notFace_of_selects (args := #[]) (mvT hZ (hw _ (List.mem_of_getElem? (i := 76) rfl)))) (mvT hZ (hw _ (List.mem_of_getElem? (i := 76) rfl))) (mvT hZ (hw _ (List.mem_of_getElem? (i := 75) rfl))) (by decide) (backOf (W := 0) (rm10_1 l Z a0 hw [] b5 (3 : Int32) T38.heap n0 O F_onTheWay_a_c38 F_window_a_c38) hZ (hw _ (List.mem_of_getElem? (i := 77) rfl)) (hw _ (List.mem_of_getElem? (i := 6) rfl)) (by decide) (by decide)) q40a q40c (g := (mkF m 168 (own_F5 x1 q (3 : Int32) (0 : Int32) b5 (3 : Int32) (1 : Int32)) [(.ref b5)])) rfl (by rw [hml]; rfl) (Steps.refl _) (argsL := []) (rest := []) (lenOf pd__40_41Z rfl) rfl (by show 2 * 0 + _ ≤ _; exact Nat.le_of_eq rfl) (hb hby at_168) (fun _ _ => ⟨rfl, rfl, (by decide : 2 + 0 ≤ _), (by decide : 16 + 0 ≤ _)⟩)
      dsimp only [Pt.U, Pt.locs, Pt.cells, Pt.slots] at X40 l40 y40 z40 st40 hQ40
      subst l40 y40 z40
      obtain ⟨rfl, N40q, eh40⟩ := hQ40
      have N40 := Fr.app N38 N40q
      have w41 : ∀ t, Steps p.tables e below (T40.setTop (mkF m 191 (own_F5 x1 q (3 : Int32) (0 : Int32) b5 (3 : Int32) (1 : Int32)) [(.int (1 : Int32))])) t → Steps p.tables e below (s₁.setTop (entryFrame m #[(.int x1), (.long q)] maxLocals)) t := fun t k => by
        refine w39 t ?_
        refine XS.iload X38.here hx rfl (hb hby at_123) rfl ?_
        show Steps p.tables e below (T38.setTop (mkF m 125 (own_F3 x1 q (3 : Int32) (0 : Int32) b5) [(.int (0 : Int32))])) _
        refine XS.ifYes X38.here hx rfl (pc0 := 125) (pc' := 134) rfl (hb hby at_125) rfl ((if0 _ _).trans (flt ((by decide) : ¬ ((0 : Int32) < (0 : Int32)))).2.2.2) (by decide) (by decide) ?_
        show Steps p.tables e below (T38.setTop (mkF m 134 (own_F3 x1 q (3 : Int32) (0 : Int32) b5) [])) _
        refine XS.iload X38.here hx rfl (hb hby at_134) rfl ?_
        show Steps p.tables e below (T38.setTop (mkF m 136 (own_F3 x1 q (3 : Int32) (0 : Int32) b5) [(.int (0 : Int32))])) _
        refine XS.iconst X38.here hx rfl (hb hby at_136) ?_
        show Steps p.tables e below (T38.setTop (mkF m 137 (own_F3 x1 q (3 : Int32) (0 : Int32) b5) [(.int (1 : Int32)), (.int (0 : Int32))])) _
        refine XS.icmpYes X38.here hx rfl (pc0 := 137) (pc' := 148) rfl (hb hby at_137) rfl (flt ((by decide) : ¬ ((1 : Int32) < (0 : Int32)))).2.2.2 (by decide) (by decide) ?_
        show Steps p.tables e below (T38.setTop (mkF m 148 (own_F3 x1 q (3 : Int32) (0 : Int32) b5) [])) _
        refine XS.iloadN X38.here hx rfl (hb hby at_148) rfl ?_
        show Steps p.tables e below (T38.setTop (mkF m 149 (own_F3 x1 q (3 : Int32) (0 : Int32) b5) [(.int (3 : Int32))])) _
        refine XS.iload X38.here hx rfl (hb hby at_149) rfl ?_
        show Steps p.tables e below (T38.setTop (mkF m 151 (own_F3 x1 q (3 : Int32) (0 : Int32) b5) [(.int (0 : Int32)), (.int (3 : Int32))])) _
        refine XS.isub X38.here hx rfl (hb hby at_151) rfl ?_
        show Steps p.tables e below (T38.setTop (mkF m 152 (own_F3 x1 q (3 : Int32) (0 : Int32) b5) [(.int (3 : Int32))])) _
        refine XS.istore X38.here hx rfl (hb hby at_152) rfl (l' := (own_F4 x1 q (3 : Int32) (0 : Int32) b5 (3 : Int32))) rfl ?_
        show Steps p.tables e below (T38.setTop (mkF m 154 (own_F4 x1 q (3 : Int32) (0 : Int32) b5 (3 : Int32)) [])) _
        refine XS.iload X38.here hx rfl (hb hby at_154) rfl ?_
        show Steps p.tables e below (T38.setTop (mkF m 156 (own_F4 x1 q (3 : Int32) (0 : Int32) b5 (3 : Int32)) [(.int (0 : Int32))])) _
        refine XS.ifNo X38.here hx rfl (hb hby at_156) rfl ((if0 _ _).trans (teq (rfl : (0 : Int32) = (0 : Int32))).2) ?_
        show Steps p.tables e below (T38.setTop (mkF m 159 (own_F4 x1 q (3 : Int32) (0 : Int32) b5 (3 : Int32)) [])) _
        refine XS.iconst X38.here hx rfl (hb hby at_159) ?_
        show Steps p.tables e below (T38.setTop (mkF m 160 (own_F4 x1 q (3 : Int32) (0 : Int32) b5 (3 : Int32)) [(.int (1 : Int32))])) _
        refine XS.goto X38.here hx rfl (pc0 := 160) (pc' := 164) rfl (hb hby at_160) (by decide) (by decide) ?_
        show Steps p.tables e below (T38.setTop (mkF m 164 (own_F4 x1 q (3 : Int32) (0 : Int32) b5 (3 : Int32)) [(.int (1 : Int32))])) _
        refine XS.istore X38.here hx rfl (hb hby at_164) rfl (l' := (own_F5 x1 q (3 : Int32) (0 : Int32) b5 (3 : Int32) (1 : Int32))) rfl ?_
        show Steps p.tables e below (T38.setTop (mkF m 166 (own_F5 x1 q (3 : Int32) (0 : Int32) b5 (3 : Int32) (1 : Int32)) [])) _
        refine XS.aload X38.here hx rfl (hb hby at_166) rfl rfl ?_
        show Steps p.tables e below (T38.setTop (mkF m 168 (own_F5 x1 q (3 : Int32) (0 : Int32) b5 (3 : Int32) (1 : Int32)) [(.ref b5)])) _
        refine st40.trans ?_
        show Steps p.tables e below (T40.setTop (mkF m 171 (own_F5 x1 q (3 : Int32) (0 : Int32) b5 (3 : Int32) (1 : Int32)) [(.int (own_h (3 : Int32) (1 : Int32)))])) _
        refine XS.iload X40.here hx rfl (hb hby at_171) rfl ?_
        show Steps p.tables e below (T40.setTop (mkF m 173 (own_F5 x1 q (3 : Int32) (0 : Int32) b5 (3 : Int32) (1 : Int32)) [(.int (3 : Int32)), (.int (own_h (3 : Int32) (1 : Int32)))])) _
        refine XS.iload X40.here hx rfl (hb hby at_173) rfl ?_
        show Steps p.tables e below (T40.setTop (mkF m 175 (own_F5 x1 q (3 : Int32) (0 : Int32) b5 (3 : Int32) (1 : Int32)) [(.int (1 : Int32)), (.int (3 : Int32)), (.int (own_h (3 : Int32) (1 : Int32)))])) _
        refine XS.icmpYes X40.here hx rfl (pc0 := 175) (pc' := 182) rfl (hb hby at_175) rfl (flt ((by decide) : ¬ ((3 : Int32) < (1 : Int32)))).2.1 (by decide) (by decide) ?_
        show Steps p.tables e below (T40.setTop (mkF m 182 (own_F5 x1 q (3 : Int32) (0 : Int32) b5 (3 : Int32) (1 : Int32)) [(.int (own_h (3 : Int32) (1 : Int32)))])) _
        refine XS.iconst X40.here hx rfl (hb hby at_182) ?_
        show Steps p.tables e below (T40.setTop (mkF m 183 (own_F5 x1 q (3 : Int32) (0 : Int32) b5 (3 : Int32) (1 : Int32)) [(.int (0 : Int32)), (.int (own_h (3 : Int32) (1 : Int32)))])) _
        refine XS.icmpNo X40.here hx rfl (hb hby at_183) rfl (teq ((by decide) : (own_h (3 : Int32) (1 : Int32)) = (0 : Int32))).2 ?_
        show Steps p.tables e below (T40.setTop (mkF m 186 (own_F5 x1 q (3 : Int32) (0 : Int32) b5 (3 : Int32) (1 : Int32)) [])) _
        refine XS.iconst X40.here hx rfl (hb hby at_186) ?_
        show Steps p.tables e below (T40.setTop (mkF m 187 (own_F5 x1 q (3 : Int32) (0 : Int32) b5 (3 : Int32) (1 : Int32)) [(.int (1 : Int32))])) _
        refine XS.goto X40.here hx rfl (pc0 := 187) (pc' := 191) rfl (hb hby at_187) (by decide) (by decide) ?_
        show Steps p.tables e below (T40.setTop (mkF m 191 (own_F5 x1 q (3 : Int32) (0 : Int32) b5 (3 : Int32) (1 : Int32)) [(.int (1 : Int32))])) _
        exact k
      obtain ⟨fs, hr, hrun, hended, hW, hsame⟩ := X40.leave (v := some (.int (1 : Int32))) (fun h => by rw [Bd.returns] at h; cases h)
      refine ⟨_, _, w41 _ ?_, hrun, hended, _, _, rfl, ?_, ⟨_, rfl⟩, hW, hsame.mono (by decide) (by decide)⟩
      · exact retN X40 hx (t := .boolean) Bd.returns (by simp) (hb hby at_191) hr
      · show Q0 Z x1 q  h0 n0 _ T40.heap _
        rw [eh40]
        exact ⟨rfl, N40⟩
    · have wz := w39
      obtain ⟨cq42, kq42, q42a, q42b, q42c⟩ := isOf hZ rfl A5
      obtain ⟨_, _, ⟨T42, L42, k42, n42⟩, -, X42, ⟨Lc42, hQ42, l42, y42, z42⟩, st42⟩ := X38.virtualBack hx (y := (⟨"com/example/hashmesh/hashmesh/mesh/Congestion", "taken", "(J)V"⟩ : MethodName)) (z := (⟨"com/example/hashmesh/hashmesh/mesh/Congestion", "taken", "(J)V"⟩ : MethodName)) hown (mvT hZ (hw _ (List.mem_of_getElem? (i := 86) rfl))) (mvT hZ (hw _ (List.mem_of_getElem? (i := 87) rfl))) (notFace_of_selects (args := #[]) (mvT hZ (hw _ (List.mem_of_getElem? (i := 89) rfl)))) (mvT hZ (hw _ (List.mem_of_getElem? (i := 89) rfl))) (mvT hZ (hw _ (List.mem_of_getElem? (i := 88) rfl))) (by decide) (backOf (W := 0) (rm12_1 l Z a0 hw [] b5 t1_6 kt_6 d2_38 (3 : Int32) (3 : Int64) T38.heap n0 O A5 F_window_a_c38 F_threshold_a_c38 F_paceAt_a_c38 F_smoothedRtt_a_c38 F_leastRtt_a_c38 F_latestRtts_a_c38 F_nextLatest_a_c38 F_latestCount_a_c38 F_rttVariation_a_c38 F_onTheWay_a_c38 F_sent_a_c38 F_shrunkAfter_a_c38 V_t1_c11 g_b5) hZ (hw _ (List.mem_of_getElem? (i := 90) rfl)) (hw _ (List.mem_of_getElem? (i := 6) rfl)) (by decide) (by decide)) q42a q42c (g := (mkF m 131 (own_F3 x1 q (3 : Int32) (1 : Int32) b5) [(.long (1 : Int64)), (.ref b5)])) rfl (by rw [hml]; rfl) (Steps.refl _) (argsL := [(.long (1 : Int64))]) (rest := []) (lenOf pd__40J_41V rfl) rfl (by show 2 * 0 + _ ≤ _; exact Nat.le_of_eq rfl) (hb hby at_131) (fun _ _ => ⟨rfl, rfl, (by decide : 2 + 0 ≤ _), (by decide : 16 + 0 ≤ _)⟩)
      dsimp only [Pt.U, Pt.locs, Pt.cells, Pt.slots] at X42 l42 y42 z42 st42 hQ42
      subst l42 y42 z42
      obtain ⟨rfl, N42q, K42, F_window_a_c42, F_threshold_a_c42, F_paceAt_a_c42, F_smoothedRtt_a_c42, F_leastRtt_a_c42, F_latestRtts_a_c42, F_nextLatest_a_c42, F_latestCount_a_c42, F_rttVariation_a_c42, F_onTheWay_a_c42, F_sent_a_c42, F_shrunkAfter_a_c42⟩ := hQ42
      have N42 := Fr.app N38 N42q
      have A5 := A5.keep K42
      have V_t1_c11 := V_t1_c11.keep K42 (ninS (Ne.symm ne_b5_t1_6) nin0)
      have O := O.keep K42 (allS g_b5 all0)
      have F_onTheWay_a_c42 : Fld Z T42.heap b5 "com/example/hashmesh/hashmesh/mesh/Congestion" "onTheWay" "I" (.int (2 : Int32)) := F_onTheWay_a_c42
      obtain ⟨cq43, kq43, q43a, q43b, q43c⟩ := isOf hZ rfl A5
      obtain ⟨_, _, ⟨T43, L43, k43, n43⟩, -, X43, ⟨Lc43, hQ43, l43, y43, z43⟩, st43⟩ := X42.virtualBack hx (y := (⟨"com/example/hashmesh/hashmesh/mesh/Congestion", "hasRoom", "()Z"⟩ : MethodName)) (z := (⟨"com/example/hashmesh/hashmesh/mesh/Congestion", "hasRoom", "()Z"⟩ : MethodName)) hown (mvT hZ (hw _ (List.mem_of_getElem? (i := 73) rfl))) (mvT hZ (hw _ (List.mem_of_getElem? (i := 74) rfl))) (notFace_of_selects (args := #[]) (mvT hZ (hw _ (List.mem_of_getElem? (i := 76) rfl)))) (mvT hZ (hw _ (List.mem_of_getElem? (i := 76) rfl))) (mvT hZ (hw _ (List.mem_of_getElem? (i := 75) rfl))) (by decide) (backOf (W := 0) (rm10_2 l Z a0 hw [] b5 (2 : Int32) T42.heap n0 O F_onTheWay_a_c42 F_window_a_c42) hZ (hw _ (List.mem_of_getElem? (i := 77) rfl)) (hw _ (List.mem_of_getElem? (i := 6) rfl)) (by decide) (by decide)) q43a q43c (g := (mkF m 168 (own_F5 x1 q (3 : Int32) (1 : Int32) b5 (2 : Int32) (2 : Int32)) [(.ref b5)])) rfl (by rw [hml]; rfl) (Steps.refl _) (argsL := []) (rest := []) (lenOf pd__40_41Z rfl) rfl (by show 2 * 0 + _ ≤ _; exact Nat.le_of_eq rfl) (hb hby at_168) (fun _ _ => ⟨rfl, rfl, (by decide : 2 + 0 ≤ _), (by decide : 16 + 0 ≤ _)⟩)
      dsimp only [Pt.U, Pt.locs, Pt.cells, Pt.slots] at X43 l43 y43 z43 st43 hQ43
      subst l43 y43 z43
      obtain ⟨rfl, N43q, eh43⟩ := hQ43
      have N43 := Fr.app N42 N43q
      have w44 : ∀ t, Steps p.tables e below (T43.setTop (mkF m 191 (own_F5 x1 q (3 : Int32) (1 : Int32) b5 (2 : Int32) (2 : Int32)) [(.int (1 : Int32))])) t → Steps p.tables e below (s₁.setTop (entryFrame m #[(.int x1), (.long q)] maxLocals)) t := fun t k => by
        refine w39 t ?_
        refine XS.iload X38.here hx rfl (hb hby at_123) rfl ?_
        show Steps p.tables e below (T38.setTop (mkF m 125 (own_F3 x1 q (3 : Int32) (1 : Int32) b5) [(.int (1 : Int32))])) _
        refine XS.ifNo X38.here hx rfl (hb hby at_125) rfl ((if0 _ _).trans (tlt ((by decide) : (0 : Int32) < (1 : Int32))).2.2.2) ?_
        show Steps p.tables e below (T38.setTop (mkF m 128 (own_F3 x1 q (3 : Int32) (1 : Int32) b5) [])) _
        refine XS.aload X38.here hx rfl (hb hby at_128) rfl rfl ?_
        show Steps p.tables e below (T38.setTop (mkF m 130 (own_F3 x1 q (3 : Int32) (1 : Int32) b5) [(.ref b5)])) _
        refine XS.lconst X38.here hx rfl (hb hby at_130) ?_
        show Steps p.tables e below (T38.setTop (mkF m 131 (own_F3 x1 q (3 : Int32) (1 : Int32) b5) [(.long (1 : Int64)), (.ref b5)])) _
        refine st42.trans ?_
        show Steps p.tables e below (T42.setTop (mkF m 134 (own_F3 x1 q (3 : Int32) (1 : Int32) b5) [])) _
        refine XS.iload X42.here hx rfl (hb hby at_134) rfl ?_
        show Steps p.tables e below (T42.setTop (mkF m 136 (own_F3 x1 q (3 : Int32) (1 : Int32) b5) [(.int (1 : Int32))])) _
        refine XS.iconst X42.here hx rfl (hb hby at_136) ?_
        show Steps p.tables e below (T42.setTop (mkF m 137 (own_F3 x1 q (3 : Int32) (1 : Int32) b5) [(.int (1 : Int32)), (.int (1 : Int32))])) _
        refine XS.icmpYes X42.here hx rfl (pc0 := 137) (pc' := 148) rfl (hb hby at_137) rfl (flt ((by decide) : ¬ ((1 : Int32) < (1 : Int32)))).2.2.2 (by decide) (by decide) ?_
        show Steps p.tables e below (T42.setTop (mkF m 148 (own_F3 x1 q (3 : Int32) (1 : Int32) b5) [])) _
        refine XS.iloadN X42.here hx rfl (hb hby at_148) rfl ?_
        show Steps p.tables e below (T42.setTop (mkF m 149 (own_F3 x1 q (3 : Int32) (1 : Int32) b5) [(.int (3 : Int32))])) _
        refine XS.iload X42.here hx rfl (hb hby at_149) rfl ?_
        show Steps p.tables e below (T42.setTop (mkF m 151 (own_F3 x1 q (3 : Int32) (1 : Int32) b5) [(.int (1 : Int32)), (.int (3 : Int32))])) _
        refine XS.isub X42.here hx rfl (hb hby at_151) rfl ?_
        show Steps p.tables e below (T42.setTop (mkF m 152 (own_F3 x1 q (3 : Int32) (1 : Int32) b5) [(.int (2 : Int32))])) _
        refine XS.istore X42.here hx rfl (hb hby at_152) rfl (l' := (own_F4 x1 q (3 : Int32) (1 : Int32) b5 (2 : Int32))) rfl ?_
        show Steps p.tables e below (T42.setTop (mkF m 154 (own_F4 x1 q (3 : Int32) (1 : Int32) b5 (2 : Int32)) [])) _
        refine XS.iload X42.here hx rfl (hb hby at_154) rfl ?_
        show Steps p.tables e below (T42.setTop (mkF m 156 (own_F4 x1 q (3 : Int32) (1 : Int32) b5 (2 : Int32)) [(.int (1 : Int32))])) _
        refine XS.ifYes X42.here hx rfl (pc0 := 156) (pc' := 163) rfl (hb hby at_156) rfl ((if0 _ _).trans (feq ((by decide) : ¬ ((1 : Int32) = (0 : Int32)))).2) (by decide) (by decide) ?_
        show Steps p.tables e below (T42.setTop (mkF m 163 (own_F4 x1 q (3 : Int32) (1 : Int32) b5 (2 : Int32)) [])) _
        refine XS.iconst X42.here hx rfl (hb hby at_163) ?_
        show Steps p.tables e below (T42.setTop (mkF m 164 (own_F4 x1 q (3 : Int32) (1 : Int32) b5 (2 : Int32)) [(.int (2 : Int32))])) _
        refine XS.istore X42.here hx rfl (hb hby at_164) rfl (l' := (own_F5 x1 q (3 : Int32) (1 : Int32) b5 (2 : Int32) (2 : Int32))) rfl ?_
        show Steps p.tables e below (T42.setTop (mkF m 166 (own_F5 x1 q (3 : Int32) (1 : Int32) b5 (2 : Int32) (2 : Int32)) [])) _
        refine XS.aload X42.here hx rfl (hb hby at_166) rfl rfl ?_
        show Steps p.tables e below (T42.setTop (mkF m 168 (own_F5 x1 q (3 : Int32) (1 : Int32) b5 (2 : Int32) (2 : Int32)) [(.ref b5)])) _
        refine st43.trans ?_
        show Steps p.tables e below (T43.setTop (mkF m 171 (own_F5 x1 q (3 : Int32) (1 : Int32) b5 (2 : Int32) (2 : Int32)) [(.int (own_h (2 : Int32) (2 : Int32)))])) _
        refine XS.iload X43.here hx rfl (hb hby at_171) rfl ?_
        show Steps p.tables e below (T43.setTop (mkF m 173 (own_F5 x1 q (3 : Int32) (1 : Int32) b5 (2 : Int32) (2 : Int32)) [(.int (2 : Int32)), (.int (own_h (2 : Int32) (2 : Int32)))])) _
        refine XS.iload X43.here hx rfl (hb hby at_173) rfl ?_
        show Steps p.tables e below (T43.setTop (mkF m 175 (own_F5 x1 q (3 : Int32) (1 : Int32) b5 (2 : Int32) (2 : Int32)) [(.int (2 : Int32)), (.int (2 : Int32)), (.int (own_h (2 : Int32) (2 : Int32)))])) _
        refine XS.icmpYes X43.here hx rfl (pc0 := 175) (pc' := 182) rfl (hb hby at_175) rfl (flt ((by decide) : ¬ ((2 : Int32) < (2 : Int32)))).2.1 (by decide) (by decide) ?_
        show Steps p.tables e below (T43.setTop (mkF m 182 (own_F5 x1 q (3 : Int32) (1 : Int32) b5 (2 : Int32) (2 : Int32)) [(.int (own_h (2 : Int32) (2 : Int32)))])) _
        refine XS.iconst X43.here hx rfl (hb hby at_182) ?_
        show Steps p.tables e below (T43.setTop (mkF m 183 (own_F5 x1 q (3 : Int32) (1 : Int32) b5 (2 : Int32) (2 : Int32)) [(.int (0 : Int32)), (.int (own_h (2 : Int32) (2 : Int32)))])) _
        refine XS.icmpNo X43.here hx rfl (hb hby at_183) rfl (teq ((by decide) : (own_h (2 : Int32) (2 : Int32)) = (0 : Int32))).2 ?_
        show Steps p.tables e below (T43.setTop (mkF m 186 (own_F5 x1 q (3 : Int32) (1 : Int32) b5 (2 : Int32) (2 : Int32)) [])) _
        refine XS.iconst X43.here hx rfl (hb hby at_186) ?_
        show Steps p.tables e below (T43.setTop (mkF m 187 (own_F5 x1 q (3 : Int32) (1 : Int32) b5 (2 : Int32) (2 : Int32)) [(.int (1 : Int32))])) _
        refine XS.goto X43.here hx rfl (pc0 := 187) (pc' := 191) rfl (hb hby at_187) (by decide) (by decide) ?_
        show Steps p.tables e below (T43.setTop (mkF m 191 (own_F5 x1 q (3 : Int32) (1 : Int32) b5 (2 : Int32) (2 : Int32)) [(.int (1 : Int32))])) _
        exact k
      obtain ⟨fs, hr, hrun, hended, hW, hsame⟩ := X43.leave (v := some (.int (1 : Int32))) (fun h => by rw [Bd.returns] at h; cases h)
      refine ⟨_, _, w44 _ ?_, hrun, hended, _, _, rfl, ?_, ⟨_, rfl⟩, hW, hsame.mono (by decide) (by decide)⟩
      · exact retN X43 hx (t := .boolean) Bd.returns (by simp) (hb hby at_191) hr
      · show Q0 Z x1 q  h0 n0 _ T43.heap _
        rw [eh43]
        exact ⟨rfl, N43⟩
    · have wz := w39
      obtain ⟨cq45, kq45, q45a, q45b, q45c⟩ := isOf hZ rfl A5
      obtain ⟨_, _, ⟨T45, L45, k45, n45⟩, -, X45, ⟨Lc45, hQ45, l45, y45, z45⟩, st45⟩ := X38.virtualBack hx (y := (⟨"com/example/hashmesh/hashmesh/mesh/Congestion", "taken", "(J)V"⟩ : MethodName)) (z := (⟨"com/example/hashmesh/hashmesh/mesh/Congestion", "taken", "(J)V"⟩ : MethodName)) hown (mvT hZ (hw _ (List.mem_of_getElem? (i := 86) rfl))) (mvT hZ (hw _ (List.mem_of_getElem? (i := 87) rfl))) (notFace_of_selects (args := #[]) (mvT hZ (hw _ (List.mem_of_getElem? (i := 89) rfl)))) (mvT hZ (hw _ (List.mem_of_getElem? (i := 89) rfl))) (mvT hZ (hw _ (List.mem_of_getElem? (i := 88) rfl))) (by decide) (backOf (W := 0) (rm12_1 l Z a0 hw [] b5 t1_6 kt_6 d2_38 (3 : Int32) (3 : Int64) T38.heap n0 O A5 F_window_a_c38 F_threshold_a_c38 F_paceAt_a_c38 F_smoothedRtt_a_c38 F_leastRtt_a_c38 F_latestRtts_a_c38 F_nextLatest_a_c38 F_latestCount_a_c38 F_rttVariation_a_c38 F_onTheWay_a_c38 F_sent_a_c38 F_shrunkAfter_a_c38 V_t1_c11 g_b5) hZ (hw _ (List.mem_of_getElem? (i := 90) rfl)) (hw _ (List.mem_of_getElem? (i := 6) rfl)) (by decide) (by decide)) q45a q45c (g := (mkF m 131 (own_F3 x1 q (3 : Int32) (2 : Int32) b5) [(.long (1 : Int64)), (.ref b5)])) rfl (by rw [hml]; rfl) (Steps.refl _) (argsL := [(.long (1 : Int64))]) (rest := []) (lenOf pd__40J_41V rfl) rfl (by show 2 * 0 + _ ≤ _; exact Nat.le_of_eq rfl) (hb hby at_131) (fun _ _ => ⟨rfl, rfl, (by decide : 2 + 0 ≤ _), (by decide : 16 + 0 ≤ _)⟩)
      dsimp only [Pt.U, Pt.locs, Pt.cells, Pt.slots] at X45 l45 y45 z45 st45 hQ45
      subst l45 y45 z45
      obtain ⟨rfl, N45q, K45, F_window_a_c45, F_threshold_a_c45, F_paceAt_a_c45, F_smoothedRtt_a_c45, F_leastRtt_a_c45, F_latestRtts_a_c45, F_nextLatest_a_c45, F_latestCount_a_c45, F_rttVariation_a_c45, F_onTheWay_a_c45, F_sent_a_c45, F_shrunkAfter_a_c45⟩ := hQ45
      have N45 := Fr.app N38 N45q
      have A5 := A5.keep K45
      have V_t1_c11 := V_t1_c11.keep K45 (ninS (Ne.symm ne_b5_t1_6) nin0)
      have O := O.keep K45 (allS g_b5 all0)
      have F_onTheWay_a_c45 : Fld Z T45.heap b5 "com/example/hashmesh/hashmesh/mesh/Congestion" "onTheWay" "I" (.int (2 : Int32)) := F_onTheWay_a_c45
      obtain ⟨cq46, kq46, q46a, q46b, q46c⟩ := isOf hZ rfl A5
      obtain ⟨_, _, ⟨T46, L46, k46, n46⟩, -, X46, ⟨Lc46, hQ46, l46, y46, z46⟩, st46⟩ := X45.virtualBack hx (y := (⟨"com/example/hashmesh/hashmesh/mesh/Congestion", "taken", "(J)V"⟩ : MethodName)) (z := (⟨"com/example/hashmesh/hashmesh/mesh/Congestion", "taken", "(J)V"⟩ : MethodName)) hown (mvT hZ (hw _ (List.mem_of_getElem? (i := 86) rfl))) (mvT hZ (hw _ (List.mem_of_getElem? (i := 87) rfl))) (notFace_of_selects (args := #[]) (mvT hZ (hw _ (List.mem_of_getElem? (i := 89) rfl)))) (mvT hZ (hw _ (List.mem_of_getElem? (i := 89) rfl))) (mvT hZ (hw _ (List.mem_of_getElem? (i := 88) rfl))) (by decide) (backOf (W := 0) (rm12_2 l Z a0 hw [] b5 t1_6 kt_6 d2_38 (2 : Int32) (3 : Int64) T45.heap n0 O A5 F_window_a_c45 F_threshold_a_c45 F_paceAt_a_c45 F_smoothedRtt_a_c45 F_leastRtt_a_c45 F_latestRtts_a_c45 F_nextLatest_a_c45 F_latestCount_a_c45 F_rttVariation_a_c45 F_onTheWay_a_c45 F_sent_a_c45 F_shrunkAfter_a_c45 V_t1_c11 g_b5) hZ (hw _ (List.mem_of_getElem? (i := 90) rfl)) (hw _ (List.mem_of_getElem? (i := 6) rfl)) (by decide) (by decide)) q46a q46c (g := (mkF m 145 (own_F3 x1 q (3 : Int32) (2 : Int32) b5) [(.long (2 : Int64)), (.ref b5)])) rfl (by rw [hml]; rfl) (Steps.refl _) (argsL := [(.long (2 : Int64))]) (rest := []) (lenOf pd__40J_41V rfl) rfl (by show 2 * 0 + _ ≤ _; exact Nat.le_of_eq rfl) (hb hby at_145) (fun _ _ => ⟨rfl, rfl, (by decide : 2 + 0 ≤ _), (by decide : 16 + 0 ≤ _)⟩)
      dsimp only [Pt.U, Pt.locs, Pt.cells, Pt.slots] at X46 l46 y46 z46 st46 hQ46
      subst l46 y46 z46
      obtain ⟨rfl, N46q, K46, F_window_a_c46, F_threshold_a_c46, F_paceAt_a_c46, F_smoothedRtt_a_c46, F_leastRtt_a_c46, F_latestRtts_a_c46, F_nextLatest_a_c46, F_latestCount_a_c46, F_rttVariation_a_c46, F_onTheWay_a_c46, F_sent_a_c46, F_shrunkAfter_a_c46⟩ := hQ46
      have N46 := Fr.app N45 N46q
      have A5 := A5.keep K46
      have V_t1_c11 := V_t1_c11.keep K46 (ninS (Ne.symm ne_b5_t1_6) nin0)
      have O := O.keep K46 (allS g_b5 all0)
      have F_onTheWay_a_c46 : Fld Z T46.heap b5 "com/example/hashmesh/hashmesh/mesh/Congestion" "onTheWay" "I" (.int (1 : Int32)) := F_onTheWay_a_c46
      obtain ⟨cq47, kq47, q47a, q47b, q47c⟩ := isOf hZ rfl A5
      obtain ⟨_, _, ⟨T47, L47, k47, n47⟩, -, X47, ⟨Lc47, hQ47, l47, y47, z47⟩, st47⟩ := X46.virtualBack hx (y := (⟨"com/example/hashmesh/hashmesh/mesh/Congestion", "hasRoom", "()Z"⟩ : MethodName)) (z := (⟨"com/example/hashmesh/hashmesh/mesh/Congestion", "hasRoom", "()Z"⟩ : MethodName)) hown (mvT hZ (hw _ (List.mem_of_getElem? (i := 73) rfl))) (mvT hZ (hw _ (List.mem_of_getElem? (i := 74) rfl))) (notFace_of_selects (args := #[]) (mvT hZ (hw _ (List.mem_of_getElem? (i := 76) rfl)))) (mvT hZ (hw _ (List.mem_of_getElem? (i := 76) rfl))) (mvT hZ (hw _ (List.mem_of_getElem? (i := 75) rfl))) (by decide) (backOf (W := 0) (rm10_3 l Z a0 hw [] b5 (1 : Int32) T46.heap n0 O F_onTheWay_a_c46 F_window_a_c46) hZ (hw _ (List.mem_of_getElem? (i := 77) rfl)) (hw _ (List.mem_of_getElem? (i := 6) rfl)) (by decide) (by decide)) q47a q47c (g := (mkF m 168 (own_F5 x1 q (3 : Int32) (2 : Int32) b5 (1 : Int32) (2 : Int32)) [(.ref b5)])) rfl (by rw [hml]; rfl) (Steps.refl _) (argsL := []) (rest := []) (lenOf pd__40_41Z rfl) rfl (by show 2 * 0 + _ ≤ _; exact Nat.le_of_eq rfl) (hb hby at_168) (fun _ _ => ⟨rfl, rfl, (by decide : 2 + 0 ≤ _), (by decide : 16 + 0 ≤ _)⟩)
      dsimp only [Pt.U, Pt.locs, Pt.cells, Pt.slots] at X47 l47 y47 z47 st47 hQ47
      subst l47 y47 z47
      obtain ⟨rfl, N47q, eh47⟩ := hQ47
      have N47 := Fr.app N46 N47q
      have w48 : ∀ t, Steps p.tables e below (T47.setTop (mkF m 191 (own_F5 x1 q (3 : Int32) (2 : Int32) b5 (1 : Int32) (2 : Int32)) [(.int (1 : Int32))])) t → Steps p.tables e below (s₁.setTop (entryFrame m #[(.int x1), (.long q)] maxLocals)) t := fun t k => by
        refine w39 t ?_
        refine XS.iload X38.here hx rfl (hb hby at_123) rfl ?_
        show Steps p.tables e below (T38.setTop (mkF m 125 (own_F3 x1 q (3 : Int32) (2 : Int32) b5) [(.int (2 : Int32))])) _
        refine XS.ifNo X38.here hx rfl (hb hby at_125) rfl ((if0 _ _).trans (tlt ((by decide) : (0 : Int32) < (2 : Int32))).2.2.2) ?_
        show Steps p.tables e below (T38.setTop (mkF m 128 (own_F3 x1 q (3 : Int32) (2 : Int32) b5) [])) _
        refine XS.aload X38.here hx rfl (hb hby at_128) rfl rfl ?_
        show Steps p.tables e below (T38.setTop (mkF m 130 (own_F3 x1 q (3 : Int32) (2 : Int32) b5) [(.ref b5)])) _
        refine XS.lconst X38.here hx rfl (hb hby at_130) ?_
        show Steps p.tables e below (T38.setTop (mkF m 131 (own_F3 x1 q (3 : Int32) (2 : Int32) b5) [(.long (1 : Int64)), (.ref b5)])) _
        refine st45.trans ?_
        show Steps p.tables e below (T45.setTop (mkF m 134 (own_F3 x1 q (3 : Int32) (2 : Int32) b5) [])) _
        refine XS.iload X45.here hx rfl (hb hby at_134) rfl ?_
        show Steps p.tables e below (T45.setTop (mkF m 136 (own_F3 x1 q (3 : Int32) (2 : Int32) b5) [(.int (2 : Int32))])) _
        refine XS.iconst X45.here hx rfl (hb hby at_136) ?_
        show Steps p.tables e below (T45.setTop (mkF m 137 (own_F3 x1 q (3 : Int32) (2 : Int32) b5) [(.int (1 : Int32)), (.int (2 : Int32))])) _
        refine XS.icmpNo X45.here hx rfl (hb hby at_137) rfl (tlt ((by decide) : (1 : Int32) < (2 : Int32))).2.2.2 ?_
        show Steps p.tables e below (T45.setTop (mkF m 140 (own_F3 x1 q (3 : Int32) (2 : Int32) b5) [])) _
        refine XS.aload X45.here hx rfl (hb hby at_140) rfl rfl ?_
        show Steps p.tables e below (T45.setTop (mkF m 142 (own_F3 x1 q (3 : Int32) (2 : Int32) b5) [(.ref b5)])) _
        refine X45.ldc2Long hx hown (mvT hZ (hw _ (List.mem_of_getElem? (i := 94) rfl))) (g := (mkF m 142 (own_F3 x1 q (3 : Int32) (2 : Int32) b5) [(.ref b5)])) rfl (hb hby at_142) _ ?_
        show Steps p.tables e below (T45.setTop (mkF m 145 (own_F3 x1 q (3 : Int32) (2 : Int32) b5) [(.long (2 : Int64)), (.ref b5)])) _
        refine st46.trans ?_
        show Steps p.tables e below (T46.setTop (mkF m 148 (own_F3 x1 q (3 : Int32) (2 : Int32) b5) [])) _
        refine XS.iloadN X46.here hx rfl (hb hby at_148) rfl ?_
        show Steps p.tables e below (T46.setTop (mkF m 149 (own_F3 x1 q (3 : Int32) (2 : Int32) b5) [(.int (3 : Int32))])) _
        refine XS.iload X46.here hx rfl (hb hby at_149) rfl ?_
        show Steps p.tables e below (T46.setTop (mkF m 151 (own_F3 x1 q (3 : Int32) (2 : Int32) b5) [(.int (2 : Int32)), (.int (3 : Int32))])) _
        refine XS.isub X46.here hx rfl (hb hby at_151) rfl ?_
        show Steps p.tables e below (T46.setTop (mkF m 152 (own_F3 x1 q (3 : Int32) (2 : Int32) b5) [(.int (1 : Int32))])) _
        refine XS.istore X46.here hx rfl (hb hby at_152) rfl (l' := (own_F4 x1 q (3 : Int32) (2 : Int32) b5 (1 : Int32))) rfl ?_
        show Steps p.tables e below (T46.setTop (mkF m 154 (own_F4 x1 q (3 : Int32) (2 : Int32) b5 (1 : Int32)) [])) _
        refine XS.iload X46.here hx rfl (hb hby at_154) rfl ?_
        show Steps p.tables e below (T46.setTop (mkF m 156 (own_F4 x1 q (3 : Int32) (2 : Int32) b5 (1 : Int32)) [(.int (2 : Int32))])) _
        refine XS.ifYes X46.here hx rfl (pc0 := 156) (pc' := 163) rfl (hb hby at_156) rfl ((if0 _ _).trans (feq ((by decide) : ¬ ((2 : Int32) = (0 : Int32)))).2) (by decide) (by decide) ?_
        show Steps p.tables e below (T46.setTop (mkF m 163 (own_F4 x1 q (3 : Int32) (2 : Int32) b5 (1 : Int32)) [])) _
        refine XS.iconst X46.here hx rfl (hb hby at_163) ?_
        show Steps p.tables e below (T46.setTop (mkF m 164 (own_F4 x1 q (3 : Int32) (2 : Int32) b5 (1 : Int32)) [(.int (2 : Int32))])) _
        refine XS.istore X46.here hx rfl (hb hby at_164) rfl (l' := (own_F5 x1 q (3 : Int32) (2 : Int32) b5 (1 : Int32) (2 : Int32))) rfl ?_
        show Steps p.tables e below (T46.setTop (mkF m 166 (own_F5 x1 q (3 : Int32) (2 : Int32) b5 (1 : Int32) (2 : Int32)) [])) _
        refine XS.aload X46.here hx rfl (hb hby at_166) rfl rfl ?_
        show Steps p.tables e below (T46.setTop (mkF m 168 (own_F5 x1 q (3 : Int32) (2 : Int32) b5 (1 : Int32) (2 : Int32)) [(.ref b5)])) _
        refine st47.trans ?_
        show Steps p.tables e below (T47.setTop (mkF m 171 (own_F5 x1 q (3 : Int32) (2 : Int32) b5 (1 : Int32) (2 : Int32)) [(.int (own_h (1 : Int32) (2 : Int32)))])) _
        refine XS.iload X47.here hx rfl (hb hby at_171) rfl ?_
        show Steps p.tables e below (T47.setTop (mkF m 173 (own_F5 x1 q (3 : Int32) (2 : Int32) b5 (1 : Int32) (2 : Int32)) [(.int (1 : Int32)), (.int (own_h (1 : Int32) (2 : Int32)))])) _
        refine XS.iload X47.here hx rfl (hb hby at_173) rfl ?_
        show Steps p.tables e below (T47.setTop (mkF m 175 (own_F5 x1 q (3 : Int32) (2 : Int32) b5 (1 : Int32) (2 : Int32)) [(.int (2 : Int32)), (.int (1 : Int32)), (.int (own_h (1 : Int32) (2 : Int32)))])) _
        refine XS.icmpNo X47.here hx rfl (hb hby at_175) rfl (tlt ((by decide) : (1 : Int32) < (2 : Int32))).2.1 ?_
        show Steps p.tables e below (T47.setTop (mkF m 178 (own_F5 x1 q (3 : Int32) (2 : Int32) b5 (1 : Int32) (2 : Int32)) [(.int (own_h (1 : Int32) (2 : Int32)))])) _
        refine XS.iconst X47.here hx rfl (hb hby at_178) ?_
        show Steps p.tables e below (T47.setTop (mkF m 179 (own_F5 x1 q (3 : Int32) (2 : Int32) b5 (1 : Int32) (2 : Int32)) [(.int (1 : Int32)), (.int (own_h (1 : Int32) (2 : Int32)))])) _
        refine XS.goto X47.here hx rfl (pc0 := 179) (pc' := 183) rfl (hb hby at_179) (by decide) (by decide) ?_
        show Steps p.tables e below (T47.setTop (mkF m 183 (own_F5 x1 q (3 : Int32) (2 : Int32) b5 (1 : Int32) (2 : Int32)) [(.int (1 : Int32)), (.int (own_h (1 : Int32) (2 : Int32)))])) _
        refine XS.icmpNo X47.here hx rfl (hb hby at_183) rfl (teq ((by decide) : (own_h (1 : Int32) (2 : Int32)) = (1 : Int32))).2 ?_
        show Steps p.tables e below (T47.setTop (mkF m 186 (own_F5 x1 q (3 : Int32) (2 : Int32) b5 (1 : Int32) (2 : Int32)) [])) _
        refine XS.iconst X47.here hx rfl (hb hby at_186) ?_
        show Steps p.tables e below (T47.setTop (mkF m 187 (own_F5 x1 q (3 : Int32) (2 : Int32) b5 (1 : Int32) (2 : Int32)) [(.int (1 : Int32))])) _
        refine XS.goto X47.here hx rfl (pc0 := 187) (pc' := 191) rfl (hb hby at_187) (by decide) (by decide) ?_
        show Steps p.tables e below (T47.setTop (mkF m 191 (own_F5 x1 q (3 : Int32) (2 : Int32) b5 (1 : Int32) (2 : Int32)) [(.int (1 : Int32))])) _
        exact k
      obtain ⟨fs, hr, hrun, hended, hW, hsame⟩ := X47.leave (v := some (.int (1 : Int32))) (fun h => by rw [Bd.returns] at h; cases h)
      refine ⟨_, _, w48 _ ?_, hrun, hended, _, _, rfl, ?_, ⟨_, rfl⟩, hW, hsame.mono (by decide) (by decide)⟩
      · exact retN X47 hx (t := .boolean) Bd.returns (by simp) (hb hby at_191) hr
      · show Q0 Z x1 q  h0 n0 _ T47.heap _
        rw [eh47]
        exact ⟨rfl, N47⟩
  · have mb : vb = (0 : Int32) ∨ vb = (1 : Int32) ∨ vb = (2 : Int32) := by rw [hvb]; exact own_b4 _
    obtain ⟨cq49, kq49, q49a, q49b, q49c⟩ := isOf hZ rfl A5
    obtain ⟨_, _, ⟨T49, L49, k49, n49⟩, -, X49, ⟨Lc49, hQ49, l49, y49, z49⟩, st49⟩ := X12.virtualBack hx (y := (⟨"com/example/hashmesh/hashmesh/mesh/Congestion", "sent", "(J)J"⟩ : MethodName)) (z := (⟨"com/example/hashmesh/hashmesh/mesh/Congestion", "sent", "(J)J"⟩ : MethodName)) hown (mvT hZ (hw _ (List.mem_of_getElem? (i := 80) rfl))) (mvT hZ (hw _ (List.mem_of_getElem? (i := 81) rfl))) (notFace_of_selects (args := #[]) (mvT hZ (hw _ (List.mem_of_getElem? (i := 83) rfl)))) (mvT hZ (hw _ (List.mem_of_getElem? (i := 83) rfl))) (mvT hZ (hw _ (List.mem_of_getElem? (i := 82) rfl))) (by decide) (backOf (W := 0) (rm11 l Z a0 hw [] b5 q t1_6 (18442240474082181120 : UInt64) (0 : Int32) (0 : Int64) T12.heap n0 O A5 F_window_a_c12 F_threshold_a_c12 F_paceAt_a_c12 F_smoothedRtt_a_c12 F_leastRtt_a_c12 F_latestRtts_a_c12 F_nextLatest_a_c12 F_latestCount_a_c12 F_rttVariation_a_c12 F_onTheWay_a_c12 F_sent_a_c12 F_shrunkAfter_a_c12 (show (18442240474082181120 : UInt64) &&& 0x7fffffffffffffff ≤ 0x7ff0000000000000 by decide +kernel) g_b5) hZ (hw _ (List.mem_of_getElem? (i := 84) rfl)) (hw _ (List.mem_of_getElem? (i := 6) rfl)) (by decide) (by decide)) q49a q49c (g := (mkF m 83 (own_F3 x1 q (4 : Int32) vb b5) [(.long q), (.ref b5)])) rfl (by rw [hml]; rfl) (Steps.refl _) (argsL := [(.long q)]) (rest := []) (lenOf pd__40J_41J rfl) rfl (by show 2 * 0 + _ ≤ _; exact Nat.le_of_eq rfl) (hb hby at_83) (fun _ _ => ⟨rfl, rfl, (by decide : 2 + 0 ≤ _), (by decide : 16 + 0 ≤ _)⟩)
    dsimp only [Pt.U, Pt.locs, Pt.cells, Pt.slots] at X49 l49 y49 z49 st49 hQ49
    subst l49 y49 z49
    obtain ⟨d2_49, rfl, N49q, K49, F_window_a_c49, F_threshold_a_c49, F_paceAt_a_c49, F_smoothedRtt_a_c49, F_leastRtt_a_c49, F_latestRtts_a_c49, F_nextLatest_a_c49, F_latestCount_a_c49, F_rttVariation_a_c49, F_onTheWay_a_c49, F_sent_a_c49, F_shrunkAfter_a_c49, hd2_49⟩ := hQ49
    have N49 := Fr.app N12 N49q
    have A5 := A5.keep K49
    have V_t1_c11 := V_t1_c11.keep K49 (ninS (Ne.symm ne_b5_t1_6) nin0)
    have O := O.keep K49 (allS g_b5 all0)
    have F_onTheWay_a_c49 : Fld Z T49.heap b5 "com/example/hashmesh/hashmesh/mesh/Congestion" "onTheWay" "I" (.int (1 : Int32)) := F_onTheWay_a_c49
    have F_sent_a_c49 : Fld Z T49.heap b5 "com/example/hashmesh/hashmesh/mesh/Congestion" "sent" "J" (.long (1 : Int64)) := F_sent_a_c49
    obtain ⟨cq50, kq50, q50a, q50b, q50c⟩ := isOf hZ rfl A5
    obtain ⟨_, _, ⟨T50, L50, k50, n50⟩, -, X50, ⟨Lc50, hQ50, l50, y50, z50⟩, st50⟩ := X49.virtualBack hx (y := (⟨"com/example/hashmesh/hashmesh/mesh/Congestion", "sent", "(J)J"⟩ : MethodName)) (z := (⟨"com/example/hashmesh/hashmesh/mesh/Congestion", "sent", "(J)J"⟩ : MethodName)) hown (mvT hZ (hw _ (List.mem_of_getElem? (i := 80) rfl))) (mvT hZ (hw _ (List.mem_of_getElem? (i := 81) rfl))) (notFace_of_selects (args := #[]) (mvT hZ (hw _ (List.mem_of_getElem? (i := 83) rfl)))) (mvT hZ (hw _ (List.mem_of_getElem? (i := 83) rfl))) (mvT hZ (hw _ (List.mem_of_getElem? (i := 82) rfl))) (by decide) (backOf (W := 0) (rm11 l Z a0 hw [] b5 q t1_6 d2_49 (1 : Int32) (1 : Int64) T49.heap n0 O A5 F_window_a_c49 F_threshold_a_c49 F_paceAt_a_c49 F_smoothedRtt_a_c49 F_leastRtt_a_c49 F_latestRtts_a_c49 F_nextLatest_a_c49 F_latestCount_a_c49 F_rttVariation_a_c49 F_onTheWay_a_c49 F_sent_a_c49 F_shrunkAfter_a_c49 hd2_49 g_b5) hZ (hw _ (List.mem_of_getElem? (i := 84) rfl)) (hw _ (List.mem_of_getElem? (i := 6) rfl)) (by decide) (by decide)) q50a q50c (g := (mkF m 95 (own_F3 x1 q (4 : Int32) vb b5) [(.long q), (.ref b5)])) rfl (by rw [hml]; rfl) (Steps.refl _) (argsL := [(.long q)]) (rest := []) (lenOf pd__40J_41J rfl) rfl (by show 2 * 0 + _ ≤ _; exact Nat.le_of_eq rfl) (hb hby at_95) (fun _ _ => ⟨rfl, rfl, (by decide : 2 + 0 ≤ _), (by decide : 16 + 0 ≤ _)⟩)
    dsimp only [Pt.U, Pt.locs, Pt.cells, Pt.slots] at X50 l50 y50 z50 st50 hQ50
    subst l50 y50 z50
    obtain ⟨d2_50, rfl, N50q, K50, F_window_a_c50, F_threshold_a_c50, F_paceAt_a_c50, F_smoothedRtt_a_c50, F_leastRtt_a_c50, F_latestRtts_a_c50, F_nextLatest_a_c50, F_latestCount_a_c50, F_rttVariation_a_c50, F_onTheWay_a_c50, F_sent_a_c50, F_shrunkAfter_a_c50, hd2_50⟩ := hQ50
    have N50 := Fr.app N49 N50q
    have A5 := A5.keep K50
    have V_t1_c11 := V_t1_c11.keep K50 (ninS (Ne.symm ne_b5_t1_6) nin0)
    have O := O.keep K50 (allS g_b5 all0)
    have F_onTheWay_a_c50 : Fld Z T50.heap b5 "com/example/hashmesh/hashmesh/mesh/Congestion" "onTheWay" "I" (.int (2 : Int32)) := F_onTheWay_a_c50
    have F_sent_a_c50 : Fld Z T50.heap b5 "com/example/hashmesh/hashmesh/mesh/Congestion" "sent" "J" (.long (2 : Int64)) := F_sent_a_c50
    obtain ⟨cq51, kq51, q51a, q51b, q51c⟩ := isOf hZ rfl A5
    obtain ⟨_, _, ⟨T51, L51, k51, n51⟩, -, X51, ⟨Lc51, hQ51, l51, y51, z51⟩, st51⟩ := X50.virtualBack hx (y := (⟨"com/example/hashmesh/hashmesh/mesh/Congestion", "sent", "(J)J"⟩ : MethodName)) (z := (⟨"com/example/hashmesh/hashmesh/mesh/Congestion", "sent", "(J)J"⟩ : MethodName)) hown (mvT hZ (hw _ (List.mem_of_getElem? (i := 80) rfl))) (mvT hZ (hw _ (List.mem_of_getElem? (i := 81) rfl))) (notFace_of_selects (args := #[]) (mvT hZ (hw _ (List.mem_of_getElem? (i := 83) rfl)))) (mvT hZ (hw _ (List.mem_of_getElem? (i := 83) rfl))) (mvT hZ (hw _ (List.mem_of_getElem? (i := 82) rfl))) (by decide) (backOf (W := 0) (rm11 l Z a0 hw [] b5 q t1_6 d2_50 (2 : Int32) (2 : Int64) T50.heap n0 O A5 F_window_a_c50 F_threshold_a_c50 F_paceAt_a_c50 F_smoothedRtt_a_c50 F_leastRtt_a_c50 F_latestRtts_a_c50 F_nextLatest_a_c50 F_latestCount_a_c50 F_rttVariation_a_c50 F_onTheWay_a_c50 F_sent_a_c50 F_shrunkAfter_a_c50 hd2_50 g_b5) hZ (hw _ (List.mem_of_getElem? (i := 84) rfl)) (hw _ (List.mem_of_getElem? (i := 6) rfl)) (by decide) (by decide)) q51a q51c (g := (mkF m 107 (own_F3 x1 q (4 : Int32) vb b5) [(.long q), (.ref b5)])) rfl (by rw [hml]; rfl) (Steps.refl _) (argsL := [(.long q)]) (rest := []) (lenOf pd__40J_41J rfl) rfl (by show 2 * 0 + _ ≤ _; exact Nat.le_of_eq rfl) (hb hby at_107) (fun _ _ => ⟨rfl, rfl, (by decide : 2 + 0 ≤ _), (by decide : 16 + 0 ≤ _)⟩)
    dsimp only [Pt.U, Pt.locs, Pt.cells, Pt.slots] at X51 l51 y51 z51 st51 hQ51
    subst l51 y51 z51
    obtain ⟨d2_51, rfl, N51q, K51, F_window_a_c51, F_threshold_a_c51, F_paceAt_a_c51, F_smoothedRtt_a_c51, F_leastRtt_a_c51, F_latestRtts_a_c51, F_nextLatest_a_c51, F_latestCount_a_c51, F_rttVariation_a_c51, F_onTheWay_a_c51, F_sent_a_c51, F_shrunkAfter_a_c51, hd2_51⟩ := hQ51
    have N51 := Fr.app N50 N51q
    have A5 := A5.keep K51
    have V_t1_c11 := V_t1_c11.keep K51 (ninS (Ne.symm ne_b5_t1_6) nin0)
    have O := O.keep K51 (allS g_b5 all0)
    have F_onTheWay_a_c51 : Fld Z T51.heap b5 "com/example/hashmesh/hashmesh/mesh/Congestion" "onTheWay" "I" (.int (3 : Int32)) := F_onTheWay_a_c51
    have F_sent_a_c51 : Fld Z T51.heap b5 "com/example/hashmesh/hashmesh/mesh/Congestion" "sent" "J" (.long (3 : Int64)) := F_sent_a_c51
    obtain ⟨cq52, kq52, q52a, q52b, q52c⟩ := isOf hZ rfl A5
    obtain ⟨_, _, ⟨T52, L52, k52, n52⟩, -, X52, ⟨Lc52, hQ52, l52, y52, z52⟩, st52⟩ := X51.virtualBack hx (y := (⟨"com/example/hashmesh/hashmesh/mesh/Congestion", "sent", "(J)J"⟩ : MethodName)) (z := (⟨"com/example/hashmesh/hashmesh/mesh/Congestion", "sent", "(J)J"⟩ : MethodName)) hown (mvT hZ (hw _ (List.mem_of_getElem? (i := 80) rfl))) (mvT hZ (hw _ (List.mem_of_getElem? (i := 81) rfl))) (notFace_of_selects (args := #[]) (mvT hZ (hw _ (List.mem_of_getElem? (i := 83) rfl)))) (mvT hZ (hw _ (List.mem_of_getElem? (i := 83) rfl))) (mvT hZ (hw _ (List.mem_of_getElem? (i := 82) rfl))) (by decide) (backOf (W := 0) (rm11 l Z a0 hw [] b5 q t1_6 d2_51 (3 : Int32) (3 : Int64) T51.heap n0 O A5 F_window_a_c51 F_threshold_a_c51 F_paceAt_a_c51 F_smoothedRtt_a_c51 F_leastRtt_a_c51 F_latestRtts_a_c51 F_nextLatest_a_c51 F_latestCount_a_c51 F_rttVariation_a_c51 F_onTheWay_a_c51 F_sent_a_c51 F_shrunkAfter_a_c51 hd2_51 g_b5) hZ (hw _ (List.mem_of_getElem? (i := 84) rfl)) (hw _ (List.mem_of_getElem? (i := 6) rfl)) (by decide) (by decide)) q52a q52c (g := (mkF m 119 (own_F3 x1 q (4 : Int32) vb b5) [(.long q), (.ref b5)])) rfl (by rw [hml]; rfl) (Steps.refl _) (argsL := [(.long q)]) (rest := []) (lenOf pd__40J_41J rfl) rfl (by show 2 * 0 + _ ≤ _; exact Nat.le_of_eq rfl) (hb hby at_119) (fun _ _ => ⟨rfl, rfl, (by decide : 2 + 0 ≤ _), (by decide : 16 + 0 ≤ _)⟩)
    dsimp only [Pt.U, Pt.locs, Pt.cells, Pt.slots] at X52 l52 y52 z52 st52 hQ52
    subst l52 y52 z52
    obtain ⟨d2_52, rfl, N52q, K52, F_window_a_c52, F_threshold_a_c52, F_paceAt_a_c52, F_smoothedRtt_a_c52, F_leastRtt_a_c52, F_latestRtts_a_c52, F_nextLatest_a_c52, F_latestCount_a_c52, F_rttVariation_a_c52, F_onTheWay_a_c52, F_sent_a_c52, F_shrunkAfter_a_c52, hd2_52⟩ := hQ52
    have N52 := Fr.app N51 N52q
    have A5 := A5.keep K52
    have V_t1_c11 := V_t1_c11.keep K52 (ninS (Ne.symm ne_b5_t1_6) nin0)
    have O := O.keep K52 (allS g_b5 all0)
    have F_onTheWay_a_c52 : Fld Z T52.heap b5 "com/example/hashmesh/hashmesh/mesh/Congestion" "onTheWay" "I" (.int (4 : Int32)) := F_onTheWay_a_c52
    have F_sent_a_c52 : Fld Z T52.heap b5 "com/example/hashmesh/hashmesh/mesh/Congestion" "sent" "J" (.long (4 : Int64)) := F_sent_a_c52
    have w53 : ∀ t, Steps p.tables e below (T52.setTop (mkF m 123 (own_F3 x1 q (4 : Int32) vb b5) [])) t → Steps p.tables e below (s₁.setTop (entryFrame m #[(.int x1), (.long q)] maxLocals)) t := fun t k => by
      refine w13 t ?_
      refine XS.iloadN X12.here hx rfl (hb hby at_76) rfl ?_
      show Steps p.tables e below (T12.setTop (mkF m 77 (own_F3 x1 q (4 : Int32) vb b5) [(.int (4 : Int32))])) _
      refine XS.ifNo X12.here hx rfl (hb hby at_77) rfl ((if0 _ _).trans (tlt ((by decide) : (0 : Int32) < (4 : Int32))).2.2.2) ?_
      show Steps p.tables e below (T12.setTop (mkF m 80 (own_F3 x1 q (4 : Int32) vb b5) [])) _
      refine XS.aload X12.here hx rfl (hb hby at_80) rfl rfl ?_
      show Steps p.tables e below (T12.setTop (mkF m 82 (own_F3 x1 q (4 : Int32) vb b5) [(.ref b5)])) _
      refine XS.lloadN X12.here hx rfl (hb hby at_82) rfl ?_
      show Steps p.tables e below (T12.setTop (mkF m 83 (own_F3 x1 q (4 : Int32) vb b5) [(.long q), (.ref b5)])) _
      refine st49.trans ?_
      show Steps p.tables e below (T49.setTop (mkF m 86 (own_F3 x1 q (4 : Int32) vb b5) [(.long ((0 : Int64) + (1 : Int64)))])) _
      jvm_step X49.here [X49.here.top, hx, (hb hby at_86), Value.category]
      show Steps p.tables e below (T49.setTop (mkF m 87 (own_F3 x1 q (4 : Int32) vb b5) [])) _
      refine XS.iloadN X49.here hx rfl (hb hby at_87) rfl ?_
      show Steps p.tables e below (T49.setTop (mkF m 88 (own_F3 x1 q (4 : Int32) vb b5) [(.int (4 : Int32))])) _
      refine XS.iconst X49.here hx rfl (hb hby at_88) ?_
      show Steps p.tables e below (T49.setTop (mkF m 89 (own_F3 x1 q (4 : Int32) vb b5) [(.int (1 : Int32)), (.int (4 : Int32))])) _
      refine XS.icmpNo X49.here hx rfl (hb hby at_89) rfl (tlt ((by decide) : (1 : Int32) < (4 : Int32))).2.2.2 ?_
      show Steps p.tables e below (T49.setTop (mkF m 92 (own_F3 x1 q (4 : Int32) vb b5) [])) _
      refine XS.aload X49.here hx rfl (hb hby at_92) rfl rfl ?_
      show Steps p.tables e below (T49.setTop (mkF m 94 (own_F3 x1 q (4 : Int32) vb b5) [(.ref b5)])) _
      refine XS.lloadN X49.here hx rfl (hb hby at_94) rfl ?_
      show Steps p.tables e below (T49.setTop (mkF m 95 (own_F3 x1 q (4 : Int32) vb b5) [(.long q), (.ref b5)])) _
      refine st50.trans ?_
      show Steps p.tables e below (T50.setTop (mkF m 98 (own_F3 x1 q (4 : Int32) vb b5) [(.long ((1 : Int64) + (1 : Int64)))])) _
      jvm_step X50.here [X50.here.top, hx, (hb hby at_98), Value.category]
      show Steps p.tables e below (T50.setTop (mkF m 99 (own_F3 x1 q (4 : Int32) vb b5) [])) _
      refine XS.iloadN X50.here hx rfl (hb hby at_99) rfl ?_
      show Steps p.tables e below (T50.setTop (mkF m 100 (own_F3 x1 q (4 : Int32) vb b5) [(.int (4 : Int32))])) _
      refine XS.iconst X50.here hx rfl (hb hby at_100) ?_
      show Steps p.tables e below (T50.setTop (mkF m 101 (own_F3 x1 q (4 : Int32) vb b5) [(.int (2 : Int32)), (.int (4 : Int32))])) _
      refine XS.icmpNo X50.here hx rfl (hb hby at_101) rfl (tlt ((by decide) : (2 : Int32) < (4 : Int32))).2.2.2 ?_
      show Steps p.tables e below (T50.setTop (mkF m 104 (own_F3 x1 q (4 : Int32) vb b5) [])) _
      refine XS.aload X50.here hx rfl (hb hby at_104) rfl rfl ?_
      show Steps p.tables e below (T50.setTop (mkF m 106 (own_F3 x1 q (4 : Int32) vb b5) [(.ref b5)])) _
      refine XS.lloadN X50.here hx rfl (hb hby at_106) rfl ?_
      show Steps p.tables e below (T50.setTop (mkF m 107 (own_F3 x1 q (4 : Int32) vb b5) [(.long q), (.ref b5)])) _
      refine st51.trans ?_
      show Steps p.tables e below (T51.setTop (mkF m 110 (own_F3 x1 q (4 : Int32) vb b5) [(.long ((2 : Int64) + (1 : Int64)))])) _
      jvm_step X51.here [X51.here.top, hx, (hb hby at_110), Value.category]
      show Steps p.tables e below (T51.setTop (mkF m 111 (own_F3 x1 q (4 : Int32) vb b5) [])) _
      refine XS.iloadN X51.here hx rfl (hb hby at_111) rfl ?_
      show Steps p.tables e below (T51.setTop (mkF m 112 (own_F3 x1 q (4 : Int32) vb b5) [(.int (4 : Int32))])) _
      refine XS.iconst X51.here hx rfl (hb hby at_112) ?_
      show Steps p.tables e below (T51.setTop (mkF m 113 (own_F3 x1 q (4 : Int32) vb b5) [(.int (3 : Int32)), (.int (4 : Int32))])) _
      refine XS.icmpNo X51.here hx rfl (hb hby at_113) rfl (tlt ((by decide) : (3 : Int32) < (4 : Int32))).2.2.2 ?_
      show Steps p.tables e below (T51.setTop (mkF m 116 (own_F3 x1 q (4 : Int32) vb b5) [])) _
      refine XS.aload X51.here hx rfl (hb hby at_116) rfl rfl ?_
      show Steps p.tables e below (T51.setTop (mkF m 118 (own_F3 x1 q (4 : Int32) vb b5) [(.ref b5)])) _
      refine XS.lloadN X51.here hx rfl (hb hby at_118) rfl ?_
      show Steps p.tables e below (T51.setTop (mkF m 119 (own_F3 x1 q (4 : Int32) vb b5) [(.long q), (.ref b5)])) _
      refine st52.trans ?_
      show Steps p.tables e below (T52.setTop (mkF m 122 (own_F3 x1 q (4 : Int32) vb b5) [(.long ((3 : Int64) + (1 : Int64)))])) _
      jvm_step X52.here [X52.here.top, hx, (hb hby at_122), Value.category]
      show Steps p.tables e below (T52.setTop (mkF m 123 (own_F3 x1 q (4 : Int32) vb b5) [])) _
      exact k
    rcases mb with rfl | rfl | rfl
    · have wz := w53
      obtain ⟨cq54, kq54, q54a, q54b, q54c⟩ := isOf hZ rfl A5
      obtain ⟨_, _, ⟨T54, L54, k54, n54⟩, -, X54, ⟨Lc54, hQ54, l54, y54, z54⟩, st54⟩ := X52.virtualBack hx (y := (⟨"com/example/hashmesh/hashmesh/mesh/Congestion", "hasRoom", "()Z"⟩ : MethodName)) (z := (⟨"com/example/hashmesh/hashmesh/mesh/Congestion", "hasRoom", "()Z"⟩ : MethodName)) hown (mvT hZ (hw _ (List.mem_of_getElem? (i := 73) rfl))) (mvT hZ (hw _ (List.mem_of_getElem? (i := 74) rfl))) (notFace_of_selects (args := #[]) (mvT hZ (hw _ (List.mem_of_getElem? (i := 76) rfl)))) (mvT hZ (hw _ (List.mem_of_getElem? (i := 76) rfl))) (mvT hZ (hw _ (List.mem_of_getElem? (i := 75) rfl))) (by decide) (backOf (W := 0) (rm10_1 l Z a0 hw [] b5 (4 : Int32) T52.heap n0 O F_onTheWay_a_c52 F_window_a_c52) hZ (hw _ (List.mem_of_getElem? (i := 77) rfl)) (hw _ (List.mem_of_getElem? (i := 6) rfl)) (by decide) (by decide)) q54a q54c (g := (mkF m 168 (own_F5 x1 q (4 : Int32) (0 : Int32) b5 (4 : Int32) (1 : Int32)) [(.ref b5)])) rfl (by rw [hml]; rfl) (Steps.refl _) (argsL := []) (rest := []) (lenOf pd__40_41Z rfl) rfl (by show 2 * 0 + _ ≤ _; exact Nat.le_of_eq rfl) (hb hby at_168) (fun _ _ => ⟨rfl, rfl, (by decide : 2 + 0 ≤ _), (by decide : 16 + 0 ≤ _)⟩)
      dsimp only [Pt.U, Pt.locs, Pt.cells, Pt.slots] at X54 l54 y54 z54 st54 hQ54
      subst l54 y54 z54
      obtain ⟨rfl, N54q, eh54⟩ := hQ54
      have N54 := Fr.app N52 N54q
      have w55 : ∀ t, Steps p.tables e below (T54.setTop (mkF m 191 (own_F5 x1 q (4 : Int32) (0 : Int32) b5 (4 : Int32) (1 : Int32)) [(.int (1 : Int32))])) t → Steps p.tables e below (s₁.setTop (entryFrame m #[(.int x1), (.long q)] maxLocals)) t := fun t k => by
        refine w53 t ?_
        refine XS.iload X52.here hx rfl (hb hby at_123) rfl ?_
        show Steps p.tables e below (T52.setTop (mkF m 125 (own_F3 x1 q (4 : Int32) (0 : Int32) b5) [(.int (0 : Int32))])) _
        refine XS.ifYes X52.here hx rfl (pc0 := 125) (pc' := 134) rfl (hb hby at_125) rfl ((if0 _ _).trans (flt ((by decide) : ¬ ((0 : Int32) < (0 : Int32)))).2.2.2) (by decide) (by decide) ?_
        show Steps p.tables e below (T52.setTop (mkF m 134 (own_F3 x1 q (4 : Int32) (0 : Int32) b5) [])) _
        refine XS.iload X52.here hx rfl (hb hby at_134) rfl ?_
        show Steps p.tables e below (T52.setTop (mkF m 136 (own_F3 x1 q (4 : Int32) (0 : Int32) b5) [(.int (0 : Int32))])) _
        refine XS.iconst X52.here hx rfl (hb hby at_136) ?_
        show Steps p.tables e below (T52.setTop (mkF m 137 (own_F3 x1 q (4 : Int32) (0 : Int32) b5) [(.int (1 : Int32)), (.int (0 : Int32))])) _
        refine XS.icmpYes X52.here hx rfl (pc0 := 137) (pc' := 148) rfl (hb hby at_137) rfl (flt ((by decide) : ¬ ((1 : Int32) < (0 : Int32)))).2.2.2 (by decide) (by decide) ?_
        show Steps p.tables e below (T52.setTop (mkF m 148 (own_F3 x1 q (4 : Int32) (0 : Int32) b5) [])) _
        refine XS.iloadN X52.here hx rfl (hb hby at_148) rfl ?_
        show Steps p.tables e below (T52.setTop (mkF m 149 (own_F3 x1 q (4 : Int32) (0 : Int32) b5) [(.int (4 : Int32))])) _
        refine XS.iload X52.here hx rfl (hb hby at_149) rfl ?_
        show Steps p.tables e below (T52.setTop (mkF m 151 (own_F3 x1 q (4 : Int32) (0 : Int32) b5) [(.int (0 : Int32)), (.int (4 : Int32))])) _
        refine XS.isub X52.here hx rfl (hb hby at_151) rfl ?_
        show Steps p.tables e below (T52.setTop (mkF m 152 (own_F3 x1 q (4 : Int32) (0 : Int32) b5) [(.int (4 : Int32))])) _
        refine XS.istore X52.here hx rfl (hb hby at_152) rfl (l' := (own_F4 x1 q (4 : Int32) (0 : Int32) b5 (4 : Int32))) rfl ?_
        show Steps p.tables e below (T52.setTop (mkF m 154 (own_F4 x1 q (4 : Int32) (0 : Int32) b5 (4 : Int32)) [])) _
        refine XS.iload X52.here hx rfl (hb hby at_154) rfl ?_
        show Steps p.tables e below (T52.setTop (mkF m 156 (own_F4 x1 q (4 : Int32) (0 : Int32) b5 (4 : Int32)) [(.int (0 : Int32))])) _
        refine XS.ifNo X52.here hx rfl (hb hby at_156) rfl ((if0 _ _).trans (teq (rfl : (0 : Int32) = (0 : Int32))).2) ?_
        show Steps p.tables e below (T52.setTop (mkF m 159 (own_F4 x1 q (4 : Int32) (0 : Int32) b5 (4 : Int32)) [])) _
        refine XS.iconst X52.here hx rfl (hb hby at_159) ?_
        show Steps p.tables e below (T52.setTop (mkF m 160 (own_F4 x1 q (4 : Int32) (0 : Int32) b5 (4 : Int32)) [(.int (1 : Int32))])) _
        refine XS.goto X52.here hx rfl (pc0 := 160) (pc' := 164) rfl (hb hby at_160) (by decide) (by decide) ?_
        show Steps p.tables e below (T52.setTop (mkF m 164 (own_F4 x1 q (4 : Int32) (0 : Int32) b5 (4 : Int32)) [(.int (1 : Int32))])) _
        refine XS.istore X52.here hx rfl (hb hby at_164) rfl (l' := (own_F5 x1 q (4 : Int32) (0 : Int32) b5 (4 : Int32) (1 : Int32))) rfl ?_
        show Steps p.tables e below (T52.setTop (mkF m 166 (own_F5 x1 q (4 : Int32) (0 : Int32) b5 (4 : Int32) (1 : Int32)) [])) _
        refine XS.aload X52.here hx rfl (hb hby at_166) rfl rfl ?_
        show Steps p.tables e below (T52.setTop (mkF m 168 (own_F5 x1 q (4 : Int32) (0 : Int32) b5 (4 : Int32) (1 : Int32)) [(.ref b5)])) _
        refine st54.trans ?_
        show Steps p.tables e below (T54.setTop (mkF m 171 (own_F5 x1 q (4 : Int32) (0 : Int32) b5 (4 : Int32) (1 : Int32)) [(.int (own_h (4 : Int32) (1 : Int32)))])) _
        refine XS.iload X54.here hx rfl (hb hby at_171) rfl ?_
        show Steps p.tables e below (T54.setTop (mkF m 173 (own_F5 x1 q (4 : Int32) (0 : Int32) b5 (4 : Int32) (1 : Int32)) [(.int (4 : Int32)), (.int (own_h (4 : Int32) (1 : Int32)))])) _
        refine XS.iload X54.here hx rfl (hb hby at_173) rfl ?_
        show Steps p.tables e below (T54.setTop (mkF m 175 (own_F5 x1 q (4 : Int32) (0 : Int32) b5 (4 : Int32) (1 : Int32)) [(.int (1 : Int32)), (.int (4 : Int32)), (.int (own_h (4 : Int32) (1 : Int32)))])) _
        refine XS.icmpYes X54.here hx rfl (pc0 := 175) (pc' := 182) rfl (hb hby at_175) rfl (flt ((by decide) : ¬ ((4 : Int32) < (1 : Int32)))).2.1 (by decide) (by decide) ?_
        show Steps p.tables e below (T54.setTop (mkF m 182 (own_F5 x1 q (4 : Int32) (0 : Int32) b5 (4 : Int32) (1 : Int32)) [(.int (own_h (4 : Int32) (1 : Int32)))])) _
        refine XS.iconst X54.here hx rfl (hb hby at_182) ?_
        show Steps p.tables e below (T54.setTop (mkF m 183 (own_F5 x1 q (4 : Int32) (0 : Int32) b5 (4 : Int32) (1 : Int32)) [(.int (0 : Int32)), (.int (own_h (4 : Int32) (1 : Int32)))])) _
        refine XS.icmpNo X54.here hx rfl (hb hby at_183) rfl (teq ((by decide) : (own_h (4 : Int32) (1 : Int32)) = (0 : Int32))).2 ?_
        show Steps p.tables e below (T54.setTop (mkF m 186 (own_F5 x1 q (4 : Int32) (0 : Int32) b5 (4 : Int32) (1 : Int32)) [])) _
        refine XS.iconst X54.here hx rfl (hb hby at_186) ?_
        show Steps p.tables e below (T54.setTop (mkF m 187 (own_F5 x1 q (4 : Int32) (0 : Int32) b5 (4 : Int32) (1 : Int32)) [(.int (1 : Int32))])) _
        refine XS.goto X54.here hx rfl (pc0 := 187) (pc' := 191) rfl (hb hby at_187) (by decide) (by decide) ?_
        show Steps p.tables e below (T54.setTop (mkF m 191 (own_F5 x1 q (4 : Int32) (0 : Int32) b5 (4 : Int32) (1 : Int32)) [(.int (1 : Int32))])) _
        exact k
      obtain ⟨fs, hr, hrun, hended, hW, hsame⟩ := X54.leave (v := some (.int (1 : Int32))) (fun h => by rw [Bd.returns] at h; cases h)
      refine ⟨_, _, w55 _ ?_, hrun, hended, _, _, rfl, ?_, ⟨_, rfl⟩, hW, hsame.mono (by decide) (by decide)⟩
      · exact retN X54 hx (t := .boolean) Bd.returns (by simp) (hb hby at_191) hr
      · show Q0 Z x1 q  h0 n0 _ T54.heap _
        rw [eh54]
        exact ⟨rfl, N54⟩
    · have wz := w53
      obtain ⟨cq56, kq56, q56a, q56b, q56c⟩ := isOf hZ rfl A5
      obtain ⟨_, _, ⟨T56, L56, k56, n56⟩, -, X56, ⟨Lc56, hQ56, l56, y56, z56⟩, st56⟩ := X52.virtualBack hx (y := (⟨"com/example/hashmesh/hashmesh/mesh/Congestion", "taken", "(J)V"⟩ : MethodName)) (z := (⟨"com/example/hashmesh/hashmesh/mesh/Congestion", "taken", "(J)V"⟩ : MethodName)) hown (mvT hZ (hw _ (List.mem_of_getElem? (i := 86) rfl))) (mvT hZ (hw _ (List.mem_of_getElem? (i := 87) rfl))) (notFace_of_selects (args := #[]) (mvT hZ (hw _ (List.mem_of_getElem? (i := 89) rfl)))) (mvT hZ (hw _ (List.mem_of_getElem? (i := 89) rfl))) (mvT hZ (hw _ (List.mem_of_getElem? (i := 88) rfl))) (by decide) (backOf (W := 0) (rm12_1 l Z a0 hw [] b5 t1_6 kt_6 d2_52 (4 : Int32) (4 : Int64) T52.heap n0 O A5 F_window_a_c52 F_threshold_a_c52 F_paceAt_a_c52 F_smoothedRtt_a_c52 F_leastRtt_a_c52 F_latestRtts_a_c52 F_nextLatest_a_c52 F_latestCount_a_c52 F_rttVariation_a_c52 F_onTheWay_a_c52 F_sent_a_c52 F_shrunkAfter_a_c52 V_t1_c11 g_b5) hZ (hw _ (List.mem_of_getElem? (i := 90) rfl)) (hw _ (List.mem_of_getElem? (i := 6) rfl)) (by decide) (by decide)) q56a q56c (g := (mkF m 131 (own_F3 x1 q (4 : Int32) (1 : Int32) b5) [(.long (1 : Int64)), (.ref b5)])) rfl (by rw [hml]; rfl) (Steps.refl _) (argsL := [(.long (1 : Int64))]) (rest := []) (lenOf pd__40J_41V rfl) rfl (by show 2 * 0 + _ ≤ _; exact Nat.le_of_eq rfl) (hb hby at_131) (fun _ _ => ⟨rfl, rfl, (by decide : 2 + 0 ≤ _), (by decide : 16 + 0 ≤ _)⟩)
      dsimp only [Pt.U, Pt.locs, Pt.cells, Pt.slots] at X56 l56 y56 z56 st56 hQ56
      subst l56 y56 z56
      obtain ⟨rfl, N56q, K56, F_window_a_c56, F_threshold_a_c56, F_paceAt_a_c56, F_smoothedRtt_a_c56, F_leastRtt_a_c56, F_latestRtts_a_c56, F_nextLatest_a_c56, F_latestCount_a_c56, F_rttVariation_a_c56, F_onTheWay_a_c56, F_sent_a_c56, F_shrunkAfter_a_c56⟩ := hQ56
      have N56 := Fr.app N52 N56q
      have A5 := A5.keep K56
      have V_t1_c11 := V_t1_c11.keep K56 (ninS (Ne.symm ne_b5_t1_6) nin0)
      have O := O.keep K56 (allS g_b5 all0)
      have F_onTheWay_a_c56 : Fld Z T56.heap b5 "com/example/hashmesh/hashmesh/mesh/Congestion" "onTheWay" "I" (.int (3 : Int32)) := F_onTheWay_a_c56
      obtain ⟨cq57, kq57, q57a, q57b, q57c⟩ := isOf hZ rfl A5
      obtain ⟨_, _, ⟨T57, L57, k57, n57⟩, -, X57, ⟨Lc57, hQ57, l57, y57, z57⟩, st57⟩ := X56.virtualBack hx (y := (⟨"com/example/hashmesh/hashmesh/mesh/Congestion", "hasRoom", "()Z"⟩ : MethodName)) (z := (⟨"com/example/hashmesh/hashmesh/mesh/Congestion", "hasRoom", "()Z"⟩ : MethodName)) hown (mvT hZ (hw _ (List.mem_of_getElem? (i := 73) rfl))) (mvT hZ (hw _ (List.mem_of_getElem? (i := 74) rfl))) (notFace_of_selects (args := #[]) (mvT hZ (hw _ (List.mem_of_getElem? (i := 76) rfl)))) (mvT hZ (hw _ (List.mem_of_getElem? (i := 76) rfl))) (mvT hZ (hw _ (List.mem_of_getElem? (i := 75) rfl))) (by decide) (backOf (W := 0) (rm10_2 l Z a0 hw [] b5 (3 : Int32) T56.heap n0 O F_onTheWay_a_c56 F_window_a_c56) hZ (hw _ (List.mem_of_getElem? (i := 77) rfl)) (hw _ (List.mem_of_getElem? (i := 6) rfl)) (by decide) (by decide)) q57a q57c (g := (mkF m 168 (own_F5 x1 q (4 : Int32) (1 : Int32) b5 (3 : Int32) (2 : Int32)) [(.ref b5)])) rfl (by rw [hml]; rfl) (Steps.refl _) (argsL := []) (rest := []) (lenOf pd__40_41Z rfl) rfl (by show 2 * 0 + _ ≤ _; exact Nat.le_of_eq rfl) (hb hby at_168) (fun _ _ => ⟨rfl, rfl, (by decide : 2 + 0 ≤ _), (by decide : 16 + 0 ≤ _)⟩)
      dsimp only [Pt.U, Pt.locs, Pt.cells, Pt.slots] at X57 l57 y57 z57 st57 hQ57
      subst l57 y57 z57
      obtain ⟨rfl, N57q, eh57⟩ := hQ57
      have N57 := Fr.app N56 N57q
      have w58 : ∀ t, Steps p.tables e below (T57.setTop (mkF m 191 (own_F5 x1 q (4 : Int32) (1 : Int32) b5 (3 : Int32) (2 : Int32)) [(.int (1 : Int32))])) t → Steps p.tables e below (s₁.setTop (entryFrame m #[(.int x1), (.long q)] maxLocals)) t := fun t k => by
        refine w53 t ?_
        refine XS.iload X52.here hx rfl (hb hby at_123) rfl ?_
        show Steps p.tables e below (T52.setTop (mkF m 125 (own_F3 x1 q (4 : Int32) (1 : Int32) b5) [(.int (1 : Int32))])) _
        refine XS.ifNo X52.here hx rfl (hb hby at_125) rfl ((if0 _ _).trans (tlt ((by decide) : (0 : Int32) < (1 : Int32))).2.2.2) ?_
        show Steps p.tables e below (T52.setTop (mkF m 128 (own_F3 x1 q (4 : Int32) (1 : Int32) b5) [])) _
        refine XS.aload X52.here hx rfl (hb hby at_128) rfl rfl ?_
        show Steps p.tables e below (T52.setTop (mkF m 130 (own_F3 x1 q (4 : Int32) (1 : Int32) b5) [(.ref b5)])) _
        refine XS.lconst X52.here hx rfl (hb hby at_130) ?_
        show Steps p.tables e below (T52.setTop (mkF m 131 (own_F3 x1 q (4 : Int32) (1 : Int32) b5) [(.long (1 : Int64)), (.ref b5)])) _
        refine st56.trans ?_
        show Steps p.tables e below (T56.setTop (mkF m 134 (own_F3 x1 q (4 : Int32) (1 : Int32) b5) [])) _
        refine XS.iload X56.here hx rfl (hb hby at_134) rfl ?_
        show Steps p.tables e below (T56.setTop (mkF m 136 (own_F3 x1 q (4 : Int32) (1 : Int32) b5) [(.int (1 : Int32))])) _
        refine XS.iconst X56.here hx rfl (hb hby at_136) ?_
        show Steps p.tables e below (T56.setTop (mkF m 137 (own_F3 x1 q (4 : Int32) (1 : Int32) b5) [(.int (1 : Int32)), (.int (1 : Int32))])) _
        refine XS.icmpYes X56.here hx rfl (pc0 := 137) (pc' := 148) rfl (hb hby at_137) rfl (flt ((by decide) : ¬ ((1 : Int32) < (1 : Int32)))).2.2.2 (by decide) (by decide) ?_
        show Steps p.tables e below (T56.setTop (mkF m 148 (own_F3 x1 q (4 : Int32) (1 : Int32) b5) [])) _
        refine XS.iloadN X56.here hx rfl (hb hby at_148) rfl ?_
        show Steps p.tables e below (T56.setTop (mkF m 149 (own_F3 x1 q (4 : Int32) (1 : Int32) b5) [(.int (4 : Int32))])) _
        refine XS.iload X56.here hx rfl (hb hby at_149) rfl ?_
        show Steps p.tables e below (T56.setTop (mkF m 151 (own_F3 x1 q (4 : Int32) (1 : Int32) b5) [(.int (1 : Int32)), (.int (4 : Int32))])) _
        refine XS.isub X56.here hx rfl (hb hby at_151) rfl ?_
        show Steps p.tables e below (T56.setTop (mkF m 152 (own_F3 x1 q (4 : Int32) (1 : Int32) b5) [(.int (3 : Int32))])) _
        refine XS.istore X56.here hx rfl (hb hby at_152) rfl (l' := (own_F4 x1 q (4 : Int32) (1 : Int32) b5 (3 : Int32))) rfl ?_
        show Steps p.tables e below (T56.setTop (mkF m 154 (own_F4 x1 q (4 : Int32) (1 : Int32) b5 (3 : Int32)) [])) _
        refine XS.iload X56.here hx rfl (hb hby at_154) rfl ?_
        show Steps p.tables e below (T56.setTop (mkF m 156 (own_F4 x1 q (4 : Int32) (1 : Int32) b5 (3 : Int32)) [(.int (1 : Int32))])) _
        refine XS.ifYes X56.here hx rfl (pc0 := 156) (pc' := 163) rfl (hb hby at_156) rfl ((if0 _ _).trans (feq ((by decide) : ¬ ((1 : Int32) = (0 : Int32)))).2) (by decide) (by decide) ?_
        show Steps p.tables e below (T56.setTop (mkF m 163 (own_F4 x1 q (4 : Int32) (1 : Int32) b5 (3 : Int32)) [])) _
        refine XS.iconst X56.here hx rfl (hb hby at_163) ?_
        show Steps p.tables e below (T56.setTop (mkF m 164 (own_F4 x1 q (4 : Int32) (1 : Int32) b5 (3 : Int32)) [(.int (2 : Int32))])) _
        refine XS.istore X56.here hx rfl (hb hby at_164) rfl (l' := (own_F5 x1 q (4 : Int32) (1 : Int32) b5 (3 : Int32) (2 : Int32))) rfl ?_
        show Steps p.tables e below (T56.setTop (mkF m 166 (own_F5 x1 q (4 : Int32) (1 : Int32) b5 (3 : Int32) (2 : Int32)) [])) _
        refine XS.aload X56.here hx rfl (hb hby at_166) rfl rfl ?_
        show Steps p.tables e below (T56.setTop (mkF m 168 (own_F5 x1 q (4 : Int32) (1 : Int32) b5 (3 : Int32) (2 : Int32)) [(.ref b5)])) _
        refine st57.trans ?_
        show Steps p.tables e below (T57.setTop (mkF m 171 (own_F5 x1 q (4 : Int32) (1 : Int32) b5 (3 : Int32) (2 : Int32)) [(.int (own_h (3 : Int32) (2 : Int32)))])) _
        refine XS.iload X57.here hx rfl (hb hby at_171) rfl ?_
        show Steps p.tables e below (T57.setTop (mkF m 173 (own_F5 x1 q (4 : Int32) (1 : Int32) b5 (3 : Int32) (2 : Int32)) [(.int (3 : Int32)), (.int (own_h (3 : Int32) (2 : Int32)))])) _
        refine XS.iload X57.here hx rfl (hb hby at_173) rfl ?_
        show Steps p.tables e below (T57.setTop (mkF m 175 (own_F5 x1 q (4 : Int32) (1 : Int32) b5 (3 : Int32) (2 : Int32)) [(.int (2 : Int32)), (.int (3 : Int32)), (.int (own_h (3 : Int32) (2 : Int32)))])) _
        refine XS.icmpYes X57.here hx rfl (pc0 := 175) (pc' := 182) rfl (hb hby at_175) rfl (flt ((by decide) : ¬ ((3 : Int32) < (2 : Int32)))).2.1 (by decide) (by decide) ?_
        show Steps p.tables e below (T57.setTop (mkF m 182 (own_F5 x1 q (4 : Int32) (1 : Int32) b5 (3 : Int32) (2 : Int32)) [(.int (own_h (3 : Int32) (2 : Int32)))])) _
        refine XS.iconst X57.here hx rfl (hb hby at_182) ?_
        show Steps p.tables e below (T57.setTop (mkF m 183 (own_F5 x1 q (4 : Int32) (1 : Int32) b5 (3 : Int32) (2 : Int32)) [(.int (0 : Int32)), (.int (own_h (3 : Int32) (2 : Int32)))])) _
        refine XS.icmpNo X57.here hx rfl (hb hby at_183) rfl (teq ((by decide) : (own_h (3 : Int32) (2 : Int32)) = (0 : Int32))).2 ?_
        show Steps p.tables e below (T57.setTop (mkF m 186 (own_F5 x1 q (4 : Int32) (1 : Int32) b5 (3 : Int32) (2 : Int32)) [])) _
        refine XS.iconst X57.here hx rfl (hb hby at_186) ?_
        show Steps p.tables e below (T57.setTop (mkF m 187 (own_F5 x1 q (4 : Int32) (1 : Int32) b5 (3 : Int32) (2 : Int32)) [(.int (1 : Int32))])) _
        refine XS.goto X57.here hx rfl (pc0 := 187) (pc' := 191) rfl (hb hby at_187) (by decide) (by decide) ?_
        show Steps p.tables e below (T57.setTop (mkF m 191 (own_F5 x1 q (4 : Int32) (1 : Int32) b5 (3 : Int32) (2 : Int32)) [(.int (1 : Int32))])) _
        exact k
      obtain ⟨fs, hr, hrun, hended, hW, hsame⟩ := X57.leave (v := some (.int (1 : Int32))) (fun h => by rw [Bd.returns] at h; cases h)
      refine ⟨_, _, w58 _ ?_, hrun, hended, _, _, rfl, ?_, ⟨_, rfl⟩, hW, hsame.mono (by decide) (by decide)⟩
      · exact retN X57 hx (t := .boolean) Bd.returns (by simp) (hb hby at_191) hr
      · show Q0 Z x1 q  h0 n0 _ T57.heap _
        rw [eh57]
        exact ⟨rfl, N57⟩
    · have wz := w53
      obtain ⟨cq59, kq59, q59a, q59b, q59c⟩ := isOf hZ rfl A5
      obtain ⟨_, _, ⟨T59, L59, k59, n59⟩, -, X59, ⟨Lc59, hQ59, l59, y59, z59⟩, st59⟩ := X52.virtualBack hx (y := (⟨"com/example/hashmesh/hashmesh/mesh/Congestion", "taken", "(J)V"⟩ : MethodName)) (z := (⟨"com/example/hashmesh/hashmesh/mesh/Congestion", "taken", "(J)V"⟩ : MethodName)) hown (mvT hZ (hw _ (List.mem_of_getElem? (i := 86) rfl))) (mvT hZ (hw _ (List.mem_of_getElem? (i := 87) rfl))) (notFace_of_selects (args := #[]) (mvT hZ (hw _ (List.mem_of_getElem? (i := 89) rfl)))) (mvT hZ (hw _ (List.mem_of_getElem? (i := 89) rfl))) (mvT hZ (hw _ (List.mem_of_getElem? (i := 88) rfl))) (by decide) (backOf (W := 0) (rm12_1 l Z a0 hw [] b5 t1_6 kt_6 d2_52 (4 : Int32) (4 : Int64) T52.heap n0 O A5 F_window_a_c52 F_threshold_a_c52 F_paceAt_a_c52 F_smoothedRtt_a_c52 F_leastRtt_a_c52 F_latestRtts_a_c52 F_nextLatest_a_c52 F_latestCount_a_c52 F_rttVariation_a_c52 F_onTheWay_a_c52 F_sent_a_c52 F_shrunkAfter_a_c52 V_t1_c11 g_b5) hZ (hw _ (List.mem_of_getElem? (i := 90) rfl)) (hw _ (List.mem_of_getElem? (i := 6) rfl)) (by decide) (by decide)) q59a q59c (g := (mkF m 131 (own_F3 x1 q (4 : Int32) (2 : Int32) b5) [(.long (1 : Int64)), (.ref b5)])) rfl (by rw [hml]; rfl) (Steps.refl _) (argsL := [(.long (1 : Int64))]) (rest := []) (lenOf pd__40J_41V rfl) rfl (by show 2 * 0 + _ ≤ _; exact Nat.le_of_eq rfl) (hb hby at_131) (fun _ _ => ⟨rfl, rfl, (by decide : 2 + 0 ≤ _), (by decide : 16 + 0 ≤ _)⟩)
      dsimp only [Pt.U, Pt.locs, Pt.cells, Pt.slots] at X59 l59 y59 z59 st59 hQ59
      subst l59 y59 z59
      obtain ⟨rfl, N59q, K59, F_window_a_c59, F_threshold_a_c59, F_paceAt_a_c59, F_smoothedRtt_a_c59, F_leastRtt_a_c59, F_latestRtts_a_c59, F_nextLatest_a_c59, F_latestCount_a_c59, F_rttVariation_a_c59, F_onTheWay_a_c59, F_sent_a_c59, F_shrunkAfter_a_c59⟩ := hQ59
      have N59 := Fr.app N52 N59q
      have A5 := A5.keep K59
      have V_t1_c11 := V_t1_c11.keep K59 (ninS (Ne.symm ne_b5_t1_6) nin0)
      have O := O.keep K59 (allS g_b5 all0)
      have F_onTheWay_a_c59 : Fld Z T59.heap b5 "com/example/hashmesh/hashmesh/mesh/Congestion" "onTheWay" "I" (.int (3 : Int32)) := F_onTheWay_a_c59
      obtain ⟨cq60, kq60, q60a, q60b, q60c⟩ := isOf hZ rfl A5
      obtain ⟨_, _, ⟨T60, L60, k60, n60⟩, -, X60, ⟨Lc60, hQ60, l60, y60, z60⟩, st60⟩ := X59.virtualBack hx (y := (⟨"com/example/hashmesh/hashmesh/mesh/Congestion", "taken", "(J)V"⟩ : MethodName)) (z := (⟨"com/example/hashmesh/hashmesh/mesh/Congestion", "taken", "(J)V"⟩ : MethodName)) hown (mvT hZ (hw _ (List.mem_of_getElem? (i := 86) rfl))) (mvT hZ (hw _ (List.mem_of_getElem? (i := 87) rfl))) (notFace_of_selects (args := #[]) (mvT hZ (hw _ (List.mem_of_getElem? (i := 89) rfl)))) (mvT hZ (hw _ (List.mem_of_getElem? (i := 89) rfl))) (mvT hZ (hw _ (List.mem_of_getElem? (i := 88) rfl))) (by decide) (backOf (W := 0) (rm12_2 l Z a0 hw [] b5 t1_6 kt_6 d2_52 (3 : Int32) (4 : Int64) T59.heap n0 O A5 F_window_a_c59 F_threshold_a_c59 F_paceAt_a_c59 F_smoothedRtt_a_c59 F_leastRtt_a_c59 F_latestRtts_a_c59 F_nextLatest_a_c59 F_latestCount_a_c59 F_rttVariation_a_c59 F_onTheWay_a_c59 F_sent_a_c59 F_shrunkAfter_a_c59 V_t1_c11 g_b5) hZ (hw _ (List.mem_of_getElem? (i := 90) rfl)) (hw _ (List.mem_of_getElem? (i := 6) rfl)) (by decide) (by decide)) q60a q60c (g := (mkF m 145 (own_F3 x1 q (4 : Int32) (2 : Int32) b5) [(.long (2 : Int64)), (.ref b5)])) rfl (by rw [hml]; rfl) (Steps.refl _) (argsL := [(.long (2 : Int64))]) (rest := []) (lenOf pd__40J_41V rfl) rfl (by show 2 * 0 + _ ≤ _; exact Nat.le_of_eq rfl) (hb hby at_145) (fun _ _ => ⟨rfl, rfl, (by decide : 2 + 0 ≤ _), (by decide : 16 + 0 ≤ _)⟩)
      dsimp only [Pt.U, Pt.locs, Pt.cells, Pt.slots] at X60 l60 y60 z60 st60 hQ60
      subst l60 y60 z60
      obtain ⟨rfl, N60q, K60, F_window_a_c60, F_threshold_a_c60, F_paceAt_a_c60, F_smoothedRtt_a_c60, F_leastRtt_a_c60, F_latestRtts_a_c60, F_nextLatest_a_c60, F_latestCount_a_c60, F_rttVariation_a_c60, F_onTheWay_a_c60, F_sent_a_c60, F_shrunkAfter_a_c60⟩ := hQ60
      have N60 := Fr.app N59 N60q
      have A5 := A5.keep K60
      have V_t1_c11 := V_t1_c11.keep K60 (ninS (Ne.symm ne_b5_t1_6) nin0)
      have O := O.keep K60 (allS g_b5 all0)
      have F_onTheWay_a_c60 : Fld Z T60.heap b5 "com/example/hashmesh/hashmesh/mesh/Congestion" "onTheWay" "I" (.int (2 : Int32)) := F_onTheWay_a_c60
      obtain ⟨cq61, kq61, q61a, q61b, q61c⟩ := isOf hZ rfl A5
      obtain ⟨_, _, ⟨T61, L61, k61, n61⟩, -, X61, ⟨Lc61, hQ61, l61, y61, z61⟩, st61⟩ := X60.virtualBack hx (y := (⟨"com/example/hashmesh/hashmesh/mesh/Congestion", "hasRoom", "()Z"⟩ : MethodName)) (z := (⟨"com/example/hashmesh/hashmesh/mesh/Congestion", "hasRoom", "()Z"⟩ : MethodName)) hown (mvT hZ (hw _ (List.mem_of_getElem? (i := 73) rfl))) (mvT hZ (hw _ (List.mem_of_getElem? (i := 74) rfl))) (notFace_of_selects (args := #[]) (mvT hZ (hw _ (List.mem_of_getElem? (i := 76) rfl)))) (mvT hZ (hw _ (List.mem_of_getElem? (i := 76) rfl))) (mvT hZ (hw _ (List.mem_of_getElem? (i := 75) rfl))) (by decide) (backOf (W := 0) (rm10_3 l Z a0 hw [] b5 (2 : Int32) T60.heap n0 O F_onTheWay_a_c60 F_window_a_c60) hZ (hw _ (List.mem_of_getElem? (i := 77) rfl)) (hw _ (List.mem_of_getElem? (i := 6) rfl)) (by decide) (by decide)) q61a q61c (g := (mkF m 168 (own_F5 x1 q (4 : Int32) (2 : Int32) b5 (2 : Int32) (2 : Int32)) [(.ref b5)])) rfl (by rw [hml]; rfl) (Steps.refl _) (argsL := []) (rest := []) (lenOf pd__40_41Z rfl) rfl (by show 2 * 0 + _ ≤ _; exact Nat.le_of_eq rfl) (hb hby at_168) (fun _ _ => ⟨rfl, rfl, (by decide : 2 + 0 ≤ _), (by decide : 16 + 0 ≤ _)⟩)
      dsimp only [Pt.U, Pt.locs, Pt.cells, Pt.slots] at X61 l61 y61 z61 st61 hQ61
      subst l61 y61 z61
      obtain ⟨rfl, N61q, eh61⟩ := hQ61
      have N61 := Fr.app N60 N61q
      have w62 : ∀ t, Steps p.tables e below (T61.setTop (mkF m 191 (own_F5 x1 q (4 : Int32) (2 : Int32) b5 (2 : Int32) (2 : Int32)) [(.int (1 : Int32))])) t → Steps p.tables e below (s₁.setTop (entryFrame m #[(.int x1), (.long q)] maxLocals)) t := fun t k => by
        refine w53 t ?_
        refine XS.iload X52.here hx rfl (hb hby at_123) rfl ?_
        show Steps p.tables e below (T52.setTop (mkF m 125 (own_F3 x1 q (4 : Int32) (2 : Int32) b5) [(.int (2 : Int32))])) _
        refine XS.ifNo X52.here hx rfl (hb hby at_125) rfl ((if0 _ _).trans (tlt ((by decide) : (0 : Int32) < (2 : Int32))).2.2.2) ?_
        show Steps p.tables e below (T52.setTop (mkF m 128 (own_F3 x1 q (4 : Int32) (2 : Int32) b5) [])) _
        refine XS.aload X52.here hx rfl (hb hby at_128) rfl rfl ?_
        show Steps p.tables e below (T52.setTop (mkF m 130 (own_F3 x1 q (4 : Int32) (2 : Int32) b5) [(.ref b5)])) _
        refine XS.lconst X52.here hx rfl (hb hby at_130) ?_
        show Steps p.tables e below (T52.setTop (mkF m 131 (own_F3 x1 q (4 : Int32) (2 : Int32) b5) [(.long (1 : Int64)), (.ref b5)])) _
        refine st59.trans ?_
        show Steps p.tables e below (T59.setTop (mkF m 134 (own_F3 x1 q (4 : Int32) (2 : Int32) b5) [])) _
        refine XS.iload X59.here hx rfl (hb hby at_134) rfl ?_
        show Steps p.tables e below (T59.setTop (mkF m 136 (own_F3 x1 q (4 : Int32) (2 : Int32) b5) [(.int (2 : Int32))])) _
        refine XS.iconst X59.here hx rfl (hb hby at_136) ?_
        show Steps p.tables e below (T59.setTop (mkF m 137 (own_F3 x1 q (4 : Int32) (2 : Int32) b5) [(.int (1 : Int32)), (.int (2 : Int32))])) _
        refine XS.icmpNo X59.here hx rfl (hb hby at_137) rfl (tlt ((by decide) : (1 : Int32) < (2 : Int32))).2.2.2 ?_
        show Steps p.tables e below (T59.setTop (mkF m 140 (own_F3 x1 q (4 : Int32) (2 : Int32) b5) [])) _
        refine XS.aload X59.here hx rfl (hb hby at_140) rfl rfl ?_
        show Steps p.tables e below (T59.setTop (mkF m 142 (own_F3 x1 q (4 : Int32) (2 : Int32) b5) [(.ref b5)])) _
        refine X59.ldc2Long hx hown (mvT hZ (hw _ (List.mem_of_getElem? (i := 94) rfl))) (g := (mkF m 142 (own_F3 x1 q (4 : Int32) (2 : Int32) b5) [(.ref b5)])) rfl (hb hby at_142) _ ?_
        show Steps p.tables e below (T59.setTop (mkF m 145 (own_F3 x1 q (4 : Int32) (2 : Int32) b5) [(.long (2 : Int64)), (.ref b5)])) _
        refine st60.trans ?_
        show Steps p.tables e below (T60.setTop (mkF m 148 (own_F3 x1 q (4 : Int32) (2 : Int32) b5) [])) _
        refine XS.iloadN X60.here hx rfl (hb hby at_148) rfl ?_
        show Steps p.tables e below (T60.setTop (mkF m 149 (own_F3 x1 q (4 : Int32) (2 : Int32) b5) [(.int (4 : Int32))])) _
        refine XS.iload X60.here hx rfl (hb hby at_149) rfl ?_
        show Steps p.tables e below (T60.setTop (mkF m 151 (own_F3 x1 q (4 : Int32) (2 : Int32) b5) [(.int (2 : Int32)), (.int (4 : Int32))])) _
        refine XS.isub X60.here hx rfl (hb hby at_151) rfl ?_
        show Steps p.tables e below (T60.setTop (mkF m 152 (own_F3 x1 q (4 : Int32) (2 : Int32) b5) [(.int (2 : Int32))])) _
        refine XS.istore X60.here hx rfl (hb hby at_152) rfl (l' := (own_F4 x1 q (4 : Int32) (2 : Int32) b5 (2 : Int32))) rfl ?_
        show Steps p.tables e below (T60.setTop (mkF m 154 (own_F4 x1 q (4 : Int32) (2 : Int32) b5 (2 : Int32)) [])) _
        refine XS.iload X60.here hx rfl (hb hby at_154) rfl ?_
        show Steps p.tables e below (T60.setTop (mkF m 156 (own_F4 x1 q (4 : Int32) (2 : Int32) b5 (2 : Int32)) [(.int (2 : Int32))])) _
        refine XS.ifYes X60.here hx rfl (pc0 := 156) (pc' := 163) rfl (hb hby at_156) rfl ((if0 _ _).trans (feq ((by decide) : ¬ ((2 : Int32) = (0 : Int32)))).2) (by decide) (by decide) ?_
        show Steps p.tables e below (T60.setTop (mkF m 163 (own_F4 x1 q (4 : Int32) (2 : Int32) b5 (2 : Int32)) [])) _
        refine XS.iconst X60.here hx rfl (hb hby at_163) ?_
        show Steps p.tables e below (T60.setTop (mkF m 164 (own_F4 x1 q (4 : Int32) (2 : Int32) b5 (2 : Int32)) [(.int (2 : Int32))])) _
        refine XS.istore X60.here hx rfl (hb hby at_164) rfl (l' := (own_F5 x1 q (4 : Int32) (2 : Int32) b5 (2 : Int32) (2 : Int32))) rfl ?_
        show Steps p.tables e below (T60.setTop (mkF m 166 (own_F5 x1 q (4 : Int32) (2 : Int32) b5 (2 : Int32) (2 : Int32)) [])) _
        refine XS.aload X60.here hx rfl (hb hby at_166) rfl rfl ?_
        show Steps p.tables e below (T60.setTop (mkF m 168 (own_F5 x1 q (4 : Int32) (2 : Int32) b5 (2 : Int32) (2 : Int32)) [(.ref b5)])) _
        refine st61.trans ?_
        show Steps p.tables e below (T61.setTop (mkF m 171 (own_F5 x1 q (4 : Int32) (2 : Int32) b5 (2 : Int32) (2 : Int32)) [(.int (own_h (2 : Int32) (2 : Int32)))])) _
        refine XS.iload X61.here hx rfl (hb hby at_171) rfl ?_
        show Steps p.tables e below (T61.setTop (mkF m 173 (own_F5 x1 q (4 : Int32) (2 : Int32) b5 (2 : Int32) (2 : Int32)) [(.int (2 : Int32)), (.int (own_h (2 : Int32) (2 : Int32)))])) _
        refine XS.iload X61.here hx rfl (hb hby at_173) rfl ?_
        show Steps p.tables e below (T61.setTop (mkF m 175 (own_F5 x1 q (4 : Int32) (2 : Int32) b5 (2 : Int32) (2 : Int32)) [(.int (2 : Int32)), (.int (2 : Int32)), (.int (own_h (2 : Int32) (2 : Int32)))])) _
        refine XS.icmpYes X61.here hx rfl (pc0 := 175) (pc' := 182) rfl (hb hby at_175) rfl (flt ((by decide) : ¬ ((2 : Int32) < (2 : Int32)))).2.1 (by decide) (by decide) ?_
        show Steps p.tables e below (T61.setTop (mkF m 182 (own_F5 x1 q (4 : Int32) (2 : Int32) b5 (2 : Int32) (2 : Int32)) [(.int (own_h (2 : Int32) (2 : Int32)))])) _
        refine XS.iconst X61.here hx rfl (hb hby at_182) ?_
        show Steps p.tables e below (T61.setTop (mkF m 183 (own_F5 x1 q (4 : Int32) (2 : Int32) b5 (2 : Int32) (2 : Int32)) [(.int (0 : Int32)), (.int (own_h (2 : Int32) (2 : Int32)))])) _
        refine XS.icmpNo X61.here hx rfl (hb hby at_183) rfl (teq ((by decide) : (own_h (2 : Int32) (2 : Int32)) = (0 : Int32))).2 ?_
        show Steps p.tables e below (T61.setTop (mkF m 186 (own_F5 x1 q (4 : Int32) (2 : Int32) b5 (2 : Int32) (2 : Int32)) [])) _
        refine XS.iconst X61.here hx rfl (hb hby at_186) ?_
        show Steps p.tables e below (T61.setTop (mkF m 187 (own_F5 x1 q (4 : Int32) (2 : Int32) b5 (2 : Int32) (2 : Int32)) [(.int (1 : Int32))])) _
        refine XS.goto X61.here hx rfl (pc0 := 187) (pc' := 191) rfl (hb hby at_187) (by decide) (by decide) ?_
        show Steps p.tables e below (T61.setTop (mkF m 191 (own_F5 x1 q (4 : Int32) (2 : Int32) b5 (2 : Int32) (2 : Int32)) [(.int (1 : Int32))])) _
        exact k
      obtain ⟨fs, hr, hrun, hended, hW, hsame⟩ := X61.leave (v := some (.int (1 : Int32))) (fun h => by rw [Bd.returns] at h; cases h)
      refine ⟨_, _, w62 _ ?_, hrun, hended, _, _, rfl, ?_, ⟨_, rfl⟩, hW, hsame.mono (by decide) (by decide)⟩
      · exact retN X61 hx (t := .boolean) Bd.returns (by simp) (hb hby at_191) hr
      · show Q0 Z x1 q  h0 n0 _ T61.heap _
        rw [eh61]
        exact ⟨rfl, N61⟩
set_option maxRecDepth 65536 in
set_option maxHeartbeats 40000000 in
theorem comes_1 {Post : Tables → Env → Array Value → State → Outcome → State → Prop} (hpost : ∀ tb e args s v u, (limb_1_1.after args s (.returned v) u = true ∧ limb_1_2.after args s (.returned v) u = true ∧ True) → FrameEnd s (.returned v) u (Jvm.fieldLocs frame_1_writes args s ++ Jvm.arrayLocs frame_1_arrays args s ++ Jvm.staticLocs frame_1_statics s) 16 128 → Post tb e args s (.returned v) u) :
    ArmFor flags0 classFile x code maxLocals ret World_1 tables_1 room_1 Calls_1 rest_1 Pre_1 Post := by
  intro l hfl _ _ p e ha hc hk s m args below hf hA hF happ hP
  obtain ⟨hcalls, hrest, hpre⟩ := hP
  obtain ⟨-, -, -, hnamed, -, -, -, hat⟩ := (Spec.applies_iff hf).mp happ
  obtain ⟨hg, hn⟩ := and_e (Cond.before_iff.mp (show (Jvm.Cond.and given_1 narrow_1).before args s = true from hpre))
  obtain ⟨g1, g2⟩ := and_e hg
  obtain ⟨g3, g4⟩ := and_e g2
  obtain ⟨w0, w1, rfl⟩ : ∃ w0 w1 : Value, args = #[w0, w1] := by
    have hs : args.size = 2 := by simpa [Cond.value, given_1] using g1
    obtain ⟨L⟩ := args
    match L, hs with
    | [w0, w1], _ => exact ⟨w0, w1, rfl⟩
  have hw := fun d (hd : d ∈ tables_1) => atoms_spec (ws := Jvm.Cond.code x code maxLocals ret :: tables_1) hat d (List.mem_cons_of_mem _ hd)
  have hfit : Fit s := fun {y c} hc i hi => by
    obtain ⟨ha, rfl⟩ := Array.getElem?_eq_some_iff.mp hc
    have q := List.all_eq_true.mp ((Array.all_eq_true_iff_forall_mem.mp hF) _ (Array.getElem_mem ha)) i (List.mem_range.mpr hi)
    simpa [Array.getElem?_eq_getElem hi] using q
  obtain ⟨i0, ei0⟩ := is_v g3
  obtain rfl : w0 = (.int i0) := Option.some.inj ei0
  obtain ⟨i1, ei1⟩ := isL_v g4
  obtain rfl : w1 = (.long i1) := Option.some.inj ei1
  obtain ⟨n, o, h1, h2, h3, _, L, rfl, ⟨rfl, N⟩, hq⟩ := rm0 l s _ hw tables_1 i0 i1 s.heap s.heap.size (Old.start s)  p e ha hc hk s m _ below hf ((Spec.applies_iff_loose hf).mp happ).1 ⟨rfl, State.Warmed39.refl s, rfl⟩ trivial
  refine ⟨n, _, h1, h2, h3, hpost _ _ _ _ _ _ ⟨Cond.after_iff.mpr rfl, Cond.after_iff.mpr (eq_i res_at (Term.int_eval (1)) rfl), trivial⟩ ⟨hq.1, hq.2.1, (hq.2.2.sift fun y hy => Or.inr (N y hy)).mono (by decide) (by decide)⟩⟩
theorem main_1_1 : Claimed_1_1 := comes_1 fun _ _ _ _ _ _ h hF => ⟨h.1, hF⟩
theorem main_1_2 : Claimed_1_2 := comes_1 fun _ _ _ _ _ _ h hF => ⟨h.2.1, hF⟩
end Jvm.Pilot.@@N@@
namespace Jvm.Pilot.@@N@@
open Jvm Jvm.ClassFile Sem Op Lib Jvm.Free Jvm.Stand Jvm.Pilot.@@N@@.Jvm.D
/-! MADE BY PROGRAM (witnessworld.py) out of the Statement's table words and the real class files: 12 classes; the members and pool entries that the words name. The judged class is class 1, her method 1. -/
namespace start1
open Jvm.ClassFile
def u (s : String) : CpInfo := .utf8 (stringToUtf16 s)
/-- a pool by its gaps: so many unusable entries, then the entry; so many at the end -/
def gap : Nat → List CpInfo → List CpInfo
  | 0, r => r
  | n + 1, r => .unusable :: gap n r
def poolList (es : List (Nat × CpInfo)) (last : Nat) : List CpInfo := es.foldr (fun e r => gap e.1 (e.2 :: r)) (gap last [])
def pool (es : List (Nat × CpInfo)) (last : Nat) : Array CpInfo := ⟨poolList es last⟩
def fileOf (pool : Array CpInfo) (this : Nat) (attrs : Array Attribute := #[]) (ms : Array MethodInfo := #[]) (fl : Nat := 33) (sup : Nat := 0) (ifs : Array Nat := #[]) (fds : Array FieldInfo := #[]) : ClassFile where
  minorVersion := 0
  majorVersion := 65
  constantPool := pool
  accessFlags := fl
  thisClass := this
  superClass := sup
  interfaces := ifs
  fields := fds
  methods := ms
  attributes := attrs
def plain (name : String) (sup : Option ClassId) : Class where
  name := name
  kind := .ordinary
  loader := none
  accessFlags := 33
  super := sup
  interfaces := #[]
  cf := none
  fields := #[]
  methods := #[]
  instanceTypes := #[]
  staticTypes := #[]
  resolved := #[]
  callSites := []
  init := .initialized
  statics := none
  mirror := none

def pool0 : Array CpInfo := pool [(5, u "<init>"), (0, u "()V"), (1, .class_ 10), (1, u "java/lang/Object")] 113

def k0c0 : Code := { maxStack := 0, maxLocals := 1, code := object_method_1_code, exceptionTable := #[], attributes := #[] }
def k0m0 : Method := { name := "<init>", desc := "()V", sig := { parameters := [], returnType := none }, accessFlags := 1, code := some k0c0 }
/-- java/lang/Object -/
def k0 : Class := { plain "java/lang/Object" none with
  accessFlags := 33
  interfaces := #[]
  cf := some (fileOf pool0 8 #[] #[{ accessFlags := 1, nameIndex := 5, descriptorIndex := 6, attributes := #[] }] 33 0 #[] #[])
  fields := #[]
  methods := #[k0m0]
  instanceTypes := #[]
  staticTypes := #[]
  resolved := Array.replicate 124 none
  statics := none }

def pool1 : Array CpInfo := pool [(2, .class_ 4), (0, .nameAndType 5 6), (0, u "java/lang/Object"), (0, u "<init>"), (0, u "()V"), (0, .methodref 8 9), (0, .class_ 10), (0, .nameAndType 11 12), (0, u "java/lang/Math"), (0, u "min"), (0, u "(II)I"), (0, .class_ 14), (0, u "com/example/hashmesh/hashmesh/mesh/Congestion"), (0, .methodref 13 3), (0, .methodref 13 17), (0, .nameAndType 18 19), (0, u "measured"), (0, u "(J)V"), (0, .long 50), (1, .methodref 13 23), (0, .nameAndType 24 6), (0, u "timedOut"), (0, .methodref 13 26), (0, .nameAndType 27 28), (0, u "sent"), (0, u "(J)J"), (0, .methodref 13 30), (0, .nameAndType 31 19), (0, u "taken"), (0, .long 2), (1, .methodref 13 35), (0, .nameAndType 36 37), (0, u "hasRoom"), (0, u "()Z"), (0, .class_ 39), (0, u "com/example/hashmesh/hashmesh/mesh/CongestionHasRoomPinLaw"), (2, u "law"), (0, u "(IJ)Z")] 3

def k1m0 : Method := { name := "<init>", desc := "()V", sig := { parameters := [], returnType := none }, accessFlags := 2, code := none }
def k1c1 : Code := { maxStack := 3, maxLocals := 8, code := code, exceptionTable := #[], attributes := #[] }
def k1m1 : Method := { name := "law", desc := "(IJ)Z", sig := { parameters := [.int, .long], returnType := some .boolean }, accessFlags := 9, code := some k1c1 }
/-- com/example/hashmesh/hashmesh/mesh/CongestionHasRoomPinLaw -/
def k1 : Class := { plain "com/example/hashmesh/hashmesh/mesh/CongestionHasRoomPinLaw" (some 0) with
  accessFlags := 49
  interfaces := #[]
  cf := some (fileOf pool1 38 #[] #[{ accessFlags := 2, nameIndex := 5, descriptorIndex := 6, attributes := #[] }, { accessFlags := 9, nameIndex := 42, descriptorIndex := 43, attributes := #[] }] 49 2 #[] #[])
  fields := #[]
  methods := #[k1m0, k1m1]
  instanceTypes := #[]
  staticTypes := #[]
  resolved := Array.replicate 47 none
  statics := none }

def pool2 : Array CpInfo := pool [(1, .class_ 2), (0, u "java/lang/Math"), (1, .class_ 6), (1, u "java/lang/Object"), (0, u "<init>"), (0, u "()V"), (43, u "(DD)D"), (45, .class_ 100), (1, u "java/lang/Math$RandomNumberGeneratorHolder"), (20, u "(JJ)J"), (2, u "abs"), (0, u "(J)J"), (46, u "negativeZeroFloatBits"), (0, u "J"), (2, u "negativeZeroDoubleBits"), (21, u "max"), (2, u "min"), (43, u "$assertionsDisabled"), (0, u "Z"), (88, u "(II)I"), (2, u "twoToTheDoubleScaleDown"), (0, u "D"), (4, u "twoToTheDoubleScaleUp"), (9, u "E"), (3, u "PI"), (2, u "TAU"), (2, u "DEGREES_TO_RADIANS"), (0, u "RADIANS_TO_DEGREES")] 94

def k2m0 : Method := { name := "<init>", desc := "()V", sig := { parameters := [], returnType := none }, accessFlags := 2, code := none }
def k2c1 : Code := { maxStack := 4, maxLocals := 2, code := jdk_29_method_61_code, exceptionTable := #[], attributes := #[] }
def k2m1 : Method := { name := "abs", desc := "(J)J", sig := { parameters := [.long], returnType := some .long }, accessFlags := 9, code := some k2c1 }
def k2c2 : Code := { maxStack := 4, maxLocals := 4, code := jdk_29_method_68_code, exceptionTable := #[], attributes := #[] }
def k2m2 : Method := { name := "max", desc := "(DD)D", sig := { parameters := [.double, .double], returnType := some .double }, accessFlags := 9, code := some k2c2 }
def k2c3 : Code := { maxStack := 2, maxLocals := 2, code := jdk_29_method_69_code, exceptionTable := #[], attributes := #[] }
def k2m3 : Method := { name := "min", desc := "(II)I", sig := { parameters := [.int, .int], returnType := some .int }, accessFlags := 9, code := some k2c3 }
def k2c4 : Code := { maxStack := 4, maxLocals := 4, code := jdk_29_method_70_code, exceptionTable := #[], attributes := #[] }
def k2m4 : Method := { name := "min", desc := "(JJ)J", sig := { parameters := [.long, .long], returnType := some .long }, accessFlags := 9, code := some k2c4 }
def k2c5 : Code := { maxStack := 4, maxLocals := 4, code := jdk_29_method_72_code, exceptionTable := #[], attributes := #[] }
def k2m5 : Method := { name := "min", desc := "(DD)D", sig := { parameters := [.double, .double], returnType := some .double }, accessFlags := 9, code := some k2c5 }
/-- java/lang/Math -/
def k2 : Class := { plain "java/lang/Math" (some 0) with
  accessFlags := 49
  interfaces := #[]
  cf := some (fileOf pool2 1 #[.nestMembers #[98]] #[{ accessFlags := 2, nameIndex := 7, descriptorIndex := 8, attributes := #[] }, { accessFlags := 9, nameIndex := 124, descriptorIndex := 125, attributes := #[] }, { accessFlags := 9, nameIndex := 198, descriptorIndex := 52, attributes := #[] }, { accessFlags := 9, nameIndex := 201, descriptorIndex := 335, attributes := #[] }, { accessFlags := 9, nameIndex := 201, descriptorIndex := 121, attributes := #[] }, { accessFlags := 9, nameIndex := 201, descriptorIndex := 52, attributes := #[] }] 49 4 #[] #[{ accessFlags := 25, nameIndex := 354, descriptorIndex := 339, attributes := #[] }, { accessFlags := 25, nameIndex := 358, descriptorIndex := 339, attributes := #[] }, { accessFlags := 25, nameIndex := 361, descriptorIndex := 339, attributes := #[] }, { accessFlags := 26, nameIndex := 364, descriptorIndex := 339, attributes := #[] }, { accessFlags := 26, nameIndex := 365, descriptorIndex := 339, attributes := #[] }, { accessFlags := 26, nameIndex := 172, descriptorIndex := 173, attributes := #[] }, { accessFlags := 26, nameIndex := 176, descriptorIndex := 173, attributes := #[] }, { accessFlags := 8, nameIndex := 344, descriptorIndex := 339, attributes := #[] }, { accessFlags := 8, nameIndex := 338, descriptorIndex := 339, attributes := #[] }, { accessFlags := 4120, nameIndex := 245, descriptorIndex := 246, attributes := #[] }])
  fields := #[{ name := "E", type := .double, accessFlags := 25, slot := 0, constantValue := 0 }, { name := "PI", type := .double, accessFlags := 25, slot := 1, constantValue := 0 }, { name := "TAU", type := .double, accessFlags := 25, slot := 2, constantValue := 0 }, { name := "DEGREES_TO_RADIANS", type := .double, accessFlags := 26, slot := 3, constantValue := 0 }, { name := "RADIANS_TO_DEGREES", type := .double, accessFlags := 26, slot := 4, constantValue := 0 }, { name := "negativeZeroFloatBits", type := .long, accessFlags := 26, slot := 5, constantValue := 0 }, { name := "negativeZeroDoubleBits", type := .long, accessFlags := 26, slot := 6, constantValue := 0 }, { name := "twoToTheDoubleScaleUp", type := .double, accessFlags := 8, slot := 7, constantValue := 0 }, { name := "twoToTheDoubleScaleDown", type := .double, accessFlags := 8, slot := 8, constantValue := 0 }, { name := "$assertionsDisabled", type := .boolean, accessFlags := 4120, slot := 9, constantValue := 0 }]
  methods := #[k2m0, k2m1, k2m2, k2m3, k2m4, k2m5]
  instanceTypes := #[]
  staticTypes := #[.double, .double, .double, .double, .double, .long, .long, .double, .double, .boolean]
  resolved := Array.replicate 460 none
  statics := none }

def pool3 : Array CpInfo := pool [(1, .methodref 2 3), (0, .class_ 4), (0, .nameAndType 5 6), (0, u "java/lang/Object"), (0, u "<init>"), (0, u "()V"), (0, .class_ 8), (0, u "com/example/hashmesh/hashmesh/mesh/Congestion"), (0, .double 4621819117588971520), (1, .fieldref 7 12), (0, .nameAndType 13 14), (0, u "window"), (0, u "D"), (2, .double 4634204016564240384), (1, .fieldref 7 20), (0, .nameAndType 21 14), (0, u "threshold"), (2, .double 18442240474082181120), (1, .fieldref 7 27), (0, .nameAndType 28 14), (0, u "paceAt"), (0, .long 18446744073709551615), (1, .fieldref 7 32), (0, .nameAndType 33 34), (0, u "smoothedRtt"), (0, u "J"), (2, .long 9223372036854775807), (1, .fieldref 7 40), (0, .nameAndType 41 34), (0, u "leastRtt"), (0, .fieldref 7 43), (0, .nameAndType 44 45), (0, u "latestRtts"), (0, u "[J"), (0, .fieldref 7 47), (0, .nameAndType 48 49), (0, u "onTheWay"), (0, u "I"), (1, .class_ 53), (1, u "java/lang/Math"), (2, .double 4611686018427387904), (1, .double 4608308318706860032), (1, .double 4621256167635550208), (1, .methodref 51 63), (0, .nameAndType 64 65), (0, u "max"), (0, u "(DD)D"), (0, .fieldref 7 67), (0, .nameAndType 68 34), (0, u "sent"), (0, .fieldref 7 70), (0, .nameAndType 71 34), (0, u "shrunkAfter"), (0, .methodref 7 73), (0, .nameAndType 74 75), (0, u "queueShows"), (0, u "()Z"), (0, .methodref 51 77), (0, .nameAndType 78 65), (0, u "min"), (0, .methodref 51 80), (0, .nameAndType 78 81), (0, u "(JJ)J"), (0, .fieldref 7 83), (0, .nameAndType 84 49), (0, u "nextLatest"), (0, .fieldref 7 86), (0, .nameAndType 87 49), (0, u "latestCount"), (0, .methodref 51 89), (0, .nameAndType 78 90), (0, u "(II)I"), (0, .long 2), (1, .fieldref 7 94), (0, .nameAndType 95 34), (0, u "rttVariation"), (0, .long 3), (1, .methodref 51 99), (0, .nameAndType 100 101), (0, u "abs"), (0, u "(J)J"), (0, .long 4), (1, .long 7), (1, .long 8), (1, .long 5), (1, u "INITIAL_WINDOW"), (2, u "MIN_WINDOW"), (1, u "QUEUE_MILLIS"), (0, u "RECENT_SAMPLES"), (1, u "SLOW_START_PACE"), (0, u "PACE"), (2, u "hasRoom"), (2, u "taken"), (0, u "(J)V"), (1, u "timedOut"), (0, u "measured")] 2

def k3c0 : Code := { maxStack := 3, maxLocals := 1, code := prog_61_method_1_code, exceptionTable := #[], attributes := #[] }
def k3m0 : Method := { name := "<init>", desc := "()V", sig := { parameters := [], returnType := none }, accessFlags := 0, code := some k3c0 }
def k3c1 : Code := { maxStack := 3, maxLocals := 1, code := prog_61_method_2_code, exceptionTable := #[], attributes := #[] }
def k3m1 : Method := { name := "hasRoom", desc := "()Z", sig := { parameters := [], returnType := some .boolean }, accessFlags := 0, code := some k3c1 }
def k3c2 : Code := { maxStack := 9, maxLocals := 5, code := prog_61_method_4_code, exceptionTable := #[], attributes := #[] }
def k3m2 : Method := { name := "sent", desc := "(J)J", sig := { parameters := [.long], returnType := some .long }, accessFlags := 0, code := some k3c2 }
def k3c3 : Code := { maxStack := 7, maxLocals := 3, code := prog_61_method_5_code, exceptionTable := #[], attributes := #[] }
def k3m3 : Method := { name := "taken", desc := "(J)V", sig := { parameters := [.long], returnType := none }, accessFlags := 0, code := some k3c3 }
def k3c4 : Code := { maxStack := 5, maxLocals := 1, code := prog_61_method_7_code, exceptionTable := #[], attributes := #[] }
def k3m4 : Method := { name := "timedOut", desc := "()V", sig := { parameters := [], returnType := none }, accessFlags := 0, code := some k3c4 }
def k3c5 : Code := { maxStack := 7, maxLocals := 3, code := prog_61_method_8_code, exceptionTable := #[], attributes := #[] }
def k3m5 : Method := { name := "measured", desc := "(J)V", sig := { parameters := [.long], returnType := none }, accessFlags := 0, code := some k3c5 }
def k3c6 : Code := { maxStack := 4, maxLocals := 4, code := prog_61_method_11_code, exceptionTable := #[], attributes := #[] }
def k3m6 : Method := { name := "queueShows", desc := "()Z", sig := { parameters := [], returnType := some .boolean }, accessFlags := 2, code := some k3c6 }
/-- com/example/hashmesh/hashmesh/mesh/Congestion -/
def k3 : Class := { plain "com/example/hashmesh/hashmesh/mesh/Congestion" (some 0) with
  accessFlags := 48
  interfaces := #[]
  cf := some (fileOf pool3 7 #[] #[{ accessFlags := 0, nameIndex := 5, descriptorIndex := 6, attributes := #[] }, { accessFlags := 0, nameIndex := 122, descriptorIndex := 75, attributes := #[] }, { accessFlags := 0, nameIndex := 68, descriptorIndex := 101, attributes := #[] }, { accessFlags := 0, nameIndex := 125, descriptorIndex := 126, attributes := #[] }, { accessFlags := 0, nameIndex := 128, descriptorIndex := 6, attributes := #[] }, { accessFlags := 0, nameIndex := 129, descriptorIndex := 126, attributes := #[] }, { accessFlags := 2, nameIndex := 74, descriptorIndex := 75, attributes := #[] }] 48 2 #[] #[{ accessFlags := 24, nameIndex := 110, descriptorIndex := 49, attributes := #[] }, { accessFlags := 24, nameIndex := 113, descriptorIndex := 49, attributes := #[] }, { accessFlags := 24, nameIndex := 115, descriptorIndex := 34, attributes := #[] }, { accessFlags := 26, nameIndex := 116, descriptorIndex := 49, attributes := #[] }, { accessFlags := 26, nameIndex := 118, descriptorIndex := 14, attributes := #[] }, { accessFlags := 26, nameIndex := 119, descriptorIndex := 14, attributes := #[] }, { accessFlags := 2, nameIndex := 13, descriptorIndex := 14, attributes := #[] }, { accessFlags := 2, nameIndex := 21, descriptorIndex := 14, attributes := #[] }, { accessFlags := 2, nameIndex := 48, descriptorIndex := 49, attributes := #[] }, { accessFlags := 2, nameIndex := 68, descriptorIndex := 34, attributes := #[] }, { accessFlags := 2, nameIndex := 71, descriptorIndex := 34, attributes := #[] }, { accessFlags := 2, nameIndex := 28, descriptorIndex := 14, attributes := #[] }, { accessFlags := 2, nameIndex := 33, descriptorIndex := 34, attributes := #[] }, { accessFlags := 2, nameIndex := 95, descriptorIndex := 34, attributes := #[] }, { accessFlags := 2, nameIndex := 41, descriptorIndex := 34, attributes := #[] }, { accessFlags := 18, nameIndex := 44, descriptorIndex := 45, attributes := #[] }, { accessFlags := 2, nameIndex := 87, descriptorIndex := 49, attributes := #[] }, { accessFlags := 2, nameIndex := 84, descriptorIndex := 49, attributes := #[] }])
  fields := #[{ name := "INITIAL_WINDOW", type := .int, accessFlags := 24, slot := 0, constantValue := 0 }, { name := "MIN_WINDOW", type := .int, accessFlags := 24, slot := 1, constantValue := 0 }, { name := "QUEUE_MILLIS", type := .long, accessFlags := 24, slot := 2, constantValue := 0 }, { name := "RECENT_SAMPLES", type := .int, accessFlags := 26, slot := 3, constantValue := 0 }, { name := "SLOW_START_PACE", type := .double, accessFlags := 26, slot := 4, constantValue := 0 }, { name := "PACE", type := .double, accessFlags := 26, slot := 5, constantValue := 0 }, { name := "window", type := .double, accessFlags := 2, slot := 0, constantValue := 0 }, { name := "threshold", type := .double, accessFlags := 2, slot := 1, constantValue := 0 }, { name := "onTheWay", type := .int, accessFlags := 2, slot := 2, constantValue := 0 }, { name := "sent", type := .long, accessFlags := 2, slot := 3, constantValue := 0 }, { name := "shrunkAfter", type := .long, accessFlags := 2, slot := 4, constantValue := 0 }, { name := "paceAt", type := .double, accessFlags := 2, slot := 5, constantValue := 0 }, { name := "smoothedRtt", type := .long, accessFlags := 2, slot := 6, constantValue := 0 }, { name := "rttVariation", type := .long, accessFlags := 2, slot := 7, constantValue := 0 }, { name := "leastRtt", type := .long, accessFlags := 2, slot := 8, constantValue := 0 }, { name := "latestRtts", type := (.array .long), accessFlags := 18, slot := 9, constantValue := 0 }, { name := "latestCount", type := .int, accessFlags := 2, slot := 10, constantValue := 0 }, { name := "nextLatest", type := .int, accessFlags := 2, slot := 11, constantValue := 0 }]
  methods := #[k3m0, k3m1, k3m2, k3m3, k3m4, k3m5, k3m6]
  instanceTypes := #[.double, .double, .int, .long, .long, .double, .long, .long, .long, (.array .long), .int, .int]
  staticTypes := #[.int, .int, .long, .int, .double, .double]
  resolved := Array.replicate 132 none
  statics := none }

def pool4 : Array CpInfo := pool [(1, u "java/lang/Cloneable"), (0, .class_ 1), (0, u "java/lang/Object"), (0, .class_ 3)] 3

/-- java/lang/Cloneable -/
def k4 : Class := { plain "java/lang/Cloneable" (some 0) with
  accessFlags := 1537
  interfaces := #[]
  cf := some (fileOf pool4 2 #[] #[] 1537 4 #[] #[])
  fields := #[]
  methods := #[]
  instanceTypes := #[]
  staticTypes := #[]
  resolved := Array.replicate 8 none
  statics := none }

def pool5 : Array CpInfo := pool [(1, u "java/io/Serializable"), (0, .class_ 1), (0, u "java/lang/Object"), (0, .class_ 3)] 3

/-- java/io/Serializable -/
def k5 : Class := { plain "java/io/Serializable" (some 0) with
  accessFlags := 1537
  interfaces := #[]
  cf := some (fileOf pool5 2 #[] #[] 1537 4 #[] #[])
  fields := #[]
  methods := #[]
  instanceTypes := #[]
  staticTypes := #[]
  resolved := Array.replicate 8 none
  statics := none }

/-- the primitive byte -/
def k6 : Class := { plain "byte" none with kind := .primitive 'B', accessFlags := 0x411 }
/-- [B -/
def k7 : Class := { plain "[B" (some 0) with kind := .array 6 .byte, interfaces := #[4, 5], accessFlags := 1041 }

/-- the primitive int -/
def k8 : Class := { plain "int" none with kind := .primitive 'I', accessFlags := 0x411 }
/-- [I -/
def k9 : Class := { plain "[I" (some 0) with kind := .array 8 .int, interfaces := #[4, 5], accessFlags := 1041 }

/-- the primitive long -/
def k10 : Class := { plain "long" none with kind := .primitive 'J', accessFlags := 0x411 }
/-- [J -/
def k11 : Class := { plain "[J" (some 0) with kind := .array 10 .long, interfaces := #[4, 5], accessFlags := 1041 }

def heap : Heap := #[]
def classes : Array Class := #[k0, k1, k2, k3, k4, k5, k6, k7, k8, k9, k10, k11]
def interned : List (Array UInt16 × Addr) := []
def slotsUsed : Nat := 0
def theMethod : MethodId := ⟨1, 1⟩
def args0 : Array Value := #[.int 0, .long 0]
def aboutOver (below : List Frame) : State where
  vm := { classes := classes, interned := interned.toArray }
  heap := heap
  slotsUsed := slotsUsed
  threads := #[{ frames := .invoking theMethod args0 :: below }]
def below0 : List Frame := [.native { method := ⟨0, 0⟩, args := #[] }]
def about1 : State := aboutOver below0
def p0 : Program := .bare "" "" ""
def e0 : Env := launch0.env 0 0 0
theorem w_frames : about1.frames = Frame.invoking theMethod args0 :: below0 := rfl
set_option maxRecDepth 65536 in
theorem w_args : argsFit about1.vm theMethod args0 = true := by decide +kernel
set_option maxRecDepth 65536 in
theorem w_heap : heapFits about1 = true := by decide +kernel
set_option maxRecDepth 65536 in
theorem w_runnable : about1.curStatus? = some .runnable := by decide +kernel
set_option maxRecDepth 65536 in
theorem w_alone : about1.alone = true := by decide +kernel
set_option maxRecDepth 65536 in
theorem w_named : about1.methodNamed? x = some theMethod := by decide +kernel
set_option maxRecDepth 65536 in
theorem w_hears : about1.hears theMethod below0 = true := by decide +kernel
set_option maxRecDepth 65536 in
theorem w_ripe : about1.ripe theMethod args0 below0 = true := by decide +kernel
theorem w_running : about1.status = .running := rfl
set_option maxRecDepth 65536 in
theorem w_room : about1.hasRoom e0.platform room_1 = true :=
  launch0.hasRoom_least _ room_1 (by decide +kernel) (by decide +kernel) (by decide +kernel) (by decide +kernel) (by decide +kernel) (by decide +kernel)
theorem allAtoms_all (ts : List Jvm.Cond) (a : Array Jvm.Value) (st : Jvm.State) : (allAtoms ts).before a st = ts.all (fun c => c.before a st) := by
  induction ts with
  | nil => rfl
  | cons c t ih =>
    show (Jvm.Cond.and c (allAtoms t)).before a st = _
    rw [Jvm.Cond.before_and, ih, List.all_cons]
def words1 : List Jvm.Cond := Jvm.Cond.code x code maxLocals ret :: tables_1
/-- a 'code' word, met by the world's own term for the bytes: nothing is compared byte by byte -/
theorem code_word {y : MethodName} {bytes : ByteArray} {mx : Nat} {rt : Option FieldType} {a : Array Value} {s : State} {m : MethodId} {meth : Method} {c : Code} (h1 : s.methodNamed? y = some m) (h2 : s.vm.method? m = some meth) (h3 : meth.code = some c) (h4 : c.code = bytes)
    (h5 : (c.maxLocals == mx && c.exceptionTable.isEmpty && decide (c.maxStack ≤ mostOperands) && decide (meth.sig.returnType = rt) && !meth.locks && decide (parseMethodDescriptor y.desc = some meth.sig)) = true) : (Jvm.Cond.code y bytes mx rt).before a s = true := by
  simp only [Bool.and_eq_true, beq_iff_eq, Bool.not_eq_true', decide_eq_true_eq] at h5
  obtain ⟨⟨⟨⟨⟨g1, g2⟩, g3⟩, g4⟩, g5⟩, g6⟩ := h5
  simp [Cond.before, Cond.holds, Cond.value, h1, h2, h3, h4, g1, g2, g3, g4, g5, g6]
def isCode : Jvm.Cond → Bool
  | .code _ _ _ _ => true
  | _ => false
theorem all_split {L : List Jvm.Cond} {P : Jvm.Cond → Bool} (h1 : L.all (fun c => isCode c || P c) = true) (h2 : ∀ c ∈ L.filter isCode, P c = true) : L.all P = true := by
  refine List.all_eq_true.mpr fun c hc => ?_
  have h := List.all_eq_true.mp h1 c hc
  rcases Bool.eq_false_or_eq_true (isCode c) with hi | hi
  · exact h2 c (List.mem_filter.mpr ⟨hc, hi⟩)
  · simpa [hi] using h
set_option maxRecDepth 65536 in
theorem w_c0 : (Jvm.Cond.code x code maxLocals ret).before args0 about1 = true := code_word (m := ⟨1, 1⟩) (meth := k1m1) (c := k1c1) (by decide +kernel) rfl rfl rfl (by decide +kernel)
set_option maxRecDepth 65536 in
theorem w_c1 : (Jvm.Cond.code ({ cls := "java/lang/Math", name := "min", desc := "(II)I" } : Jvm.MethodName) jdk_29_method_69_code (2 : Nat) (Option.some Jvm.ClassFile.FieldType.int)).before args0 about1 = true := code_word (m := ⟨2, 3⟩) (meth := k2m3) (c := k2c3) (by decide +kernel) rfl rfl rfl (by decide +kernel)
set_option maxRecDepth 65536 in
theorem w_c2 : (Jvm.Cond.code ({ cls := "com/example/hashmesh/hashmesh/mesh/Congestion", name := "<init>", desc := "()V" } : Jvm.MethodName) prog_61_method_1_code (1 : Nat) (Option.none : Option Jvm.ClassFile.FieldType)).before args0 about1 = true := code_word (m := ⟨3, 0⟩) (meth := k3m0) (c := k3c0) (by decide +kernel) rfl rfl rfl (by decide +kernel)
set_option maxRecDepth 65536 in
theorem w_c3 : (Jvm.Cond.code ({ cls := "java/lang/Object", name := "<init>", desc := "()V" } : Jvm.MethodName) object_method_1_code (1 : Nat) (Option.none : Option Jvm.ClassFile.FieldType)).before args0 about1 = true := code_word (m := ⟨0, 0⟩) (meth := k0m0) (c := k0c0) (by decide +kernel) rfl rfl rfl (by decide +kernel)
set_option maxRecDepth 65536 in
theorem w_c4 : (Jvm.Cond.code ({ cls := "com/example/hashmesh/hashmesh/mesh/Congestion", name := "measured", desc := "(J)V" } : Jvm.MethodName) prog_61_method_8_code (3 : Nat) (Option.none : Option Jvm.ClassFile.FieldType)).before args0 about1 = true := code_word (m := ⟨3, 5⟩) (meth := k3m5) (c := k3c5) (by decide +kernel) rfl rfl rfl (by decide +kernel)
set_option maxRecDepth 65536 in
theorem w_c5 : (Jvm.Cond.code ({ cls := "java/lang/Math", name := "min", desc := "(JJ)J" } : Jvm.MethodName) jdk_29_method_70_code (4 : Nat) (Option.some Jvm.ClassFile.FieldType.long)).before args0 about1 = true := code_word (m := ⟨2, 4⟩) (meth := k2m4) (c := k2c4) (by decide +kernel) rfl rfl rfl (by decide +kernel)
set_option maxRecDepth 65536 in
theorem w_c6 : (Jvm.Cond.code ({ cls := "java/lang/Math", name := "abs", desc := "(J)J" } : Jvm.MethodName) jdk_29_method_61_code (2 : Nat) (Option.some Jvm.ClassFile.FieldType.long)).before args0 about1 = true := code_word (m := ⟨2, 1⟩) (meth := k2m1) (c := k2c1) (by decide +kernel) rfl rfl rfl (by decide +kernel)
set_option maxRecDepth 65536 in
theorem w_c7 : (Jvm.Cond.code ({ cls := "com/example/hashmesh/hashmesh/mesh/Congestion", name := "timedOut", desc := "()V" } : Jvm.MethodName) prog_61_method_7_code (1 : Nat) (Option.none : Option Jvm.ClassFile.FieldType)).before args0 about1 = true := code_word (m := ⟨3, 4⟩) (meth := k3m4) (c := k3c4) (by decide +kernel) rfl rfl rfl (by decide +kernel)
set_option maxRecDepth 65536 in
theorem w_c8 : (Jvm.Cond.code ({ cls := "com/example/hashmesh/hashmesh/mesh/Congestion", name := "queueShows", desc := "()Z" } : Jvm.MethodName) prog_61_method_11_code (4 : Nat) (Option.some Jvm.ClassFile.FieldType.boolean)).before args0 about1 = true := code_word (m := ⟨3, 6⟩) (meth := k3m6) (c := k3c6) (by decide +kernel) rfl rfl rfl (by decide +kernel)
set_option maxRecDepth 65536 in
theorem w_c9 : (Jvm.Cond.code ({ cls := "java/lang/Math", name := "max", desc := "(DD)D" } : Jvm.MethodName) jdk_29_method_68_code (4 : Nat) (Option.some Jvm.ClassFile.FieldType.double)).before args0 about1 = true := code_word (m := ⟨2, 2⟩) (meth := k2m2) (c := k2c2) (by decide +kernel) rfl rfl rfl (by decide +kernel)
set_option maxRecDepth 65536 in
theorem w_c10 : (Jvm.Cond.code ({ cls := "com/example/hashmesh/hashmesh/mesh/Congestion", name := "hasRoom", desc := "()Z" } : Jvm.MethodName) prog_61_method_2_code (1 : Nat) (Option.some Jvm.ClassFile.FieldType.boolean)).before args0 about1 = true := code_word (m := ⟨3, 1⟩) (meth := k3m1) (c := k3c1) (by decide +kernel) rfl rfl rfl (by decide +kernel)
set_option maxRecDepth 65536 in
theorem w_c11 : (Jvm.Cond.code ({ cls := "com/example/hashmesh/hashmesh/mesh/Congestion", name := "sent", desc := "(J)J" } : Jvm.MethodName) prog_61_method_4_code (5 : Nat) (Option.some Jvm.ClassFile.FieldType.long)).before args0 about1 = true := code_word (m := ⟨3, 2⟩) (meth := k3m2) (c := k3c2) (by decide +kernel) rfl rfl rfl (by decide +kernel)
set_option maxRecDepth 65536 in
theorem w_c12 : (Jvm.Cond.code ({ cls := "com/example/hashmesh/hashmesh/mesh/Congestion", name := "taken", desc := "(J)V" } : Jvm.MethodName) prog_61_method_5_code (3 : Nat) (Option.none : Option Jvm.ClassFile.FieldType)).before args0 about1 = true := code_word (m := ⟨3, 3⟩) (meth := k3m3) (c := k3c3) (by decide +kernel) rfl rfl rfl (by decide +kernel)
set_option maxRecDepth 65536 in
theorem w_c13 : (Jvm.Cond.code ({ cls := "java/lang/Math", name := "min", desc := "(DD)D" } : Jvm.MethodName) jdk_29_method_72_code (4 : Nat) (Option.some Jvm.ClassFile.FieldType.double)).before args0 about1 = true := code_word (m := ⟨2, 5⟩) (meth := k2m5) (c := k2c5) (by decide +kernel) rfl rfl rfl (by decide +kernel)
def codes1 : List Jvm.Cond := [Jvm.Cond.code x code maxLocals ret, Jvm.Cond.code ({ cls := "java/lang/Math", name := "min", desc := "(II)I" } : Jvm.MethodName) jdk_29_method_69_code (2 : Nat) (Option.some Jvm.ClassFile.FieldType.int), Jvm.Cond.code ({ cls := "com/example/hashmesh/hashmesh/mesh/Congestion", name := "<init>", desc := "()V" } : Jvm.MethodName) prog_61_method_1_code (1 : Nat) (Option.none : Option Jvm.ClassFile.FieldType), Jvm.Cond.code ({ cls := "java/lang/Object", name := "<init>", desc := "()V" } : Jvm.MethodName) object_method_1_code (1 : Nat) (Option.none : Option Jvm.ClassFile.FieldType), Jvm.Cond.code ({ cls := "com/example/hashmesh/hashmesh/mesh/Congestion", name := "measured", desc := "(J)V" } : Jvm.MethodName) prog_61_method_8_code (3 : Nat) (Option.none : Option Jvm.ClassFile.FieldType), Jvm.Cond.code ({ cls := "java/lang/Math", name := "min", desc := "(JJ)J" } : Jvm.MethodName) jdk_29_method_70_code (4 : Nat) (Option.some Jvm.ClassFile.FieldType.long), Jvm.Cond.code ({ cls := "java/lang/Math", name := "abs", desc := "(J)J" } : Jvm.MethodName) jdk_29_method_61_code (2 : Nat) (Option.some Jvm.ClassFile.FieldType.long), Jvm.Cond.code ({ cls := "com/example/hashmesh/hashmesh/mesh/Congestion", name := "timedOut", desc := "()V" } : Jvm.MethodName) prog_61_method_7_code (1 : Nat) (Option.none : Option Jvm.ClassFile.FieldType), Jvm.Cond.code ({ cls := "com/example/hashmesh/hashmesh/mesh/Congestion", name := "queueShows", desc := "()Z" } : Jvm.MethodName) prog_61_method_11_code (4 : Nat) (Option.some Jvm.ClassFile.FieldType.boolean), Jvm.Cond.code ({ cls := "java/lang/Math", name := "max", desc := "(DD)D" } : Jvm.MethodName) jdk_29_method_68_code (4 : Nat) (Option.some Jvm.ClassFile.FieldType.double), Jvm.Cond.code ({ cls := "com/example/hashmesh/hashmesh/mesh/Congestion", name := "hasRoom", desc := "()Z" } : Jvm.MethodName) prog_61_method_2_code (1 : Nat) (Option.some Jvm.ClassFile.FieldType.boolean), Jvm.Cond.code ({ cls := "com/example/hashmesh/hashmesh/mesh/Congestion", name := "sent", desc := "(J)J" } : Jvm.MethodName) prog_61_method_4_code (5 : Nat) (Option.some Jvm.ClassFile.FieldType.long), Jvm.Cond.code ({ cls := "com/example/hashmesh/hashmesh/mesh/Congestion", name := "taken", desc := "(J)V" } : Jvm.MethodName) prog_61_method_5_code (3 : Nat) (Option.none : Option Jvm.ClassFile.FieldType), Jvm.Cond.code ({ cls := "java/lang/Math", name := "min", desc := "(DD)D" } : Jvm.MethodName) jdk_29_method_72_code (4 : Nat) (Option.some Jvm.ClassFile.FieldType.double)]
set_option maxRecDepth 65536 in
theorem codes_eq : words1.filter isCode = codes1 := rfl
theorem w_codes : ∀ c ∈ words1.filter isCode, c.before args0 about1 = true := by
  rw [codes_eq]
  intro c hc
  simp only [codes1, List.mem_cons, List.not_mem_nil, or_false] at hc
  rcases hc with rfl | rfl | rfl | rfl | rfl | rfl | rfl | rfl | rfl | rfl | rfl | rfl | rfl | rfl
  · exact w_c0
  · exact w_c1
  · exact w_c2
  · exact w_c3
  · exact w_c4
  · exact w_c5
  · exact w_c6
  · exact w_c7
  · exact w_c8
  · exact w_c9
  · exact w_c10
  · exact w_c11
  · exact w_c12
  · exact w_c13
set_option maxRecDepth 65536 in
theorem w_t1 : (words1.take 24).all (fun c => isCode c || c.before args0 about1) = true := by decide +kernel
set_option maxRecDepth 65536 in
theorem w_t2 : ((words1.drop 24).take 24).all (fun c => isCode c || c.before args0 about1) = true := by decide +kernel
set_option maxRecDepth 65536 in
theorem w_t3 : (((words1.drop 24).drop 24).take 24).all (fun c => isCode c || c.before args0 about1) = true := by decide +kernel
set_option maxRecDepth 65536 in
theorem w_t4 : ((((words1.drop 24).drop 24).drop 24).take 24).all (fun c => isCode c || c.before args0 about1) = true := by decide +kernel
set_option maxRecDepth 65536 in
theorem w_t5 : ((((words1.drop 24).drop 24).drop 24).drop 24).all (fun c => isCode c || c.before args0 about1) = true := by decide +kernel
theorem w_tables : (allAtoms (Jvm.Cond.code x code maxLocals ret :: tables_1)).before args0 about1 = true := by
  rw [allAtoms_all]
  show words1.all (fun c => c.before args0 about1) = true
  refine all_split ?_ w_codes
  rw [← List.take_append_drop 24 words1, List.all_append, w_t1, ← List.take_append_drop 24 (words1.drop 24), List.all_append, w_t2, ← List.take_append_drop 24 ((words1.drop 24).drop 24), List.all_append, w_t3, ← List.take_append_drop 24 (((words1.drop 24).drop 24).drop 24), List.all_append, w_t4, w_t5]
  rfl
set_option maxRecDepth 65536 in
theorem w_case : (Jvm.Cond.and given_1 narrow_1).before args0 about1 = true := by decide +kernel
theorem w_applies : (headSpec (Jvm.Cond.code x code maxLocals ret :: tables_1) room_1).applies x e0.platform about1 = true :=
  (Spec.applies_iff w_frames).mpr ⟨w_running, w_runnable, w_alone, w_named, w_hears, w_ripe, w_room, w_tables⟩
theorem atStart : AtStart classFile x code maxLocals ret World_1 tables_1 room_1 Calls_1 rest_1 Pre_1 launch0 p0 e0 about1 theMethod args0 below0 :=
  ⟨lists_1, trivial, launch0.admits_env _ _ _, launch0.least_env, fairChoices_fair.cas, fairChoices_fair.clock, w_frames, w_args, w_heap, w_applies, trivial, trivial, w_case⟩
end start1
theorem witness_1 : WitnessClaimed_1 := ⟨start1.p0, start1.e0, start1.about1, start1.theMethod, start1.args0, start1.below0, start1.atStart⟩
end Jvm.Pilot.@@N@@
