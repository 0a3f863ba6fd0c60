import JvmDerived
import JvmDerived.Pilot.@@N@@Statement
import JvmDerived.Pilot.@@N@@Code
set_option linter.unusedVariables false
set_option linter.unusedSimpArgs false
namespace Jvm.RoadKit
open Sem ClassFile Op Lib Jvm.Stand Jvm.Free Jvm.LawKit
section New
variable {p : Program} {l : Launch} {e : Env} {R : Room} {s : State} {m : MethodId} {args : Array Value} {below : List Frame} {meth : Method} {c : Code} {T : State} {locs : List Loc} {cells slots : Nat}
theorem retI (X : Stand p l e R s m args below meth c T locs cells slots) (hx : p.tables.exec = Jvm.exec) {pc : Nat} {Ls : Array Slot} {z : Int32} {rest : List Value} (hret : meth.sig.returnType = some .int) (hd : decode c.code pc = .ok (.ireturn, 1)) {fs : List Frame}
    (hl : ∀ (f : JFrame) (acts : List Action), f.method = m → f.locked = none → f.entered = [] → (doReturn e (T.setTop f) acts (some (.int z))).1 = T.setFrames fs) : Steps p.tables e below (T.setTop (mkF m pc Ls (.int z :: rest))) (T.setFrames fs) := by
  have hm' : T.vm.method? m = some meth := X.method'
  have hn : narrow .int (.int z) = .int z := rfl
  show Steps p.tables e below (T.setTop { method := m, pc := pc, locals := Ls, stack := _ :: rest, locked := none }) _
  jvm_step X.here [X.here.top, hx, hd, hm', hret, hn]
  first | (intro acts; rw [hl _ acts rfl rfl rfl]) | rw [hl _ _ rfl rfl rfl]
  exact Steps.refl _
end New
end Jvm.RoadKit
namespace Jvm.Pilot.@@N@@
open Jvm Jvm.ClassFile Sem Op Lib Jvm.Free Jvm.Stand Jvm.LawKit Jvm.RoadKit Bundle Jvm.Pilot.@@N@@.Jvm.D
def own_o (a x y z : Addr) : Int32 := if a = x then 1 else if a = y then 1 else if a = z then 1 else 0
theorem own_fld {args : Array Value} {s : State} {t r : Term} {C n d : String} {a : Addr} {v : Value} (ht : t.eval args s none [] s = some (.ref a)) (hr : r.eval args s none [] s = some v) (h : (Jvm.Cond.eq (.field t C n d) r).value args s none s [] = some true) : s.fieldOf? a C n d = some v := by
  obtain ⟨x, y, h1, h2, hk, -⟩ := cmp_v (Or.inl h)
  have e1 : s.fieldOf? a C n d = some x := (fld_at ht).symm.trans h1
  cases hr.symm.trans h2
  rw [e1]
  simp only [Cond.value, h1, hr] at h
  cases x <;> cases v <;> simp_all [Kin, Value.isRef]
theorem own_8 (x : Int32) : x &&& 7 = 0 ∨ x &&& 7 = 1 ∨ x &&& 7 = 2 ∨ x &&& 7 = 3 ∨ x &&& 7 = 4 ∨ x &&& 7 = 5 ∨ x &&& 7 = 6 ∨ x &&& 7 = 7 := by
  have e := c_mask x 7 3 (by decide) (by decide)
  simp only [← Int32.toInt_inj, show (0 : Int32).toInt = 0 from rfl, show (1 : Int32).toInt = 1 from rfl, show (2 : Int32).toInt = 2 from rfl, show (3 : Int32).toInt = 3 from rfl, show (4 : Int32).toInt = 4 from rfl, show (5 : Int32).toInt = 5 from rfl, show (6 : Int32).toInt = 6 from rfl, show (7 : Int32).toInt = 7 from rfl]
  omega
theorem d1_0 : decode method_3_code 0 = .ok (.iload_n 0, 1) := by decide +kernel
theorem d1_1 : decode method_3_code 1 = .ok (.ifCond .ne 7, 3) := by decide +kernel
theorem d1_4 : decode method_3_code 4 = .ok (.getstatic 19, 3) := by decide +kernel
theorem d1_7 : decode method_3_code 7 = .ok (.areturn, 1) := by decide +kernel
theorem pn_com_example_querent_querent_translation_AggregationIsOptionalPinLaw : plainName "com/example/querent/querent/translation/AggregationIsOptionalPinLaw" = true := by first | (simp [plainName, overriddenIn]; done) | decide +kernel
theorem ef_1_k0 (m : MethodId) : entryFrame m #[(.int (0 : Int32))] 1 = mkF m 0 #[.val (.int (0 : Int32))] [] := by first | (simp [entryFrame, mkF, argsToLocals, Value.category]; done) | rfl
def Q1_k0 (Z : State) (s_COUNT : Addr) (h0 : Heap) (n0 : Nat) (v : Option Value) (h : Heap) (L : List Loc) : Prop := v = some (.ref s_COUNT) ∧ Fr n0 L ∧ h = h0
set_option maxRecDepth 65536 in
set_option maxHeartbeats 40000000 in
theorem rm1_k0 (l : Launch) (Z : State) (a0 : Array Value) (hw : ∀ d ∈ tables_1, d.before a0 Z = true) (ws : List Jvm.Cond) (s_COUNT : Addr) (h0 : Heap) (n0 : Nat) (O0 : Old Z n0 h0) (S_s_COUNT : Sta Z Z.heap "com/example/querent/querent/translation/Aggregation" "COUNT" "Lcom/example/querent/querent/translation/Aggregation;" (.ref s_COUNT)) :
    MetFree l (⟨"com/example/querent/querent/translation/AggregationIsOptionalPinLaw", "pick", "(I)Lcom/example/querent/querent/translation/Aggregation;"⟩ : MethodName) (head1 (Jvm.Cond.code (⟨"com/example/querent/querent/translation/AggregationIsOptionalPinLaw", "pick", "(I)Lcom/example/querent/querent/translation/Aggregation;"⟩ : MethodName) method_3_code 1 (some (.object "com/example/querent/querent/translation/Aggregation")) :: ws) ({ frames := 0, cells := 0, slots := 0, locals := 0 } : Room)) (fun aA uU => aA = #[(.int (0 : Int32))] ∧ Z.Warmed39 uU.vm ∧ uU.heap = h0) (fun _ _ _ _ _ => True) (fun _ uU oO uU' => ∃ vV lL, oO = .returned vV ∧ Q1_k0 Z  s_COUNT h0 n0 vV uU'.heap lL ∧ FrameEnd uU oO uU' lL ({ frames := 0, cells := 0, slots := 0, locals := 0 } : Room).cells ({ frames := 0, cells := 0, slots := 0, locals := 0 } : Room).slots) := by
  refine MetFree.of_bodySF (plainFor_of_name pn_com_example_querent_querent_translation_AggregationIsOptionalPinLaw) hisR ?_
  intro p e s m args below meth c s₁ Bd hml0 hP hK
  obtain ⟨rfl, hZ, hh⟩ := hP
  have hx := Bd.exec
  have hby := Bd.bytes
  have hml : c.maxLocals = 1 := hml0
  have hown : s.vm.findClass "com/example/querent/querent/translation/AggregationIsOptionalPinLaw" = some m.cls := findClass_of_methodNamed Bd.named
  have hnm := (name_of_methodNamed Bd.named Bd.method).1
  have X0 : Stand p l e ({ frames := 0, cells := 0, slots := 0, locals := 0 } : Room) s m #[(.int (0 : Int32))] below meth c s₁ [] 0 0 := Stand.of_body Bd
  have e0 : s₁.heap = h0 := by rw [← hh, Bd.state]; rfl
  have N0 := Fr.nil n0
  have O := O0
  have pre0 : ∀ t, Steps p.tables e below (s₁.setTop (mkF m 0 #[.val (.int (0 : Int32))] [])) t → Steps p.tables e below (s₁.setTop (entryFrame m #[(.int (0 : Int32))] 1)) t := fun t k => castTop (ef_1_k0 m ) k
  obtain ⟨T1, X1, e1, st1⟩ := getS2 X0 hx hZ hown (host := "") (Or.inl (hw _ (List.mem_of_getElem? (i := 4) rfl))) Via.refl e0 (S_s_COUNT.ext O.2) (g := (mkF m 4 #[.val (.int (0 : Int32))] [])) rfl (hb hby d1_4)
  have w2 : ∀ t, Steps p.tables e below (T1.setTop (mkF m 7 #[.val (.int (0 : Int32))] [(.ref s_COUNT)])) t → Steps p.tables e below (s₁.setTop (entryFrame m #[(.int (0 : Int32))] 1)) t := fun t k => by
    refine pre0 t ?_
    refine XS.iloadN X0.here hx rfl (hb hby d1_0) rfl ?_
    show Steps p.tables e below (s₁.setTop (mkF m 1 #[.val (.int (0 : Int32))] [(.int (0 : Int32))])) _
    refine XS.ifNo X0.here hx rfl (hb hby d1_1) rfl ((if0 _ _).trans (teq (rfl : (0 : Int32) = (0 : Int32))).2) ?_
    show Steps p.tables e below (s₁.setTop (mkF m 4 #[.val (.int (0 : Int32))] [])) _
    refine st1 _ ?_
    show Steps p.tables e below (T1.setTop (mkF m 7 #[.val (.int (0 : Int32))] [(.ref s_COUNT)])) _
    exact k
  obtain ⟨fs, hr, hrun, hended, hW, hsame⟩ := X1.leave (v := some (.ref s_COUNT)) (fun h => by rw [Bd.returns] at h; cases h)
  refine ⟨_, _, w2 _ ?_, hrun, hended, _, _, rfl, ?_, ⟨_, rfl⟩, hW, hsame.mono (by decide) (by decide)⟩
  · jvm_step X1.here [X1.here.top, hx, (hb hby d1_7), X1.method', Bd.returns, Value.isRef, FieldType.isReference]
    first | (intro acts; rw [hr _ acts rfl rfl rfl]) | rw [hr _ _ rfl rfl rfl]
    exact Steps.refl _
  · show Q1_k0 Z  s_COUNT h0 n0 _ T1.heap _
    rw [e1]
    exact ⟨rfl, N0, rfl⟩
theorem d1_8 : decode method_3_code 8 = .ok (.iload_n 0, 1) := by decide +kernel
theorem d1_9 : decode method_3_code 9 = .ok (.iconst 1, 1) := by decide +kernel
theorem d1_10 : decode method_3_code 10 = .ok (.if_icmp .ne 7, 3) := by decide +kernel
theorem d1_13 : decode method_3_code 13 = .ok (.getstatic 23, 3) := by decide +kernel
theorem d1_16 : decode method_3_code 16 = .ok (.areturn, 1) := by decide +kernel
theorem ef_1_k1 (m : MethodId) : entryFrame m #[(.int (1 : Int32))] 1 = mkF m 0 #[.val (.int (1 : Int32))] [] := by first | (simp [entryFrame, mkF, argsToLocals, Value.category]; done) | rfl
def Q1_k1 (Z : State) (s_SUM_INTEGER : Addr) (h0 : Heap) (n0 : Nat) (v : Option Value) (h : Heap) (L : List Loc) : Prop := v = some (.ref s_SUM_INTEGER) ∧ Fr n0 L ∧ h = h0
set_option maxRecDepth 65536 in
set_option maxHeartbeats 40000000 in
theorem rm1_k1 (l : Launch) (Z : State) (a0 : Array Value) (hw : ∀ d ∈ tables_1, d.before a0 Z = true) (ws : List Jvm.Cond) (s_SUM_INTEGER : Addr) (h0 : Heap) (n0 : Nat) (O0 : Old Z n0 h0) (S_s_SUM_INTEGER : Sta Z Z.heap "com/example/querent/querent/translation/Aggregation" "SUM_INTEGER" "Lcom/example/querent/querent/translation/Aggregation;" (.ref s_SUM_INTEGER)) :
    MetFree l (⟨"com/example/querent/querent/translation/AggregationIsOptionalPinLaw", "pick", "(I)Lcom/example/querent/querent/translation/Aggregation;"⟩ : MethodName) (head1 (Jvm.Cond.code (⟨"com/example/querent/querent/translation/AggregationIsOptionalPinLaw", "pick", "(I)Lcom/example/querent/querent/translation/Aggregation;"⟩ : MethodName) method_3_code 1 (some (.object "com/example/querent/querent/translation/Aggregation")) :: ws) ({ frames := 0, cells := 0, slots := 0, locals := 0 } : Room)) (fun aA uU => aA = #[(.int (1 : Int32))] ∧ Z.Warmed39 uU.vm ∧ uU.heap = h0) (fun _ _ _ _ _ => True) (fun _ uU oO uU' => ∃ vV lL, oO = .returned vV ∧ Q1_k1 Z  s_SUM_INTEGER h0 n0 vV uU'.heap lL ∧ FrameEnd uU oO uU' lL ({ frames := 0, cells := 0, slots := 0, locals := 0 } : Room).cells ({ frames := 0, cells := 0, slots := 0, locals := 0 } : Room).slots) := by
  refine MetFree.of_bodySF (plainFor_of_name pn_com_example_querent_querent_translation_AggregationIsOptionalPinLaw) hisR ?_
  intro p e s m args below meth c s₁ Bd hml0 hP hK
  obtain ⟨rfl, hZ, hh⟩ := hP
  have hx := Bd.exec
  have hby := Bd.bytes
  have hml : c.maxLocals = 1 := hml0
  have hown : s.vm.findClass "com/example/querent/querent/translation/AggregationIsOptionalPinLaw" = some m.cls := findClass_of_methodNamed Bd.named
  have hnm := (name_of_methodNamed Bd.named Bd.method).1
  have X0 : Stand p l e ({ frames := 0, cells := 0, slots := 0, locals := 0 } : Room) s m #[(.int (1 : Int32))] below meth c s₁ [] 0 0 := Stand.of_body Bd
  have e0 : s₁.heap = h0 := by rw [← hh, Bd.state]; rfl
  have N0 := Fr.nil n0
  have O := O0
  have pre0 : ∀ t, Steps p.tables e below (s₁.setTop (mkF m 0 #[.val (.int (1 : Int32))] [])) t → Steps p.tables e below (s₁.setTop (entryFrame m #[(.int (1 : Int32))] 1)) t := fun t k => castTop (ef_1_k1 m ) k
  obtain ⟨T1, X1, e1, st1⟩ := getS2 X0 hx hZ hown (host := "") (Or.inl (hw _ (List.mem_of_getElem? (i := 24) rfl))) Via.refl e0 (S_s_SUM_INTEGER.ext O.2) (g := (mkF m 13 #[.val (.int (1 : Int32))] [])) rfl (hb hby d1_13)
  have w2 : ∀ t, Steps p.tables e below (T1.setTop (mkF m 16 #[.val (.int (1 : Int32))] [(.ref s_SUM_INTEGER)])) t → Steps p.tables e below (s₁.setTop (entryFrame m #[(.int (1 : Int32))] 1)) t := fun t k => by
    refine pre0 t ?_
    refine XS.iloadN X0.here hx rfl (hb hby d1_0) rfl ?_
    show Steps p.tables e below (s₁.setTop (mkF m 1 #[.val (.int (1 : Int32))] [(.int (1 : Int32))])) _
    refine XS.ifYes X0.here hx rfl (pc0 := 1) (pc' := 8) rfl (hb hby d1_1) rfl ((if0 _ _).trans (feq ((by decide) : ¬ ((1 : Int32) = (0 : Int32)))).2) (by decide) (by decide) ?_
    show Steps p.tables e below (s₁.setTop (mkF m 8 #[.val (.int (1 : Int32))] [])) _
    refine XS.iloadN X0.here hx rfl (hb hby d1_8) rfl ?_
    show Steps p.tables e below (s₁.setTop (mkF m 9 #[.val (.int (1 : Int32))] [(.int (1 : Int32))])) _
    refine XS.iconst X0.here hx rfl (hb hby d1_9) ?_
    show Steps p.tables e below (s₁.setTop (mkF m 10 #[.val (.int (1 : Int32))] [(.int (1 : Int32)), (.int (1 : Int32))])) _
    refine XS.icmpNo X0.here hx rfl (hb hby d1_10) rfl (teq (rfl : (1 : Int32) = (1 : Int32))).2 ?_
    show Steps p.tables e below (s₁.setTop (mkF m 13 #[.val (.int (1 : Int32))] [])) _
    refine st1 _ ?_
    show Steps p.tables e below (T1.setTop (mkF m 16 #[.val (.int (1 : Int32))] [(.ref s_SUM_INTEGER)])) _
    exact k
  obtain ⟨fs, hr, hrun, hended, hW, hsame⟩ := X1.leave (v := some (.ref s_SUM_INTEGER)) (fun h => by rw [Bd.returns] at h; cases h)
  refine ⟨_, _, w2 _ ?_, hrun, hended, _, _, rfl, ?_, ⟨_, rfl⟩, hW, hsame.mono (by decide) (by decide)⟩
  · jvm_step X1.here [X1.here.top, hx, (hb hby d1_16), X1.method', Bd.returns, Value.isRef, FieldType.isReference]
    first | (intro acts; rw [hr _ acts rfl rfl rfl]) | rw [hr _ _ rfl rfl rfl]
    exact Steps.refl _
  · show Q1_k1 Z  s_SUM_INTEGER h0 n0 _ T1.heap _
    rw [e1]
    exact ⟨rfl, N0, rfl⟩
theorem d1_17 : decode method_3_code 17 = .ok (.iload_n 0, 1) := by decide +kernel
theorem d1_18 : decode method_3_code 18 = .ok (.iconst 2, 1) := by decide +kernel
theorem d1_19 : decode method_3_code 19 = .ok (.if_icmp .ne 7, 3) := by decide +kernel
theorem d1_22 : decode method_3_code 22 = .ok (.getstatic 26, 3) := by decide +kernel
theorem d1_25 : decode method_3_code 25 = .ok (.areturn, 1) := by decide +kernel
theorem ef_1_k2 (m : MethodId) : entryFrame m #[(.int (2 : Int32))] 1 = mkF m 0 #[.val (.int (2 : Int32))] [] := by first | (simp [entryFrame, mkF, argsToLocals, Value.category]; done) | rfl
def Q1_k2 (Z : State) (s_SUM_LONG : Addr) (h0 : Heap) (n0 : Nat) (v : Option Value) (h : Heap) (L : List Loc) : Prop := v = some (.ref s_SUM_LONG) ∧ Fr n0 L ∧ h = h0
set_option maxRecDepth 65536 in
set_option maxHeartbeats 40000000 in
theorem rm1_k2 (l : Launch) (Z : State) (a0 : Array Value) (hw : ∀ d ∈ tables_1, d.before a0 Z = true) (ws : List Jvm.Cond) (s_SUM_LONG : Addr) (h0 : Heap) (n0 : Nat) (O0 : Old Z n0 h0) (S_s_SUM_LONG : Sta Z Z.heap "com/example/querent/querent/translation/Aggregation" "SUM_LONG" "Lcom/example/querent/querent/translation/Aggregation;" (.ref s_SUM_LONG)) :
    MetFree l (⟨"com/example/querent/querent/translation/AggregationIsOptionalPinLaw", "pick", "(I)Lcom/example/querent/querent/translation/Aggregation;"⟩ : MethodName) (head1 (Jvm.Cond.code (⟨"com/example/querent/querent/translation/AggregationIsOptionalPinLaw", "pick", "(I)Lcom/example/querent/querent/translation/Aggregation;"⟩ : MethodName) method_3_code 1 (some (.object "com/example/querent/querent/translation/Aggregation")) :: ws) ({ frames := 0, cells := 0, slots := 0, locals := 0 } : Room)) (fun aA uU => aA = #[(.int (2 : Int32))] ∧ Z.Warmed39 uU.vm ∧ uU.heap = h0) (fun _ _ _ _ _ => True) (fun _ uU oO uU' => ∃ vV lL, oO = .returned vV ∧ Q1_k2 Z  s_SUM_LONG h0 n0 vV uU'.heap lL ∧ FrameEnd uU oO uU' lL ({ frames := 0, cells := 0, slots := 0, locals := 0 } : Room).cells ({ frames := 0, cells := 0, slots := 0, locals := 0 } : Room).slots) := by
  refine MetFree.of_bodySF (plainFor_of_name pn_com_example_querent_querent_translation_AggregationIsOptionalPinLaw) hisR ?_
  intro p e s m args below meth c s₁ Bd hml0 hP hK
  obtain ⟨rfl, hZ, hh⟩ := hP
  have hx := Bd.exec
  have hby := Bd.bytes
  have hml : c.maxLocals = 1 := hml0
  have hown : s.vm.findClass "com/example/querent/querent/translation/AggregationIsOptionalPinLaw" = some m.cls := findClass_of_methodNamed Bd.named
  have hnm := (name_of_methodNamed Bd.named Bd.method).1
  have X0 : Stand p l e ({ frames := 0, cells := 0, slots := 0, locals := 0 } : Room) s m #[(.int (2 : Int32))] below meth c s₁ [] 0 0 := Stand.of_body Bd
  have e0 : s₁.heap = h0 := by rw [← hh, Bd.state]; rfl
  have N0 := Fr.nil n0
  have O := O0
  have pre0 : ∀ t, Steps p.tables e below (s₁.setTop (mkF m 0 #[.val (.int (2 : Int32))] [])) t → Steps p.tables e below (s₁.setTop (entryFrame m #[(.int (2 : Int32))] 1)) t := fun t k => castTop (ef_1_k2 m ) k
  obtain ⟨T1, X1, e1, st1⟩ := getS2 X0 hx hZ hown (host := "") (Or.inl (hw _ (List.mem_of_getElem? (i := 22) rfl))) Via.refl e0 (S_s_SUM_LONG.ext O.2) (g := (mkF m 22 #[.val (.int (2 : Int32))] [])) rfl (hb hby d1_22)
  have w2 : ∀ t, Steps p.tables e below (T1.setTop (mkF m 25 #[.val (.int (2 : Int32))] [(.ref s_SUM_LONG)])) t → Steps p.tables e below (s₁.setTop (entryFrame m #[(.int (2 : Int32))] 1)) t := fun t k => by
    refine pre0 t ?_
    refine XS.iloadN X0.here hx rfl (hb hby d1_0) rfl ?_
    show Steps p.tables e below (s₁.setTop (mkF m 1 #[.val (.int (2 : Int32))] [(.int (2 : Int32))])) _
    refine XS.ifYes X0.here hx rfl (pc0 := 1) (pc' := 8) rfl (hb hby d1_1) rfl ((if0 _ _).trans (feq ((by decide) : ¬ ((2 : Int32) = (0 : Int32)))).2) (by decide) (by decide) ?_
    show Steps p.tables e below (s₁.setTop (mkF m 8 #[.val (.int (2 : Int32))] [])) _
    refine XS.iloadN X0.here hx rfl (hb hby d1_8) rfl ?_
    show Steps p.tables e below (s₁.setTop (mkF m 9 #[.val (.int (2 : Int32))] [(.int (2 : Int32))])) _
    refine XS.iconst X0.here hx rfl (hb hby d1_9) ?_
    show Steps p.tables e below (s₁.setTop (mkF m 10 #[.val (.int (2 : Int32))] [(.int (1 : Int32)), (.int (2 : Int32))])) _
    refine XS.icmpYes X0.here hx rfl (pc0 := 10) (pc' := 17) rfl (hb hby d1_10) rfl (feq ((by decide) : ¬ ((2 : Int32) = (1 : Int32)))).2 (by decide) (by decide) ?_
    show Steps p.tables e below (s₁.setTop (mkF m 17 #[.val (.int (2 : Int32))] [])) _
    refine XS.iloadN X0.here hx rfl (hb hby d1_17) rfl ?_
    show Steps p.tables e below (s₁.setTop (mkF m 18 #[.val (.int (2 : Int32))] [(.int (2 : Int32))])) _
    refine XS.iconst X0.here hx rfl (hb hby d1_18) ?_
    show Steps p.tables e below (s₁.setTop (mkF m 19 #[.val (.int (2 : Int32))] [(.int (2 : Int32)), (.int (2 : Int32))])) _
    refine XS.icmpNo X0.here hx rfl (hb hby d1_19) rfl (teq (rfl : (2 : Int32) = (2 : Int32))).2 ?_
    show Steps p.tables e below (s₁.setTop (mkF m 22 #[.val (.int (2 : Int32))] [])) _
    refine st1 _ ?_
    show Steps p.tables e below (T1.setTop (mkF m 25 #[.val (.int (2 : Int32))] [(.ref s_SUM_LONG)])) _
    exact k
  obtain ⟨fs, hr, hrun, hended, hW, hsame⟩ := X1.leave (v := some (.ref s_SUM_LONG)) (fun h => by rw [Bd.returns] at h; cases h)
  refine ⟨_, _, w2 _ ?_, hrun, hended, _, _, rfl, ?_, ⟨_, rfl⟩, hW, hsame.mono (by decide) (by decide)⟩
  · jvm_step X1.here [X1.here.top, hx, (hb hby d1_25), X1.method', Bd.returns, Value.isRef, FieldType.isReference]
    first | (intro acts; rw [hr _ acts rfl rfl rfl]) | rw [hr _ _ rfl rfl rfl]
    exact Steps.refl _
  · show Q1_k2 Z  s_SUM_LONG h0 n0 _ T1.heap _
    rw [e1]
    exact ⟨rfl, N0, rfl⟩
theorem d1_26 : decode method_3_code 26 = .ok (.iload_n 0, 1) := by decide +kernel
theorem d1_27 : decode method_3_code 27 = .ok (.iconst 3, 1) := by decide +kernel
theorem d1_28 : decode method_3_code 28 = .ok (.if_icmp .ne 7, 3) := by decide +kernel
theorem d1_31 : decode method_3_code 31 = .ok (.getstatic 29, 3) := by decide +kernel
theorem d1_34 : decode method_3_code 34 = .ok (.areturn, 1) := by decide +kernel
theorem ef_1_k3 (m : MethodId) : entryFrame m #[(.int (3 : Int32))] 1 = mkF m 0 #[.val (.int (3 : Int32))] [] := by first | (simp [entryFrame, mkF, argsToLocals, Value.category]; done) | rfl
def Q1_k3 (Z : State) (s_SUM_DOUBLE : Addr) (h0 : Heap) (n0 : Nat) (v : Option Value) (h : Heap) (L : List Loc) : Prop := v = some (.ref s_SUM_DOUBLE) ∧ Fr n0 L ∧ h = h0
set_option maxRecDepth 65536 in
set_option maxHeartbeats 40000000 in
theorem rm1_k3 (l : Launch) (Z : State) (a0 : Array Value) (hw : ∀ d ∈ tables_1, d.before a0 Z = true) (ws : List Jvm.Cond) (s_SUM_DOUBLE : Addr) (h0 : Heap) (n0 : Nat) (O0 : Old Z n0 h0) (S_s_SUM_DOUBLE : Sta Z Z.heap "com/example/querent/querent/translation/Aggregation" "SUM_DOUBLE" "Lcom/example/querent/querent/translation/Aggregation;" (.ref s_SUM_DOUBLE)) :
    MetFree l (⟨"com/example/querent/querent/translation/AggregationIsOptionalPinLaw", "pick", "(I)Lcom/example/querent/querent/translation/Aggregation;"⟩ : MethodName) (head1 (Jvm.Cond.code (⟨"com/example/querent/querent/translation/AggregationIsOptionalPinLaw", "pick", "(I)Lcom/example/querent/querent/translation/Aggregation;"⟩ : MethodName) method_3_code 1 (some (.object "com/example/querent/querent/translation/Aggregation")) :: ws) ({ frames := 0, cells := 0, slots := 0, locals := 0 } : Room)) (fun aA uU => aA = #[(.int (3 : Int32))] ∧ Z.Warmed39 uU.vm ∧ uU.heap = h0) (fun _ _ _ _ _ => True) (fun _ uU oO uU' => ∃ vV lL, oO = .returned vV ∧ Q1_k3 Z  s_SUM_DOUBLE h0 n0 vV uU'.heap lL ∧ FrameEnd uU oO uU' lL ({ frames := 0, cells := 0, slots := 0, locals := 0 } : Room).cells ({ frames := 0, cells := 0, slots := 0, locals := 0 } : Room).slots) := by
  refine MetFree.of_bodySF (plainFor_of_name pn_com_example_querent_querent_translation_AggregationIsOptionalPinLaw) hisR ?_
  intro p e s m args below meth c s₁ Bd hml0 hP hK
  obtain ⟨rfl, hZ, hh⟩ := hP
  have hx := Bd.exec
  have hby := Bd.bytes
  have hml : c.maxLocals = 1 := hml0
  have hown : s.vm.findClass "com/example/querent/querent/translation/AggregationIsOptionalPinLaw" = some m.cls := findClass_of_methodNamed Bd.named
  have hnm := (name_of_methodNamed Bd.named Bd.method).1
  have X0 : Stand p l e ({ frames := 0, cells := 0, slots := 0, locals := 0 } : Room) s m #[(.int (3 : Int32))] below meth c s₁ [] 0 0 := Stand.of_body Bd
  have e0 : s₁.heap = h0 := by rw [← hh, Bd.state]; rfl
  have N0 := Fr.nil n0
  have O := O0
  have pre0 : ∀ t, Steps p.tables e below (s₁.setTop (mkF m 0 #[.val (.int (3 : Int32))] [])) t → Steps p.tables e below (s₁.setTop (entryFrame m #[(.int (3 : Int32))] 1)) t := fun t k => castTop (ef_1_k3 m ) k
  obtain ⟨T1, X1, e1, st1⟩ := getS2 X0 hx hZ hown (host := "") (Or.inl (hw _ (List.mem_of_getElem? (i := 18) rfl))) Via.refl e0 (S_s_SUM_DOUBLE.ext O.2) (g := (mkF m 31 #[.val (.int (3 : Int32))] [])) rfl (hb hby d1_31)
  have w2 : ∀ t, Steps p.tables e below (T1.setTop (mkF m 34 #[.val (.int (3 : Int32))] [(.ref s_SUM_DOUBLE)])) t → Steps p.tables e below (s₁.setTop (entryFrame m #[(.int (3 : Int32))] 1)) t := fun t k => by
    refine pre0 t ?_
    refine XS.iloadN X0.here hx rfl (hb hby d1_0) rfl ?_
    show Steps p.tables e below (s₁.setTop (mkF m 1 #[.val (.int (3 : Int32))] [(.int (3 : Int32))])) _
    refine XS.ifYes X0.here hx rfl (pc0 := 1) (pc' := 8) rfl (hb hby d1_1) rfl ((if0 _ _).trans (feq ((by decide) : ¬ ((3 : Int32) = (0 : Int32)))).2) (by decide) (by decide) ?_
    show Steps p.tables e below (s₁.setTop (mkF m 8 #[.val (.int (3 : Int32))] [])) _
    refine XS.iloadN X0.here hx rfl (hb hby d1_8) rfl ?_
    show Steps p.tables e below (s₁.setTop (mkF m 9 #[.val (.int (3 : Int32))] [(.int (3 : Int32))])) _
    refine XS.iconst X0.here hx rfl (hb hby d1_9) ?_
    show Steps p.tables e below (s₁.setTop (mkF m 10 #[.val (.int (3 : Int32))] [(.int (1 : Int32)), (.int (3 : Int32))])) _
    refine XS.icmpYes X0.here hx rfl (pc0 := 10) (pc' := 17) rfl (hb hby d1_10) rfl (feq ((by decide) : ¬ ((3 : Int32) = (1 : Int32)))).2 (by decide) (by decide) ?_
    show Steps p.tables e below (s₁.setTop (mkF m 17 #[.val (.int (3 : Int32))] [])) _
    refine XS.iloadN X0.here hx rfl (hb hby d1_17) rfl ?_
    show Steps p.tables e below (s₁.setTop (mkF m 18 #[.val (.int (3 : Int32))] [(.int (3 : Int32))])) _
    refine XS.iconst X0.here hx rfl (hb hby d1_18) ?_
    show Steps p.tables e below (s₁.setTop (mkF m 19 #[.val (.int (3 : Int32))] [(.int (2 : Int32)), (.int (3 : Int32))])) _
    refine XS.icmpYes X0.here hx rfl (pc0 := 19) (pc' := 26) rfl (hb hby d1_19) rfl (feq ((by decide) : ¬ ((3 : Int32) = (2 : Int32)))).2 (by decide) (by decide) ?_
    show Steps p.tables e below (s₁.setTop (mkF m 26 #[.val (.int (3 : Int32))] [])) _
    refine XS.iloadN X0.here hx rfl (hb hby d1_26) rfl ?_
    show Steps p.tables e below (s₁.setTop (mkF m 27 #[.val (.int (3 : Int32))] [(.int (3 : Int32))])) _
    refine XS.iconst X0.here hx rfl (hb hby d1_27) ?_
    show Steps p.tables e below (s₁.setTop (mkF m 28 #[.val (.int (3 : Int32))] [(.int (3 : Int32)), (.int (3 : Int32))])) _
    refine XS.icmpNo X0.here hx rfl (hb hby d1_28) rfl (teq (rfl : (3 : Int32) = (3 : Int32))).2 ?_
    show Steps p.tables e below (s₁.setTop (mkF m 31 #[.val (.int (3 : Int32))] [])) _
    refine st1 _ ?_
    show Steps p.tables e below (T1.setTop (mkF m 34 #[.val (.int (3 : Int32))] [(.ref s_SUM_DOUBLE)])) _
    exact k
  obtain ⟨fs, hr, hrun, hended, hW, hsame⟩ := X1.leave (v := some (.ref s_SUM_DOUBLE)) (fun h => by rw [Bd.returns] at h; cases h)
  refine ⟨_, _, w2 _ ?_, hrun, hended, _, _, rfl, ?_, ⟨_, rfl⟩, hW, hsame.mono (by decide) (by decide)⟩
  · jvm_step X1.here [X1.here.top, hx, (hb hby d1_34), X1.method', Bd.returns, Value.isRef, FieldType.isReference]
    first | (intro acts; rw [hr _ acts rfl rfl rfl]) | rw [hr _ _ rfl rfl rfl]
    exact Steps.refl _
  · show Q1_k3 Z  s_SUM_DOUBLE h0 n0 _ T1.heap _
    rw [e1]
    exact ⟨rfl, N0, rfl⟩
theorem d1_35 : decode method_3_code 35 = .ok (.iload_n 0, 1) := by decide +kernel
theorem d1_36 : decode method_3_code 36 = .ok (.iconst 4, 1) := by decide +kernel
theorem d1_37 : decode method_3_code 37 = .ok (.if_icmp .ne 7, 3) := by decide +kernel
theorem d1_40 : decode method_3_code 40 = .ok (.getstatic 32, 3) := by decide +kernel
theorem d1_43 : decode method_3_code 43 = .ok (.areturn, 1) := by decide +kernel
theorem ef_1_k4 (m : MethodId) : entryFrame m #[(.int (4 : Int32))] 1 = mkF m 0 #[.val (.int (4 : Int32))] [] := by first | (simp [entryFrame, mkF, argsToLocals, Value.category]; done) | rfl
def Q1_k4 (Z : State) (s_SUM_BIG_DECIMAL : Addr) (h0 : Heap) (n0 : Nat) (v : Option Value) (h : Heap) (L : List Loc) : Prop := v = some (.ref s_SUM_BIG_DECIMAL) ∧ Fr n0 L ∧ h = h0
set_option maxRecDepth 65536 in
set_option maxHeartbeats 40000000 in
theorem rm1_k4 (l : Launch) (Z : State) (a0 : Array Value) (hw : ∀ d ∈ tables_1, d.before a0 Z = true) (ws : List Jvm.Cond) (s_SUM_BIG_DECIMAL : Addr) (h0 : Heap) (n0 : Nat) (O0 : Old Z n0 h0) (S_s_SUM_BIG_DECIMAL : Sta Z Z.heap "com/example/querent/querent/translation/Aggregation" "SUM_BIG_DECIMAL" "Lcom/example/querent/querent/translation/Aggregation;" (.ref s_SUM_BIG_DECIMAL)) :
    MetFree l (⟨"com/example/querent/querent/translation/AggregationIsOptionalPinLaw", "pick", "(I)Lcom/example/querent/querent/translation/Aggregation;"⟩ : MethodName) (head1 (Jvm.Cond.code (⟨"com/example/querent/querent/translation/AggregationIsOptionalPinLaw", "pick", "(I)Lcom/example/querent/querent/translation/Aggregation;"⟩ : MethodName) method_3_code 1 (some (.object "com/example/querent/querent/translation/Aggregation")) :: ws) ({ frames := 0, cells := 0, slots := 0, locals := 0 } : Room)) (fun aA uU => aA = #[(.int (4 : Int32))] ∧ Z.Warmed39 uU.vm ∧ uU.heap = h0) (fun _ _ _ _ _ => True) (fun _ uU oO uU' => ∃ vV lL, oO = .returned vV ∧ Q1_k4 Z  s_SUM_BIG_DECIMAL h0 n0 vV uU'.heap lL ∧ FrameEnd uU oO uU' lL ({ frames := 0, cells := 0, slots := 0, locals := 0 } : Room).cells ({ frames := 0, cells := 0, slots := 0, locals := 0 } : Room).slots) := by
  refine MetFree.of_bodySF (plainFor_of_name pn_com_example_querent_querent_translation_AggregationIsOptionalPinLaw) hisR ?_
  intro p e s m args below meth c s₁ Bd hml0 hP hK
  obtain ⟨rfl, hZ, hh⟩ := hP
  have hx := Bd.exec
  have hby := Bd.bytes
  have hml : c.maxLocals = 1 := hml0
  have hown : s.vm.findClass "com/example/querent/querent/translation/AggregationIsOptionalPinLaw" = some m.cls := findClass_of_methodNamed Bd.named
  have hnm := (name_of_methodNamed Bd.named Bd.method).1
  have X0 : Stand p l e ({ frames := 0, cells := 0, slots := 0, locals := 0 } : Room) s m #[(.int (4 : Int32))] below meth c s₁ [] 0 0 := Stand.of_body Bd
  have e0 : s₁.heap = h0 := by rw [← hh, Bd.state]; rfl
  have N0 := Fr.nil n0
  have O := O0
  have pre0 : ∀ t, Steps p.tables e below (s₁.setTop (mkF m 0 #[.val (.int (4 : Int32))] [])) t → Steps p.tables e below (s₁.setTop (entryFrame m #[(.int (4 : Int32))] 1)) t := fun t k => castTop (ef_1_k4 m ) k
  obtain ⟨T1, X1, e1, st1⟩ := getS2 X0 hx hZ hown (host := "") (Or.inl (hw _ (List.mem_of_getElem? (i := 26) rfl))) Via.refl e0 (S_s_SUM_BIG_DECIMAL.ext O.2) (g := (mkF m 40 #[.val (.int (4 : Int32))] [])) rfl (hb hby d1_40)
  have w2 : ∀ t, Steps p.tables e below (T1.setTop (mkF m 43 #[.val (.int (4 : Int32))] [(.ref s_SUM_BIG_DECIMAL)])) t → Steps p.tables e below (s₁.setTop (entryFrame m #[(.int (4 : Int32))] 1)) t := fun t k => by
    refine pre0 t ?_
    refine XS.iloadN X0.here hx rfl (hb hby d1_0) rfl ?_
    show Steps p.tables e below (s₁.setTop (mkF m 1 #[.val (.int (4 : Int32))] [(.int (4 : Int32))])) _
    refine XS.ifYes X0.here hx rfl (pc0 := 1) (pc' := 8) rfl (hb hby d1_1) rfl ((if0 _ _).trans (feq ((by decide) : ¬ ((4 : Int32) = (0 : Int32)))).2) (by decide) (by decide) ?_
    show Steps p.tables e below (s₁.setTop (mkF m 8 #[.val (.int (4 : Int32))] [])) _
    refine XS.iloadN X0.here hx rfl (hb hby d1_8) rfl ?_
    show Steps p.tables e below (s₁.setTop (mkF m 9 #[.val (.int (4 : Int32))] [(.int (4 : Int32))])) _
    refine XS.iconst X0.here hx rfl (hb hby d1_9) ?_
    show Steps p.tables e below (s₁.setTop (mkF m 10 #[.val (.int (4 : Int32))] [(.int (1 : Int32)), (.int (4 : Int32))])) _
    refine XS.icmpYes X0.here hx rfl (pc0 := 10) (pc' := 17) rfl (hb hby d1_10) rfl (feq ((by decide) : ¬ ((4 : Int32) = (1 : Int32)))).2 (by decide) (by decide) ?_
    show Steps p.tables e below (s₁.setTop (mkF m 17 #[.val (.int (4 : Int32))] [])) _
    refine XS.iloadN X0.here hx rfl (hb hby d1_17) rfl ?_
    show Steps p.tables e below (s₁.setTop (mkF m 18 #[.val (.int (4 : Int32))] [(.int (4 : Int32))])) _
    refine XS.iconst X0.here hx rfl (hb hby d1_18) ?_
    show Steps p.tables e below (s₁.setTop (mkF m 19 #[.val (.int (4 : Int32))] [(.int (2 : Int32)), (.int (4 : Int32))])) _
    refine XS.icmpYes X0.here hx rfl (pc0 := 19) (pc' := 26) rfl (hb hby d1_19) rfl (feq ((by decide) : ¬ ((4 : Int32) = (2 : Int32)))).2 (by decide) (by decide) ?_
    show Steps p.tables e below (s₁.setTop (mkF m 26 #[.val (.int (4 : Int32))] [])) _
    refine XS.iloadN X0.here hx rfl (hb hby d1_26) rfl ?_
    show Steps p.tables e below (s₁.setTop (mkF m 27 #[.val (.int (4 : Int32))] [(.int (4 : Int32))])) _
    refine XS.iconst X0.here hx rfl (hb hby d1_27) ?_
    show Steps p.tables e below (s₁.setTop (mkF m 28 #[.val (.int (4 : Int32))] [(.int (3 : Int32)), (.int (4 : Int32))])) _
    refine XS.icmpYes X0.here hx rfl (pc0 := 28) (pc' := 35) rfl (hb hby d1_28) rfl (feq ((by decide) : ¬ ((4 : Int32) = (3 : Int32)))).2 (by decide) (by decide) ?_
    show Steps p.tables e below (s₁.setTop (mkF m 35 #[.val (.int (4 : Int32))] [])) _
    refine XS.iloadN X0.here hx rfl (hb hby d1_35) rfl ?_
    show Steps p.tables e below (s₁.setTop (mkF m 36 #[.val (.int (4 : Int32))] [(.int (4 : Int32))])) _
    refine XS.iconst X0.here hx rfl (hb hby d1_36) ?_
    show Steps p.tables e below (s₁.setTop (mkF m 37 #[.val (.int (4 : Int32))] [(.int (4 : Int32)), (.int (4 : Int32))])) _
    refine XS.icmpNo X0.here hx rfl (hb hby d1_37) rfl (teq (rfl : (4 : Int32) = (4 : Int32))).2 ?_
    show Steps p.tables e below (s₁.setTop (mkF m 40 #[.val (.int (4 : Int32))] [])) _
    refine st1 _ ?_
    show Steps p.tables e below (T1.setTop (mkF m 43 #[.val (.int (4 : Int32))] [(.ref s_SUM_BIG_DECIMAL)])) _
    exact k
  obtain ⟨fs, hr, hrun, hended, hW, hsame⟩ := X1.leave (v := some (.ref s_SUM_BIG_DECIMAL)) (fun h => by rw [Bd.returns] at h; cases h)
  refine ⟨_, _, w2 _ ?_, hrun, hended, _, _, rfl, ?_, ⟨_, rfl⟩, hW, hsame.mono (by decide) (by decide)⟩
  · jvm_step X1.here [X1.here.top, hx, (hb hby d1_43), X1.method', Bd.returns, Value.isRef, FieldType.isReference]
    first | (intro acts; rw [hr _ acts rfl rfl rfl]) | rw [hr _ _ rfl rfl rfl]
    exact Steps.refl _
  · show Q1_k4 Z  s_SUM_BIG_DECIMAL h0 n0 _ T1.heap _
    rw [e1]
    exact ⟨rfl, N0, rfl⟩
theorem d1_44 : decode method_3_code 44 = .ok (.iload_n 0, 1) := by decide +kernel
theorem d1_45 : decode method_3_code 45 = .ok (.iconst 5, 1) := by decide +kernel
theorem d1_46 : decode method_3_code 46 = .ok (.if_icmp .ne 7, 3) := by decide +kernel
theorem d1_49 : decode method_3_code 49 = .ok (.getstatic 35, 3) := by decide +kernel
theorem d1_52 : decode method_3_code 52 = .ok (.areturn, 1) := by decide +kernel
theorem ef_1_k5 (m : MethodId) : entryFrame m #[(.int (5 : Int32))] 1 = mkF m 0 #[.val (.int (5 : Int32))] [] := by first | (simp [entryFrame, mkF, argsToLocals, Value.category]; done) | rfl
def Q1_k5 (Z : State) (s_MIN : Addr) (h0 : Heap) (n0 : Nat) (v : Option Value) (h : Heap) (L : List Loc) : Prop := v = some (.ref s_MIN) ∧ Fr n0 L ∧ h = h0
set_option maxRecDepth 65536 in
set_option maxHeartbeats 40000000 in
theorem rm1_k5 (l : Launch) (Z : State) (a0 : Array Value) (hw : ∀ d ∈ tables_1, d.before a0 Z = true) (ws : List Jvm.Cond) (s_MIN : Addr) (h0 : Heap) (n0 : Nat) (O0 : Old Z n0 h0) (S_s_MIN : Sta Z Z.heap "com/example/querent/querent/translation/Aggregation" "MIN" "Lcom/example/querent/querent/translation/Aggregation;" (.ref s_MIN)) :
    MetFree l (⟨"com/example/querent/querent/translation/AggregationIsOptionalPinLaw", "pick", "(I)Lcom/example/querent/querent/translation/Aggregation;"⟩ : MethodName) (head1 (Jvm.Cond.code (⟨"com/example/querent/querent/translation/AggregationIsOptionalPinLaw", "pick", "(I)Lcom/example/querent/querent/translation/Aggregation;"⟩ : MethodName) method_3_code 1 (some (.object "com/example/querent/querent/translation/Aggregation")) :: ws) ({ frames := 0, cells := 0, slots := 0, locals := 0 } : Room)) (fun aA uU => aA = #[(.int (5 : Int32))] ∧ Z.Warmed39 uU.vm ∧ uU.heap = h0) (fun _ _ _ _ _ => True) (fun _ uU oO uU' => ∃ vV lL, oO = .returned vV ∧ Q1_k5 Z  s_MIN h0 n0 vV uU'.heap lL ∧ FrameEnd uU oO uU' lL ({ frames := 0, cells := 0, slots := 0, locals := 0 } : Room).cells ({ frames := 0, cells := 0, slots := 0, locals := 0 } : Room).slots) := by
  refine MetFree.of_bodySF (plainFor_of_name pn_com_example_querent_querent_translation_AggregationIsOptionalPinLaw) hisR ?_
  intro p e s m args below meth c s₁ Bd hml0 hP hK
  obtain ⟨rfl, hZ, hh⟩ := hP
  have hx := Bd.exec
  have hby := Bd.bytes
  have hml : c.maxLocals = 1 := hml0
  have hown : s.vm.findClass "com/example/querent/querent/translation/AggregationIsOptionalPinLaw" = some m.cls := findClass_of_methodNamed Bd.named
  have hnm := (name_of_methodNamed Bd.named Bd.method).1
  have X0 : Stand p l e ({ frames := 0, cells := 0, slots := 0, locals := 0 } : Room) s m #[(.int (5 : Int32))] below meth c s₁ [] 0 0 := Stand.of_body Bd
  have e0 : s₁.heap = h0 := by rw [← hh, Bd.state]; rfl
  have N0 := Fr.nil n0
  have O := O0
  have pre0 : ∀ t, Steps p.tables e below (s₁.setTop (mkF m 0 #[.val (.int (5 : Int32))] [])) t → Steps p.tables e below (s₁.setTop (entryFrame m #[(.int (5 : Int32))] 1)) t := fun t k => castTop (ef_1_k5 m ) k
  obtain ⟨T1, X1, e1, st1⟩ := getS2 X0 hx hZ hown (host := "") (Or.inl (hw _ (List.mem_of_getElem? (i := 28) rfl))) Via.refl e0 (S_s_MIN.ext O.2) (g := (mkF m 49 #[.val (.int (5 : Int32))] [])) rfl (hb hby d1_49)
  have w2 : ∀ t, Steps p.tables e below (T1.setTop (mkF m 52 #[.val (.int (5 : Int32))] [(.ref s_MIN)])) t → Steps p.tables e below (s₁.setTop (entryFrame m #[(.int (5 : Int32))] 1)) t := fun t k => by
    refine pre0 t ?_
    refine XS.iloadN X0.here hx rfl (hb hby d1_0) rfl ?_
    show Steps p.tables e below (s₁.setTop (mkF m 1 #[.val (.int (5 : Int32))] [(.int (5 : Int32))])) _
    refine XS.ifYes X0.here hx rfl (pc0 := 1) (pc' := 8) rfl (hb hby d1_1) rfl ((if0 _ _).trans (feq ((by decide) : ¬ ((5 : Int32) = (0 : Int32)))).2) (by decide) (by decide) ?_
    show Steps p.tables e below (s₁.setTop (mkF m 8 #[.val (.int (5 : Int32))] [])) _
    refine XS.iloadN X0.here hx rfl (hb hby d1_8) rfl ?_
    show Steps p.tables e below (s₁.setTop (mkF m 9 #[.val (.int (5 : Int32))] [(.int (5 : Int32))])) _
    refine XS.iconst X0.here hx rfl (hb hby d1_9) ?_
    show Steps p.tables e below (s₁.setTop (mkF m 10 #[.val (.int (5 : Int32))] [(.int (1 : Int32)), (.int (5 : Int32))])) _
    refine XS.icmpYes X0.here hx rfl (pc0 := 10) (pc' := 17) rfl (hb hby d1_10) rfl (feq ((by decide) : ¬ ((5 : Int32) = (1 : Int32)))).2 (by decide) (by decide) ?_
    show Steps p.tables e below (s₁.setTop (mkF m 17 #[.val (.int (5 : Int32))] [])) _
    refine XS.iloadN X0.here hx rfl (hb hby d1_17) rfl ?_
    show Steps p.tables e below (s₁.setTop (mkF m 18 #[.val (.int (5 : Int32))] [(.int (5 : Int32))])) _
    refine XS.iconst X0.here hx rfl (hb hby d1_18) ?_
    show Steps p.tables e below (s₁.setTop (mkF m 19 #[.val (.int (5 : Int32))] [(.int (2 : Int32)), (.int (5 : Int32))])) _
    refine XS.icmpYes X0.here hx rfl (pc0 := 19) (pc' := 26) rfl (hb hby d1_19) rfl (feq ((by decide) : ¬ ((5 : Int32) = (2 : Int32)))).2 (by decide) (by decide) ?_
    show Steps p.tables e below (s₁.setTop (mkF m 26 #[.val (.int (5 : Int32))] [])) _
    refine XS.iloadN X0.here hx rfl (hb hby d1_26) rfl ?_
    show Steps p.tables e below (s₁.setTop (mkF m 27 #[.val (.int (5 : Int32))] [(.int (5 : Int32))])) _
    refine XS.iconst X0.here hx rfl (hb hby d1_27) ?_
    show Steps p.tables e below (s₁.setTop (mkF m 28 #[.val (.int (5 : Int32))] [(.int (3 : Int32)), (.int (5 : Int32))])) _
    refine XS.icmpYes X0.here hx rfl (pc0 := 28) (pc' := 35) rfl (hb hby d1_28) rfl (feq ((by decide) : ¬ ((5 : Int32) = (3 : Int32)))).2 (by decide) (by decide) ?_
    show Steps p.tables e below (s₁.setTop (mkF m 35 #[.val (.int (5 : Int32))] [])) _
    refine XS.iloadN X0.here hx rfl (hb hby d1_35) rfl ?_
    show Steps p.tables e below (s₁.setTop (mkF m 36 #[.val (.int (5 : Int32))] [(.int (5 : Int32))])) _
    refine XS.iconst X0.here hx rfl (hb hby d1_36) ?_
    show Steps p.tables e below (s₁.setTop (mkF m 37 #[.val (.int (5 : Int32))] [(.int (4 : Int32)), (.int (5 : Int32))])) _
    refine XS.icmpYes X0.here hx rfl (pc0 := 37) (pc' := 44) rfl (hb hby d1_37) rfl (feq ((by decide) : ¬ ((5 : Int32) = (4 : Int32)))).2 (by decide) (by decide) ?_
    show Steps p.tables e below (s₁.setTop (mkF m 44 #[.val (.int (5 : Int32))] [])) _
    refine XS.iloadN X0.here hx rfl (hb hby d1_44) rfl ?_
    show Steps p.tables e below (s₁.setTop (mkF m 45 #[.val (.int (5 : Int32))] [(.int (5 : Int32))])) _
    refine XS.iconst X0.here hx rfl (hb hby d1_45) ?_
    show Steps p.tables e below (s₁.setTop (mkF m 46 #[.val (.int (5 : Int32))] [(.int (5 : Int32)), (.int (5 : Int32))])) _
    refine XS.icmpNo X0.here hx rfl (hb hby d1_46) rfl (teq (rfl : (5 : Int32) = (5 : Int32))).2 ?_
    show Steps p.tables e below (s₁.setTop (mkF m 49 #[.val (.int (5 : Int32))] [])) _
    refine st1 _ ?_
    show Steps p.tables e below (T1.setTop (mkF m 52 #[.val (.int (5 : Int32))] [(.ref s_MIN)])) _
    exact k
  obtain ⟨fs, hr, hrun, hended, hW, hsame⟩ := X1.leave (v := some (.ref s_MIN)) (fun h => by rw [Bd.returns] at h; cases h)
  refine ⟨_, _, w2 _ ?_, hrun, hended, _, _, rfl, ?_, ⟨_, rfl⟩, hW, hsame.mono (by decide) (by decide)⟩
  · jvm_step X1.here [X1.here.top, hx, (hb hby d1_52), X1.method', Bd.returns, Value.isRef, FieldType.isReference]
    first | (intro acts; rw [hr _ acts rfl rfl rfl]) | rw [hr _ _ rfl rfl rfl]
    exact Steps.refl _
  · show Q1_k5 Z  s_MIN h0 n0 _ T1.heap _
    rw [e1]
    exact ⟨rfl, N0, rfl⟩
theorem d1_53 : decode method_3_code 53 = .ok (.iload_n 0, 1) := by decide +kernel
theorem d1_54 : decode method_3_code 54 = .ok (.bipush 6, 2) := by decide +kernel
theorem d1_56 : decode method_3_code 56 = .ok (.if_icmp .ne 7, 3) := by decide +kernel
theorem d1_59 : decode method_3_code 59 = .ok (.getstatic 38, 3) := by decide +kernel
theorem d1_62 : decode method_3_code 62 = .ok (.areturn, 1) := by decide +kernel
theorem ef_1_k6 (m : MethodId) : entryFrame m #[(.int (6 : Int32))] 1 = mkF m 0 #[.val (.int (6 : Int32))] [] := by first | (simp [entryFrame, mkF, argsToLocals, Value.category]; done) | rfl
def Q1_k6 (Z : State) (s_MAX : Addr) (h0 : Heap) (n0 : Nat) (v : Option Value) (h : Heap) (L : List Loc) : Prop := v = some (.ref s_MAX) ∧ Fr n0 L ∧ h = h0
set_option maxRecDepth 65536 in
set_option maxHeartbeats 40000000 in
theorem rm1_k6 (l : Launch) (Z : State) (a0 : Array Value) (hw : ∀ d ∈ tables_1, d.before a0 Z = true) (ws : List Jvm.Cond) (s_MAX : Addr) (h0 : Heap) (n0 : Nat) (O0 : Old Z n0 h0) (S_s_MAX : Sta Z Z.heap "com/example/querent/querent/translation/Aggregation" "MAX" "Lcom/example/querent/querent/translation/Aggregation;" (.ref s_MAX)) :
    MetFree l (⟨"com/example/querent/querent/translation/AggregationIsOptionalPinLaw", "pick", "(I)Lcom/example/querent/querent/translation/Aggregation;"⟩ : MethodName) (head1 (Jvm.Cond.code (⟨"com/example/querent/querent/translation/AggregationIsOptionalPinLaw", "pick", "(I)Lcom/example/querent/querent/translation/Aggregation;"⟩ : MethodName) method_3_code 1 (some (.object "com/example/querent/querent/translation/Aggregation")) :: ws) ({ frames := 0, cells := 0, slots := 0, locals := 0 } : Room)) (fun aA uU => aA = #[(.int (6 : Int32))] ∧ Z.Warmed39 uU.vm ∧ uU.heap = h0) (fun _ _ _ _ _ => True) (fun _ uU oO uU' => ∃ vV lL, oO = .returned vV ∧ Q1_k6 Z  s_MAX h0 n0 vV uU'.heap lL ∧ FrameEnd uU oO uU' lL ({ frames := 0, cells := 0, slots := 0, locals := 0 } : Room).cells ({ frames := 0, cells := 0, slots := 0, locals := 0 } : Room).slots) := by
  refine MetFree.of_bodySF (plainFor_of_name pn_com_example_querent_querent_translation_AggregationIsOptionalPinLaw) hisR ?_
  intro p e s m args below meth c s₁ Bd hml0 hP hK
  obtain ⟨rfl, hZ, hh⟩ := hP
  have hx := Bd.exec
  have hby := Bd.bytes
  have hml : c.maxLocals = 1 := hml0
  have hown : s.vm.findClass "com/example/querent/querent/translation/AggregationIsOptionalPinLaw" = some m.cls := findClass_of_methodNamed Bd.named
  have hnm := (name_of_methodNamed Bd.named Bd.method).1
  have X0 : Stand p l e ({ frames := 0, cells := 0, slots := 0, locals := 0 } : Room) s m #[(.int (6 : Int32))] below meth c s₁ [] 0 0 := Stand.of_body Bd
  have e0 : s₁.heap = h0 := by rw [← hh, Bd.state]; rfl
  have N0 := Fr.nil n0
  have O := O0
  have pre0 : ∀ t, Steps p.tables e below (s₁.setTop (mkF m 0 #[.val (.int (6 : Int32))] [])) t → Steps p.tables e below (s₁.setTop (entryFrame m #[(.int (6 : Int32))] 1)) t := fun t k => castTop (ef_1_k6 m ) k
  obtain ⟨T1, X1, e1, st1⟩ := getS2 X0 hx hZ hown (host := "") (Or.inl (hw _ (List.mem_of_getElem? (i := 20) rfl))) Via.refl e0 (S_s_MAX.ext O.2) (g := (mkF m 59 #[.val (.int (6 : Int32))] [])) rfl (hb hby d1_59)
  have w2 : ∀ t, Steps p.tables e below (T1.setTop (mkF m 62 #[.val (.int (6 : Int32))] [(.ref s_MAX)])) t → Steps p.tables e below (s₁.setTop (entryFrame m #[(.int (6 : Int32))] 1)) t := fun t k => by
    refine pre0 t ?_
    refine XS.iloadN X0.here hx rfl (hb hby d1_0) rfl ?_
    show Steps p.tables e below (s₁.setTop (mkF m 1 #[.val (.int (6 : Int32))] [(.int (6 : Int32))])) _
    refine XS.ifYes X0.here hx rfl (pc0 := 1) (pc' := 8) rfl (hb hby d1_1) rfl ((if0 _ _).trans (feq ((by decide) : ¬ ((6 : Int32) = (0 : Int32)))).2) (by decide) (by decide) ?_
    show Steps p.tables e below (s₁.setTop (mkF m 8 #[.val (.int (6 : Int32))] [])) _
    refine XS.iloadN X0.here hx rfl (hb hby d1_8) rfl ?_
    show Steps p.tables e below (s₁.setTop (mkF m 9 #[.val (.int (6 : Int32))] [(.int (6 : Int32))])) _
    refine XS.iconst X0.here hx rfl (hb hby d1_9) ?_
    show Steps p.tables e below (s₁.setTop (mkF m 10 #[.val (.int (6 : Int32))] [(.int (1 : Int32)), (.int (6 : Int32))])) _
    refine XS.icmpYes X0.here hx rfl (pc0 := 10) (pc' := 17) rfl (hb hby d1_10) rfl (feq ((by decide) : ¬ ((6 : Int32) = (1 : Int32)))).2 (by decide) (by decide) ?_
    show Steps p.tables e below (s₁.setTop (mkF m 17 #[.val (.int (6 : Int32))] [])) _
    refine XS.iloadN X0.here hx rfl (hb hby d1_17) rfl ?_
    show Steps p.tables e below (s₁.setTop (mkF m 18 #[.val (.int (6 : Int32))] [(.int (6 : Int32))])) _
    refine XS.iconst X0.here hx rfl (hb hby d1_18) ?_
    show Steps p.tables e below (s₁.setTop (mkF m 19 #[.val (.int (6 : Int32))] [(.int (2 : Int32)), (.int (6 : Int32))])) _
    refine XS.icmpYes X0.here hx rfl (pc0 := 19) (pc' := 26) rfl (hb hby d1_19) rfl (feq ((by decide) : ¬ ((6 : Int32) = (2 : Int32)))).2 (by decide) (by decide) ?_
    show Steps p.tables e below (s₁.setTop (mkF m 26 #[.val (.int (6 : Int32))] [])) _
    refine XS.iloadN X0.here hx rfl (hb hby d1_26) rfl ?_
    show Steps p.tables e below (s₁.setTop (mkF m 27 #[.val (.int (6 : Int32))] [(.int (6 : Int32))])) _
    refine XS.iconst X0.here hx rfl (hb hby d1_27) ?_
    show Steps p.tables e below (s₁.setTop (mkF m 28 #[.val (.int (6 : Int32))] [(.int (3 : Int32)), (.int (6 : Int32))])) _
    refine XS.icmpYes X0.here hx rfl (pc0 := 28) (pc' := 35) rfl (hb hby d1_28) rfl (feq ((by decide) : ¬ ((6 : Int32) = (3 : Int32)))).2 (by decide) (by decide) ?_
    show Steps p.tables e below (s₁.setTop (mkF m 35 #[.val (.int (6 : Int32))] [])) _
    refine XS.iloadN X0.here hx rfl (hb hby d1_35) rfl ?_
    show Steps p.tables e below (s₁.setTop (mkF m 36 #[.val (.int (6 : Int32))] [(.int (6 : Int32))])) _
    refine XS.iconst X0.here hx rfl (hb hby d1_36) ?_
    show Steps p.tables e below (s₁.setTop (mkF m 37 #[.val (.int (6 : Int32))] [(.int (4 : Int32)), (.int (6 : Int32))])) _
    refine XS.icmpYes X0.here hx rfl (pc0 := 37) (pc' := 44) rfl (hb hby d1_37) rfl (feq ((by decide) : ¬ ((6 : Int32) = (4 : Int32)))).2 (by decide) (by decide) ?_
    show Steps p.tables e below (s₁.setTop (mkF m 44 #[.val (.int (6 : Int32))] [])) _
    refine XS.iloadN X0.here hx rfl (hb hby d1_44) rfl ?_
    show Steps p.tables e below (s₁.setTop (mkF m 45 #[.val (.int (6 : Int32))] [(.int (6 : Int32))])) _
    refine XS.iconst X0.here hx rfl (hb hby d1_45) ?_
    show Steps p.tables e below (s₁.setTop (mkF m 46 #[.val (.int (6 : Int32))] [(.int (5 : Int32)), (.int (6 : Int32))])) _
    refine XS.icmpYes X0.here hx rfl (pc0 := 46) (pc' := 53) rfl (hb hby d1_46) rfl (feq ((by decide) : ¬ ((6 : Int32) = (5 : Int32)))).2 (by decide) (by decide) ?_
    show Steps p.tables e below (s₁.setTop (mkF m 53 #[.val (.int (6 : Int32))] [])) _
    refine XS.iloadN X0.here hx rfl (hb hby d1_53) rfl ?_
    show Steps p.tables e below (s₁.setTop (mkF m 54 #[.val (.int (6 : Int32))] [(.int (6 : Int32))])) _
    refine XS.bipush X0.here hx rfl (hb hby d1_54) ?_
    show Steps p.tables e below (s₁.setTop (mkF m 56 #[.val (.int (6 : Int32))] [(.int (6 : Int32)), (.int (6 : Int32))])) _
    refine XS.icmpNo X0.here hx rfl (hb hby d1_56) rfl (teq (rfl : (6 : Int32) = (6 : Int32))).2 ?_
    show Steps p.tables e below (s₁.setTop (mkF m 59 #[.val (.int (6 : Int32))] [])) _
    refine st1 _ ?_
    show Steps p.tables e below (T1.setTop (mkF m 62 #[.val (.int (6 : Int32))] [(.ref s_MAX)])) _
    exact k
  obtain ⟨fs, hr, hrun, hended, hW, hsame⟩ := X1.leave (v := some (.ref s_MAX)) (fun h => by rw [Bd.returns] at h; cases h)
  refine ⟨_, _, w2 _ ?_, hrun, hended, _, _, rfl, ?_, ⟨_, rfl⟩, hW, hsame.mono (by decide) (by decide)⟩
  · jvm_step X1.here [X1.here.top, hx, (hb hby d1_62), X1.method', Bd.returns, Value.isRef, FieldType.isReference]
    first | (intro acts; rw [hr _ acts rfl rfl rfl]) | rw [hr _ _ rfl rfl rfl]
    exact Steps.refl _
  · show Q1_k6 Z  s_MAX h0 n0 _ T1.heap _
    rw [e1]
    exact ⟨rfl, N0, rfl⟩
theorem d1_63 : decode method_3_code 63 = .ok (.getstatic 41, 3) := by decide +kernel
theorem d1_66 : decode method_3_code 66 = .ok (.areturn, 1) := by decide +kernel
theorem ef_1_k7 (m : MethodId) : entryFrame m #[(.int (7 : Int32))] 1 = mkF m 0 #[.val (.int (7 : Int32))] [] := by first | (simp [entryFrame, mkF, argsToLocals, Value.category]; done) | rfl
def Q1_k7 (Z : State) (s_AVG : Addr) (h0 : Heap) (n0 : Nat) (v : Option Value) (h : Heap) (L : List Loc) : Prop := v = some (.ref s_AVG) ∧ Fr n0 L ∧ h = h0
set_option maxRecDepth 65536 in
set_option maxHeartbeats 40000000 in
theorem rm1_k7 (l : Launch) (Z : State) (a0 : Array Value) (hw : ∀ d ∈ tables_1, d.before a0 Z = true) (ws : List Jvm.Cond) (s_AVG : Addr) (h0 : Heap) (n0 : Nat) (O0 : Old Z n0 h0) (S_s_AVG : Sta Z Z.heap "com/example/querent/querent/translation/Aggregation" "AVG" "Lcom/example/querent/querent/translation/Aggregation;" (.ref s_AVG)) :
    MetFree l (⟨"com/example/querent/querent/translation/AggregationIsOptionalPinLaw", "pick", "(I)Lcom/example/querent/querent/translation/Aggregation;"⟩ : MethodName) (head1 (Jvm.Cond.code (⟨"com/example/querent/querent/translation/AggregationIsOptionalPinLaw", "pick", "(I)Lcom/example/querent/querent/translation/Aggregation;"⟩ : MethodName) method_3_code 1 (some (.object "com/example/querent/querent/translation/Aggregation")) :: ws) ({ frames := 0, cells := 0, slots := 0, locals := 0 } : Room)) (fun aA uU => aA = #[(.int (7 : Int32))] ∧ Z.Warmed39 uU.vm ∧ uU.heap = h0) (fun _ _ _ _ _ => True) (fun _ uU oO uU' => ∃ vV lL, oO = .returned vV ∧ Q1_k7 Z  s_AVG h0 n0 vV uU'.heap lL ∧ FrameEnd uU oO uU' lL ({ frames := 0, cells := 0, slots := 0, locals := 0 } : Room).cells ({ frames := 0, cells := 0, slots := 0, locals := 0 } : Room).slots) := by
  refine MetFree.of_bodySF (plainFor_of_name pn_com_example_querent_querent_translation_AggregationIsOptionalPinLaw) hisR ?_
  intro p e s m args below meth c s₁ Bd hml0 hP hK
  obtain ⟨rfl, hZ, hh⟩ := hP
  have hx := Bd.exec
  have hby := Bd.bytes
  have hml : c.maxLocals = 1 := hml0
  have hown : s.vm.findClass "com/example/querent/querent/translation/AggregationIsOptionalPinLaw" = some m.cls := findClass_of_methodNamed Bd.named
  have hnm := (name_of_methodNamed Bd.named Bd.method).1
  have X0 : Stand p l e ({ frames := 0, cells := 0, slots := 0, locals := 0 } : Room) s m #[(.int (7 : Int32))] below meth c s₁ [] 0 0 := Stand.of_body Bd
  have e0 : s₁.heap = h0 := by rw [← hh, Bd.state]; rfl
  have N0 := Fr.nil n0
  have O := O0
  have pre0 : ∀ t, Steps p.tables e below (s₁.setTop (mkF m 0 #[.val (.int (7 : Int32))] [])) t → Steps p.tables e below (s₁.setTop (entryFrame m #[(.int (7 : Int32))] 1)) t := fun t k => castTop (ef_1_k7 m ) k
  obtain ⟨T1, X1, e1, st1⟩ := getS2 X0 hx hZ hown (host := "") (Or.inl (hw _ (List.mem_of_getElem? (i := 21) rfl))) Via.refl e0 (S_s_AVG.ext O.2) (g := (mkF m 63 #[.val (.int (7 : Int32))] [])) rfl (hb hby d1_63)
  have w2 : ∀ t, Steps p.tables e below (T1.setTop (mkF m 66 #[.val (.int (7 : Int32))] [(.ref s_AVG)])) t → Steps p.tables e below (s₁.setTop (entryFrame m #[(.int (7 : Int32))] 1)) t := fun t k => by
    refine pre0 t ?_
    refine XS.iloadN X0.here hx rfl (hb hby d1_0) rfl ?_
    show Steps p.tables e below (s₁.setTop (mkF m 1 #[.val (.int (7 : Int32))] [(.int (7 : Int32))])) _
    refine XS.ifYes X0.here hx rfl (pc0 := 1) (pc' := 8) rfl (hb hby d1_1) rfl ((if0 _ _).trans (feq ((by decide) : ¬ ((7 : Int32) = (0 : Int32)))).2) (by decide) (by decide) ?_
    show Steps p.tables e below (s₁.setTop (mkF m 8 #[.val (.int (7 : Int32))] [])) _
    refine XS.iloadN X0.here hx rfl (hb hby d1_8) rfl ?_
    show Steps p.tables e below (s₁.setTop (mkF m 9 #[.val (.int (7 : Int32))] [(.int (7 : Int32))])) _
    refine XS.iconst X0.here hx rfl (hb hby d1_9) ?_
    show Steps p.tables e below (s₁.setTop (mkF m 10 #[.val (.int (7 : Int32))] [(.int (1 : Int32)), (.int (7 : Int32))])) _
    refine XS.icmpYes X0.here hx rfl (pc0 := 10) (pc' := 17) rfl (hb hby d1_10) rfl (feq ((by decide) : ¬ ((7 : Int32) = (1 : Int32)))).2 (by decide) (by decide) ?_
    show Steps p.tables e below (s₁.setTop (mkF m 17 #[.val (.int (7 : Int32))] [])) _
    refine XS.iloadN X0.here hx rfl (hb hby d1_17) rfl ?_
    show Steps p.tables e below (s₁.setTop (mkF m 18 #[.val (.int (7 : Int32))] [(.int (7 : Int32))])) _
    refine XS.iconst X0.here hx rfl (hb hby d1_18) ?_
    show Steps p.tables e below (s₁.setTop (mkF m 19 #[.val (.int (7 : Int32))] [(.int (2 : Int32)), (.int (7 : Int32))])) _
    refine XS.icmpYes X0.here hx rfl (pc0 := 19) (pc' := 26) rfl (hb hby d1_19) rfl (feq ((by decide) : ¬ ((7 : Int32) = (2 : Int32)))).2 (by decide) (by decide) ?_
    show Steps p.tables e below (s₁.setTop (mkF m 26 #[.val (.int (7 : Int32))] [])) _
    refine XS.iloadN X0.here hx rfl (hb hby d1_26) rfl ?_
    show Steps p.tables e below (s₁.setTop (mkF m 27 #[.val (.int (7 : Int32))] [(.int (7 : Int32))])) _
    refine XS.iconst X0.here hx rfl (hb hby d1_27) ?_
    show Steps p.tables e below (s₁.setTop (mkF m 28 #[.val (.int (7 : Int32))] [(.int (3 : Int32)), (.int (7 : Int32))])) _
    refine XS.icmpYes X0.here hx rfl (pc0 := 28) (pc' := 35) rfl (hb hby d1_28) rfl (feq ((by decide) : ¬ ((7 : Int32) = (3 : Int32)))).2 (by decide) (by decide) ?_
    show Steps p.tables e below (s₁.setTop (mkF m 35 #[.val (.int (7 : Int32))] [])) _
    refine XS.iloadN X0.here hx rfl (hb hby d1_35) rfl ?_
    show Steps p.tables e below (s₁.setTop (mkF m 36 #[.val (.int (7 : Int32))] [(.int (7 : Int32))])) _
    refine XS.iconst X0.here hx rfl (hb hby d1_36) ?_
    show Steps p.tables e below (s₁.setTop (mkF m 37 #[.val (.int (7 : Int32))] [(.int (4 : Int32)), (.int (7 : Int32))])) _
    refine XS.icmpYes X0.here hx rfl (pc0 := 37) (pc' := 44) rfl (hb hby d1_37) rfl (feq ((by decide) : ¬ ((7 : Int32) = (4 : Int32)))).2 (by decide) (by decide) ?_
    show Steps p.tables e below (s₁.setTop (mkF m 44 #[.val (.int (7 : Int32))] [])) _
    refine XS.iloadN X0.here hx rfl (hb hby d1_44) rfl ?_
    show Steps p.tables e below (s₁.setTop (mkF m 45 #[.val (.int (7 : Int32))] [(.int (7 : Int32))])) _
    refine XS.iconst X0.here hx rfl (hb hby d1_45) ?_
    show Steps p.tables e below (s₁.setTop (mkF m 46 #[.val (.int (7 : Int32))] [(.int (5 : Int32)), (.int (7 : Int32))])) _
    refine XS.icmpYes X0.here hx rfl (pc0 := 46) (pc' := 53) rfl (hb hby d1_46) rfl (feq ((by decide) : ¬ ((7 : Int32) = (5 : Int32)))).2 (by decide) (by decide) ?_
    show Steps p.tables e below (s₁.setTop (mkF m 53 #[.val (.int (7 : Int32))] [])) _
    refine XS.iloadN X0.here hx rfl (hb hby d1_53) rfl ?_
    show Steps p.tables e below (s₁.setTop (mkF m 54 #[.val (.int (7 : Int32))] [(.int (7 : Int32))])) _
    refine XS.bipush X0.here hx rfl (hb hby d1_54) ?_
    show Steps p.tables e below (s₁.setTop (mkF m 56 #[.val (.int (7 : Int32))] [(.int (6 : Int32)), (.int (7 : Int32))])) _
    refine XS.icmpYes X0.here hx rfl (pc0 := 56) (pc' := 63) rfl (hb hby d1_56) rfl (feq ((by decide) : ¬ ((7 : Int32) = (6 : Int32)))).2 (by decide) (by decide) ?_
    show Steps p.tables e below (s₁.setTop (mkF m 63 #[.val (.int (7 : Int32))] [])) _
    refine st1 _ ?_
    show Steps p.tables e below (T1.setTop (mkF m 66 #[.val (.int (7 : Int32))] [(.ref s_AVG)])) _
    exact k
  obtain ⟨fs, hr, hrun, hended, hW, hsame⟩ := X1.leave (v := some (.ref s_AVG)) (fun h => by rw [Bd.returns] at h; cases h)
  refine ⟨_, _, w2 _ ?_, hrun, hended, _, _, rfl, ?_, ⟨_, rfl⟩, hW, hsame.mono (by decide) (by decide)⟩
  · jvm_step X1.here [X1.here.top, hx, (hb hby d1_66), X1.method', Bd.returns, Value.isRef, FieldType.isReference]
    first | (intro acts; rw [hr _ acts rfl rfl rfl]) | rw [hr _ _ rfl rfl rfl]
    exact Steps.refl _
  · show Q1_k7 Z  s_AVG h0 n0 _ T1.heap _
    rw [e1]
    exact ⟨rfl, N0, rfl⟩
theorem d2_0 : decode prog_1_method_7_code 0 = .ok (.aload_n 0, 1) := by decide +kernel
theorem d2_1 : decode prog_1_method_7_code 1 = .ok (.getstatic 19, 3) := by decide +kernel
theorem d2_4 : decode prog_1_method_7_code 4 = .ok (.if_acmp .eq 17, 3) := by decide +kernel
theorem d2_21 : decode prog_1_method_7_code 21 = .ok (.iconst 1, 1) := by decide +kernel
theorem d2_22 : decode prog_1_method_7_code 22 = .ok (.goto 4, 3) := by decide +kernel
theorem d2_26 : decode prog_1_method_7_code 26 = .ok (.ireturn, 1) := by decide +kernel
theorem d2_7 : decode prog_1_method_7_code 7 = .ok (.aload_n 0, 1) := by decide +kernel
theorem d2_8 : decode prog_1_method_7_code 8 = .ok (.getstatic 22, 3) := by decide +kernel
theorem d2_11 : decode prog_1_method_7_code 11 = .ok (.if_acmp .eq 10, 3) := by decide +kernel
theorem d2_14 : decode prog_1_method_7_code 14 = .ok (.aload_n 0, 1) := by decide +kernel
theorem d2_15 : decode prog_1_method_7_code 15 = .ok (.getstatic 25, 3) := by decide +kernel
theorem d2_18 : decode prog_1_method_7_code 18 = .ok (.if_acmp .ne 7, 3) := by decide +kernel
theorem d2_25 : decode prog_1_method_7_code 25 = .ok (.iconst 0, 1) := by decide +kernel
theorem pn_com_example_querent_querent_translation_Aggregation : plainName "com/example/querent/querent/translation/Aggregation" = true := by first | (simp [plainName, overriddenIn]; done) | decide +kernel
theorem ef_2 (m : MethodId) (x0 : Addr) : entryFrame m #[(.ref x0)] 1 = mkF m 0 #[.val (.ref x0)] [] := by first | (simp [entryFrame, mkF, argsToLocals, Value.category]; done) | rfl
def Q2 (Z : State) (a : Addr) (s_MIN : Addr) (s_MAX : Addr) (s_AVG : Addr) (h0 : Heap) (n0 : Nat) (v : Option Value) (h : Heap) (L : List Loc) : Prop := v = some (.int (own_o a s_MIN s_MAX s_AVG)) ∧ Fr n0 L ∧ h = h0
set_option maxRecDepth 65536 in
set_option maxHeartbeats 40000000 in
theorem rm2 (l : Launch) (Z : State) (a0 : Array Value) (hw : ∀ d ∈ tables_1, d.before a0 Z = true) (ws : List Jvm.Cond) (a : Addr) (s_MIN : Addr) (s_MAX : Addr) (s_AVG : Addr) (h0 : Heap) (n0 : Nat) (O0 : Old Z n0 h0) (S_s_MIN : Sta Z Z.heap "com/example/querent/querent/translation/Aggregation" "MIN" "Lcom/example/querent/querent/translation/Aggregation;" (.ref s_MIN)) (S_s_MAX : Sta Z Z.heap "com/example/querent/querent/translation/Aggregation" "MAX" "Lcom/example/querent/querent/translation/Aggregation;" (.ref s_MAX)) (S_s_AVG : Sta Z Z.heap "com/example/querent/querent/translation/Aggregation" "AVG" "Lcom/example/querent/querent/translation/Aggregation;" (.ref s_AVG)) :
    MetFree l (⟨"com/example/querent/querent/translation/Aggregation", "isOptional", "()Z"⟩ : MethodName) (head1 (Jvm.Cond.code (⟨"com/example/querent/querent/translation/Aggregation", "isOptional", "()Z"⟩ : MethodName) prog_1_method_7_code 1 (some .boolean) :: ws) ({ frames := 0, cells := 0, slots := 0, locals := 0 } : Room)) (fun aA uU => aA = #[(.ref a)] ∧ Z.Warmed39 uU.vm ∧ uU.heap = h0) (fun _ _ _ _ _ => True) (fun _ uU oO uU' => ∃ vV lL, oO = .returned vV ∧ Q2 Z a s_MIN s_MAX s_AVG h0 n0 vV uU'.heap lL ∧ FrameEnd uU oO uU' lL ({ frames := 0, cells := 0, slots := 0, locals := 0 } : Room).cells ({ frames := 0, cells := 0, slots := 0, locals := 0 } : Room).slots) := by
  refine MetFree.of_bodySF (plainFor_of_name pn_com_example_querent_querent_translation_Aggregation) hisR ?_
  intro p e s m args below meth c s₁ Bd hml0 hP hK
  obtain ⟨rfl, hZ, hh⟩ := hP
  have hx := Bd.exec
  have hby := Bd.bytes
  have hml : c.maxLocals = 1 := hml0
  have hown : s.vm.findClass "com/example/querent/querent/translation/Aggregation" = some m.cls := findClass_of_methodNamed Bd.named
  have hnm := (name_of_methodNamed Bd.named Bd.method).1
  have X0 : Stand p l e ({ frames := 0, cells := 0, slots := 0, locals := 0 } : Room) s m #[(.ref a)] below meth c s₁ [] 0 0 := Stand.of_body Bd
  have e0 : s₁.heap = h0 := by rw [← hh, Bd.state]; rfl
  have N0 := Fr.nil n0
  have O := O0
  have pre0 : ∀ t, Steps p.tables e below (s₁.setTop (mkF m 0 #[.val (.ref a)] [])) t → Steps p.tables e below (s₁.setTop (entryFrame m #[(.ref a)] 1)) t := fun t k => castTop (ef_2 m a) k
  obtain ⟨T1, X1, e1, st1⟩ := getS2 X0 hx hZ hown (host := "") (Or.inl (hw _ (List.mem_of_getElem? (i := 12) rfl))) Via.refl e0 (S_s_MIN.ext O.2) (g := (mkF m 1 #[.val (.ref a)] [(.ref a)])) rfl (hb hby d2_1)
  have w2 : ∀ t, Steps p.tables e below (T1.setTop (mkF m 4 #[.val (.ref a)] [(.ref s_MIN), (.ref a)])) t → Steps p.tables e below (s₁.setTop (entryFrame m #[(.ref a)] 1)) t := fun t k => by
    refine pre0 t ?_
    refine XS.aloadN X0.here hx rfl (hb hby d2_0) rfl rfl ?_
    show Steps p.tables e below (s₁.setTop (mkF m 1 #[.val (.ref a)] [(.ref a)])) _
    refine st1 _ ?_
    show Steps p.tables e below (T1.setTop (mkF m 4 #[.val (.ref a)] [(.ref s_MIN), (.ref a)])) _
    exact k
  by_cases ha4_3 : a = s_MIN
  · have w4 : ∀ t, Steps p.tables e below (T1.setTop (mkF m 26 #[.val (.ref a)] [(.int (1 : Int32))])) t → Steps p.tables e below (s₁.setTop (entryFrame m #[(.ref a)] 1)) t := fun t k => by
      refine w2 t ?_
      refine Jvm.RoadKit.acmp (g := (mkF m 4 #[.val (.ref a)] [(.ref s_MIN), (.ref a)])) X1 hx rfl rfl rfl (pc0 := 4) (pc' := 21) (same := true) rfl (hb hby d2_4) rfl (decide_eq_true (congrArg Value.ref ha4_3)) (by decide) (by decide) ?_
      show Steps p.tables e below (T1.setTop (mkF m 21 #[.val (.ref a)] [])) _
      refine XS.iconst X1.here hx rfl (hb hby d2_21) ?_
      show Steps p.tables e below (T1.setTop (mkF m 22 #[.val (.ref a)] [(.int (1 : Int32))])) _
      refine XS.goto X1.here hx rfl (pc0 := 22) (pc' := 26) rfl (hb hby d2_22) (by decide) (by decide) ?_
      show Steps p.tables e below (T1.setTop (mkF m 26 #[.val (.ref a)] [(.int (1 : Int32))])) _
      exact k
    obtain ⟨fs, hr, hrun, hended, hW, hsame⟩ := X1.leave (v := some (.int (1 : Int32))) (fun h => by rw [Bd.returns] at h; cases h)
    refine ⟨_, _, w4 _ ?_, hrun, hended, _, _, rfl, ?_, ⟨_, rfl⟩, hW, hsame.mono (by decide) (by decide)⟩
    · exact retN X1 hx (t := .boolean) Bd.returns (by simp) (hb hby d2_26) hr
    · show Q2 Z a s_MIN s_MAX s_AVG h0 n0 _ T1.heap _
      rw [e1]
      exact ⟨(by simp [own_o, ha4_3]), N0, rfl⟩
  · obtain ⟨T5, X5, e5, st5⟩ := getS2 X1 hx hZ hown (host := "") (Or.inl (hw _ (List.mem_of_getElem? (i := 14) rfl))) Via.refl e1 (S_s_MAX.ext O.2) (g := (mkF m 8 #[.val (.ref a)] [(.ref a)])) rfl (hb hby d2_8)
    have w6 : ∀ t, Steps p.tables e below (T5.setTop (mkF m 11 #[.val (.ref a)] [(.ref s_MAX), (.ref a)])) t → Steps p.tables e below (s₁.setTop (entryFrame m #[(.ref a)] 1)) t := fun t k => by
      refine w2 t ?_
      refine Jvm.RoadKit.acmp (g := (mkF m 4 #[.val (.ref a)] [(.ref s_MIN), (.ref a)])) X1 hx rfl rfl rfl (pc0 := 4) (pc' := 7) (same := false) rfl (hb hby d2_4) rfl (decide_eq_false fun q => ha4_3 (Value.ref.inj q)) (by decide) (by decide) ?_
      show Steps p.tables e below (T1.setTop (mkF m 7 #[.val (.ref a)] [])) _
      refine XS.aloadN X1.here hx rfl (hb hby d2_7) rfl rfl ?_
      show Steps p.tables e below (T1.setTop (mkF m 8 #[.val (.ref a)] [(.ref a)])) _
      refine st5 _ ?_
      show Steps p.tables e below (T5.setTop (mkF m 11 #[.val (.ref a)] [(.ref s_MAX), (.ref a)])) _
      exact k
    by_cases ha11_7 : a = s_MAX
    · have w8 : ∀ t, Steps p.tables e below (T5.setTop (mkF m 26 #[.val (.ref a)] [(.int (1 : Int32))])) t → Steps p.tables e below (s₁.setTop (entryFrame m #[(.ref a)] 1)) t := fun t k => by
        refine w6 t ?_
        refine Jvm.RoadKit.acmp (g := (mkF m 11 #[.val (.ref a)] [(.ref s_MAX), (.ref a)])) X5 hx rfl rfl rfl (pc0 := 11) (pc' := 21) (same := true) rfl (hb hby d2_11) rfl (decide_eq_true (congrArg Value.ref ha11_7)) (by decide) (by decide) ?_
        show Steps p.tables e below (T5.setTop (mkF m 21 #[.val (.ref a)] [])) _
        refine XS.iconst X5.here hx rfl (hb hby d2_21) ?_
        show Steps p.tables e below (T5.setTop (mkF m 22 #[.val (.ref a)] [(.int (1 : Int32))])) _
        refine XS.goto X5.here hx rfl (pc0 := 22) (pc' := 26) rfl (hb hby d2_22) (by decide) (by decide) ?_
        show Steps p.tables e below (T5.setTop (mkF m 26 #[.val (.ref a)] [(.int (1 : Int32))])) _
        exact k
      obtain ⟨fs, hr, hrun, hended, hW, hsame⟩ := X5.leave (v := some (.int (1 : Int32))) (fun h => by rw [Bd.returns] at h; cases h)
      refine ⟨_, _, w8 _ ?_, hrun, hended, _, _, rfl, ?_, ⟨_, rfl⟩, hW, hsame.mono (by decide) (by decide)⟩
      · exact retN X5 hx (t := .boolean) Bd.returns (by simp) (hb hby d2_26) hr
      · show Q2 Z a s_MIN s_MAX s_AVG h0 n0 _ T5.heap _
        rw [e5]
        exact ⟨(by simp [own_o, ha11_7, ha4_3]), N0, rfl⟩
    · obtain ⟨T9, X9, e9, st9⟩ := getS2 X5 hx hZ hown (host := "") (Or.inl (hw _ (List.mem_of_getElem? (i := 16) rfl))) Via.refl e5 (S_s_AVG.ext O.2) (g := (mkF m 15 #[.val (.ref a)] [(.ref a)])) rfl (hb hby d2_15)
      have w10 : ∀ t, Steps p.tables e below (T9.setTop (mkF m 18 #[.val (.ref a)] [(.ref s_AVG), (.ref a)])) t → Steps p.tables e below (s₁.setTop (entryFrame m #[(.ref a)] 1)) t := fun t k => by
        refine w6 t ?_
        refine Jvm.RoadKit.acmp (g := (mkF m 11 #[.val (.ref a)] [(.ref s_MAX), (.ref a)])) X5 hx rfl rfl rfl (pc0 := 11) (pc' := 14) (same := false) rfl (hb hby d2_11) rfl (decide_eq_false fun q => ha11_7 (Value.ref.inj q)) (by decide) (by decide) ?_
        show Steps p.tables e below (T5.setTop (mkF m 14 #[.val (.ref a)] [])) _
        refine XS.aloadN X5.here hx rfl (hb hby d2_14) rfl rfl ?_
        show Steps p.tables e below (T5.setTop (mkF m 15 #[.val (.ref a)] [(.ref a)])) _
        refine st9 _ ?_
        show Steps p.tables e below (T9.setTop (mkF m 18 #[.val (.ref a)] [(.ref s_AVG), (.ref a)])) _
        exact k
      by_cases ha18_11 : a = s_AVG
      · have w12 : ∀ t, Steps p.tables e below (T9.setTop (mkF m 26 #[.val (.ref a)] [(.int (1 : Int32))])) t → Steps p.tables e below (s₁.setTop (entryFrame m #[(.ref a)] 1)) t := fun t k => by
          refine w10 t ?_
          refine Jvm.RoadKit.acmp (g := (mkF m 18 #[.val (.ref a)] [(.ref s_AVG), (.ref a)])) X9 hx rfl rfl rfl (pc0 := 18) (pc' := 21) (same := true) rfl (hb hby d2_18) rfl (decide_eq_true (congrArg Value.ref ha18_11)) (by decide) (by decide) ?_
          show Steps p.tables e below (T9.setTop (mkF m 21 #[.val (.ref a)] [])) _
          refine XS.iconst X9.here hx rfl (hb hby d2_21) ?_
          show Steps p.tables e below (T9.setTop (mkF m 22 #[.val (.ref a)] [(.int (1 : Int32))])) _
          refine XS.goto X9.here hx rfl (pc0 := 22) (pc' := 26) rfl (hb hby d2_22) (by decide) (by decide) ?_
          show Steps p.tables e below (T9.setTop (mkF m 26 #[.val (.ref a)] [(.int (1 : Int32))])) _
          exact k
        obtain ⟨fs, hr, hrun, hended, hW, hsame⟩ := X9.leave (v := some (.int (1 : Int32))) (fun h => by rw [Bd.returns] at h; cases h)
        refine ⟨_, _, w12 _ ?_, hrun, hended, _, _, rfl, ?_, ⟨_, rfl⟩, hW, hsame.mono (by decide) (by decide)⟩
        · exact retN X9 hx (t := .boolean) Bd.returns (by simp) (hb hby d2_26) hr
        · show Q2 Z a s_MIN s_MAX s_AVG h0 n0 _ T9.heap _
          rw [e9]
          exact ⟨(by simp [own_o, ha11_7, ha18_11, ha4_3]), N0, rfl⟩
      · have w13 : ∀ t, Steps p.tables e below (T9.setTop (mkF m 26 #[.val (.ref a)] [(.int (0 : Int32))])) t → Steps p.tables e below (s₁.setTop (entryFrame m #[(.ref a)] 1)) t := fun t k => by
          refine w10 t ?_
          refine Jvm.RoadKit.acmp (g := (mkF m 18 #[.val (.ref a)] [(.ref s_AVG), (.ref a)])) X9 hx rfl rfl rfl (pc0 := 18) (pc' := 25) (same := false) rfl (hb hby d2_18) rfl (decide_eq_false fun q => ha18_11 (Value.ref.inj q)) (by decide) (by decide) ?_
          show Steps p.tables e below (T9.setTop (mkF m 25 #[.val (.ref a)] [])) _
          refine XS.iconst X9.here hx rfl (hb hby d2_25) ?_
          show Steps p.tables e below (T9.setTop (mkF m 26 #[.val (.ref a)] [(.int (0 : Int32))])) _
          exact k
        obtain ⟨fs, hr, hrun, hended, hW, hsame⟩ := X9.leave (v := some (.int (0 : Int32))) (fun h => by rw [Bd.returns] at h; cases h)
        refine ⟨_, _, w13 _ ?_, hrun, hended, _, _, rfl, ?_, ⟨_, rfl⟩, hW, hsame.mono (by decide) (by decide)⟩
        · exact retN X9 hx (t := .boolean) Bd.returns (by simp) (hb hby d2_26) hr
        · show Q2 Z a s_MIN s_MAX s_AVG h0 n0 _ T9.heap _
          rw [e9]
          exact ⟨(by simp [own_o, ha11_7, ha18_11, ha4_3]), N0, rfl⟩
theorem pd__40I_41Lcom_47example_47querent_47querent_47translation_47Aggregation_59 : parseMethodDescriptor "(I)Lcom/example/querent/querent/translation/Aggregation;" = some ⟨[.int], some (.object "com/example/querent/querent/translation/Aggregation")⟩ := by decide +kernel
theorem pd__40_41Z : parseMethodDescriptor "()Z" = some ⟨[], some .boolean⟩ := by decide +kernel
theorem ef_0 (m : MethodId) (x0 : Int32) : entryFrame m #[(.int x0)] maxLocals = mkF m 0 #[.val (.int x0), .unset, .unset, .unset] [] := by first | (simp [entryFrame, mkF, argsToLocals, Value.category, maxLocals]; done) | rfl
def Q0 (Z : State) (i : Int32) (s_COUNT : Addr) (s_MIN : Addr) (s_MAX : Addr) (s_AVG : Addr) (s_SUM_INTEGER : Addr) (s_SUM_LONG : Addr) (s_SUM_DOUBLE : Addr) (s_SUM_BIG_DECIMAL : Addr) (h0 : Heap) (n0 : Nat) (v : Option Value) (h : Heap) (L : List Loc) : Prop := v = some (.int (1 : Int32)) ∧ Fr n0 L ∧ h = h0
set_option maxRecDepth 65536 in
set_option maxHeartbeats 40000000 in
theorem rm0 (l : Launch) (Z : State) (a0 : Array Value) (hw : ∀ d ∈ tables_1, d.before a0 Z = true) (ws : List Jvm.Cond) (i : Int32) (s_COUNT : Addr) (s_MIN : Addr) (s_MAX : Addr) (s_AVG : Addr) (s_SUM_INTEGER : Addr) (s_SUM_LONG : Addr) (s_SUM_DOUBLE : Addr) (s_SUM_BIG_DECIMAL : Addr) (h0 : Heap) (n0 : Nat) (O0 : Old Z n0 h0) (S_s_COUNT : Sta Z Z.heap "com/example/querent/querent/translation/Aggregation" "COUNT" "Lcom/example/querent/querent/translation/Aggregation;" (.ref s_COUNT)) (S_s_MIN : Sta Z Z.heap "com/example/querent/querent/translation/Aggregation" "MIN" "Lcom/example/querent/querent/translation/Aggregation;" (.ref s_MIN)) (S_s_MAX : Sta Z Z.heap "com/example/querent/querent/translation/Aggregation" "MAX" "Lcom/example/querent/querent/translation/Aggregation;" (.ref s_MAX)) (S_s_AVG : Sta Z Z.heap "com/example/querent/querent/translation/Aggregation" "AVG" "Lcom/example/querent/querent/translation/Aggregation;" (.ref s_AVG)) (S_s_SUM_INTEGER : Sta Z Z.heap "com/example/querent/querent/translation/Aggregation" "SUM_INTEGER" "Lcom/example/querent/querent/translation/Aggregation;" (.ref s_SUM_INTEGER)) (S_s_SUM_LONG : Sta Z Z.heap "com/example/querent/querent/translation/Aggregation" "SUM_LONG" "Lcom/example/querent/querent/translation/Aggregation;" (.ref s_SUM_LONG)) (S_s_SUM_DOUBLE : Sta Z Z.heap "com/example/querent/querent/translation/Aggregation" "SUM_DOUBLE" "Lcom/example/querent/querent/translation/Aggregation;" (.ref s_SUM_DOUBLE)) (S_s_SUM_BIG_DECIMAL : Sta Z Z.heap "com/example/querent/querent/translation/Aggregation" "SUM_BIG_DECIMAL" "Lcom/example/querent/querent/translation/Aggregation;" (.ref s_SUM_BIG_DECIMAL)) (E_s_COUNT : Exa Z h0 s_COUNT "com/example/querent/querent/translation/Aggregation") (E_s_SUM_INTEGER : Exa Z h0 s_SUM_INTEGER "com/example/querent/querent/translation/Aggregation") (E_s_SUM_LONG : Exa Z h0 s_SUM_LONG "com/example/querent/querent/translation/Aggregation") (E_s_SUM_DOUBLE : Exa Z h0 s_SUM_DOUBLE "com/example/querent/querent/translation/Aggregation") (E_s_SUM_BIG_DECIMAL : Exa Z h0 s_SUM_BIG_DECIMAL "com/example/querent/querent/translation/Aggregation") (E_s_MIN : Exa Z h0 s_MIN "com/example/querent/querent/translation/Aggregation") (E_s_MAX : Exa Z h0 s_MAX "com/example/querent/querent/translation/Aggregation") (E_s_AVG : Exa Z h0 s_AVG "com/example/querent/querent/translation/Aggregation") (ne_COUNT_MIN : s_COUNT ≠ s_MIN) (ne_COUNT_MAX : s_COUNT ≠ s_MAX) (ne_COUNT_AVG : s_COUNT ≠ s_AVG) (ne_SUM_INTEGER_MIN : s_SUM_INTEGER ≠ s_MIN) (ne_SUM_INTEGER_MAX : s_SUM_INTEGER ≠ s_MAX) (ne_SUM_INTEGER_AVG : s_SUM_INTEGER ≠ s_AVG) (ne_SUM_LONG_MIN : s_SUM_LONG ≠ s_MIN) (ne_SUM_LONG_MAX : s_SUM_LONG ≠ s_MAX) (ne_SUM_LONG_AVG : s_SUM_LONG ≠ s_AVG) (ne_SUM_DOUBLE_MIN : s_SUM_DOUBLE ≠ s_MIN) (ne_SUM_DOUBLE_MAX : s_SUM_DOUBLE ≠ s_MAX) (ne_SUM_DOUBLE_AVG : s_SUM_DOUBLE ≠ s_AVG) (ne_SUM_BIG_DECIMAL_MIN : s_SUM_BIG_DECIMAL ≠ s_MIN) (ne_SUM_BIG_DECIMAL_MAX : s_SUM_BIG_DECIMAL ≠ s_MAX) (ne_SUM_BIG_DECIMAL_AVG : s_SUM_BIG_DECIMAL ≠ s_AVG) (ne_MIN_MAX : s_MIN ≠ s_MAX) (ne_MIN_AVG : s_MIN ≠ s_AVG) (ne_MAX_MIN : s_MAX ≠ s_MIN) (ne_MAX_AVG : s_MAX ≠ s_AVG) (ne_AVG_MIN : s_AVG ≠ s_MIN) (ne_AVG_MAX : s_AVG ≠ s_MAX) :
    MetFree l x (head1 (Jvm.Cond.code x code maxLocals ret :: ws) room_1) (fun aA uU => aA = #[(.int i)] ∧ Z.Warmed39 uU.vm ∧ uU.heap = h0) (fun _ _ _ _ _ => True) (fun _ uU oO uU' => ∃ vV lL, oO = .returned vV ∧ Q0 Z i s_COUNT s_MIN s_MAX s_AVG s_SUM_INTEGER s_SUM_LONG s_SUM_DOUBLE s_SUM_BIG_DECIMAL h0 n0 vV uU'.heap lL ∧ FrameEnd uU oO uU' lL room_1.cells room_1.slots) := by
  refine MetFree.of_bodySF (plainFor_of_name pn_com_example_querent_querent_translation_AggregationIsOptionalPinLaw) hisR ?_
  intro p e s m args below meth c s₁ Bd hml0 hP hK
  obtain ⟨rfl, hZ, hh⟩ := hP
  have hx := Bd.exec
  have hby := Bd.bytes
  have hml : c.maxLocals = 4 := hml0
  have hown : s.vm.findClass "com/example/querent/querent/translation/AggregationIsOptionalPinLaw" = some m.cls := findClass_of_methodNamed Bd.named
  have hnm := (name_of_methodNamed Bd.named Bd.method).1
  have X0 : Stand p l e room_1 s m #[(.int i)] below meth c s₁ [] 0 0 := Stand.of_body Bd
  have e0 : s₁.heap = h0 := by rw [← hh, Bd.state]; rfl
  have N0 := Fr.nil n0
  have O := O0
  have pre0 : ∀ t, Steps p.tables e below (s₁.setTop (mkF m 0 #[.val (.int i), .unset, .unset, .unset] [])) t → Steps p.tables e below (s₁.setTop (entryFrame m #[(.int i)] maxLocals)) t := fun t k => castTop (ef_0 m i) k
  have w1 : ∀ t, Steps p.tables e below (s₁.setTop (mkF m 5 #[.val (.int i), .val (.int (i &&& (7 : Int32))), .unset, .unset] [])) t → Steps p.tables e below (s₁.setTop (entryFrame m #[(.int i)] maxLocals)) t := fun t k => by
    refine pre0 t ?_
    refine XS.iloadN X0.here hx rfl (hb hby at_0) rfl ?_
    show Steps p.tables e below (s₁.setTop (mkF m 1 #[.val (.int i), .unset, .unset, .unset] [(.int i)])) _
    refine XS.bipush X0.here hx rfl (hb hby at_1) ?_
    show Steps p.tables e below (s₁.setTop (mkF m 3 #[.val (.int i), .unset, .unset, .unset] [(.int (7 : Int32)), (.int i)])) _
    refine XS.iand X0.here hx rfl (hb hby at_3) rfl ?_
    show Steps p.tables e below (s₁.setTop (mkF m 4 #[.val (.int i), .unset, .unset, .unset] [(.int (i &&& (7 : Int32)))])) _
    refine XS.istoreN X0.here hx rfl (hb hby at_4) rfl (l' := #[.val (.int i), .val (.int (i &&& (7 : Int32))), .unset, .unset]) rfl ?_
    show Steps p.tables e below (s₁.setTop (mkF m 5 #[.val (.int i), .val (.int (i &&& (7 : Int32))), .unset, .unset] [])) _
    exact k
  rcases own_8 i with hk2 | hk2 | hk2 | hk2 | hk2 | hk2 | hk2 | hk2
  · have w3 : ∀ t, Steps p.tables e below (s₁.setTop (mkF m 5 #[.val (.int i), .val (.int (0 : Int32)), .unset, .unset] [])) t → Steps p.tables e below (s₁.setTop (entryFrame m #[(.int i)] maxLocals)) t := by
      have q := w1
      simp only [hk2] at q
      exact q
    obtain ⟨_, _, ⟨T4, L4, k4, n4⟩, -, X4, ⟨Lc4, hQ4, l4, y4, z4⟩, st4⟩ := Jvm.LawKit.callS X0 hx (y := (⟨"com/example/querent/querent/translation/AggregationIsOptionalPinLaw", "pick", "(I)Lcom/example/querent/querent/translation/Aggregation;"⟩ : MethodName)) hown (mvT hZ (hw _ (List.mem_of_getElem? (i := 0) rfl))) (mvT hZ (hw _ (List.mem_of_getElem? (i := 1) rfl))) (mvT hZ (hw _ (List.mem_of_getElem? (i := 2) rfl))) (mvT hZ (hw _ (List.mem_of_getElem? (i := 3) rfl))) (by decide) (backOf (W := 0) (rm1_k0 l Z a0 hw [] s_COUNT h0 n0 O S_s_COUNT) hZ (hw _ (List.mem_of_getElem? (i := 3) rfl)) (hw _ (List.mem_of_getElem? (i := 2) rfl)) (by decide) (by decide)) (g := (mkF m 6 #[.val (.int i), .val (.int (0 : Int32)), .unset, .unset] [(.int (0 : Int32))])) rfl (by rw [hml]; rfl) (argsL := [(.int (0 : Int32))]) (rest := []) (lenOf pd__40I_41Lcom_47example_47querent_47querent_47translation_47Aggregation_59 rfl) rfl (by show 2 * 0 + _ ≤ _; exact Nat.le_of_eq rfl) (hb hby at_6) (fun _ _ => ⟨rfl, e0, (by decide : 0 + 0 ≤ _), (by decide : 0 + 0 ≤ _)⟩)
    dsimp only [Pt.U, Pt.locs, Pt.cells, Pt.slots] at X4 l4 y4 z4 st4 hQ4
    subst l4 y4 z4
    obtain ⟨rfl, N4q, eh4⟩ := hQ4
    have N4 := Fr.app N0 N4q
    obtain ⟨cq5, kq5, q5a, q5b, q5c⟩ := isOf hZ eh4 E_s_COUNT
    obtain ⟨_, _, ⟨T5, L5, k5, n5⟩, -, X5, ⟨Lc5, hQ5, l5, y5, z5⟩, st5⟩ := X4.virtualBack hx (y := (⟨"com/example/querent/querent/translation/Aggregation", "isOptional", "()Z"⟩ : MethodName)) (z := (⟨"com/example/querent/querent/translation/Aggregation", "isOptional", "()Z"⟩ : MethodName)) hown (mvT hZ (hw _ (List.mem_of_getElem? (i := 7) rfl))) (mvT hZ (hw _ (List.mem_of_getElem? (i := 8) rfl))) (notFace_of_selects (args := #[]) (mvT hZ (hw _ (List.mem_of_getElem? (i := 10) rfl)))) (mvT hZ (hw _ (List.mem_of_getElem? (i := 10) rfl))) (mvT hZ (hw _ (List.mem_of_getElem? (i := 9) rfl))) (by decide) (backOf (W := 0) (rm2 l Z a0 hw [] s_COUNT s_MIN s_MAX s_AVG h0 n0 O S_s_MIN S_s_MAX S_s_AVG) hZ (hw _ (List.mem_of_getElem? (i := 11) rfl)) (hw _ (List.mem_of_getElem? (i := 5) rfl)) (by decide) (by decide)) q5a q5c (g := (mkF m 34 #[.val (.int i), .val (.int (0 : Int32)), .val (.ref s_COUNT), .val (.int (0 : Int32))] [(.ref s_COUNT)])) rfl (by rw [hml]; rfl) (Steps.refl _) (argsL := []) (rest := []) (lenOf pd__40_41Z rfl) rfl (by show 2 * 0 + _ ≤ _; exact Nat.le_of_eq rfl) (hb hby at_34) (fun _ _ => ⟨rfl, eh4, (by decide : 0 + 0 ≤ _), (by decide : 0 + 0 ≤ _)⟩)
    dsimp only [Pt.U, Pt.locs, Pt.cells, Pt.slots] at X5 l5 y5 z5 st5 hQ5
    subst l5 y5 z5
    obtain ⟨rfl, N5q, eh5⟩ := hQ5
    have N5 := Fr.app N4 N5q
    have w6 : ∀ t, Steps p.tables e below (T5.setTop (mkF m 46 #[.val (.int i), .val (.int (0 : Int32)), .val (.ref s_COUNT), .val (.int (0 : Int32))] [(.int (1 : Int32))])) t → Steps p.tables e below (s₁.setTop (entryFrame m #[(.int i)] maxLocals)) t := fun t k => by
      refine w3 t ?_
      refine XS.iloadN X0.here hx rfl (hb hby at_5) rfl ?_
      show Steps p.tables e below (s₁.setTop (mkF m 6 #[.val (.int i), .val (.int (0 : Int32)), .unset, .unset] [(.int (0 : Int32))])) _
      refine st4 _ ?_
      show Steps p.tables e below (T4.setTop (mkF m 9 #[.val (.int i), .val (.int (0 : Int32)), .unset, .unset] [(.ref s_COUNT)])) _
      refine XS.astoreN X4.here hx rfl (hb hby at_9) rfl rfl (l' := #[.val (.int i), .val (.int (0 : Int32)), .val (.ref s_COUNT), .unset]) rfl ?_
      show Steps p.tables e below (T4.setTop (mkF m 10 #[.val (.int i), .val (.int (0 : Int32)), .val (.ref s_COUNT), .unset] [])) _
      refine XS.iloadN X4.here hx rfl (hb hby at_10) rfl ?_
      show Steps p.tables e below (T4.setTop (mkF m 11 #[.val (.int i), .val (.int (0 : Int32)), .val (.ref s_COUNT), .unset] [(.int (0 : Int32))])) _
      refine XS.iconst X4.here hx rfl (hb hby at_11) ?_
      show Steps p.tables e below (T4.setTop (mkF m 12 #[.val (.int i), .val (.int (0 : Int32)), .val (.ref s_COUNT), .unset] [(.int (5 : Int32)), (.int (0 : Int32))])) _
      refine XS.icmpNo X4.here hx rfl (hb hby at_12) rfl (feq ((by decide) : ¬ ((0 : Int32) = (5 : Int32)))).1 ?_
      show Steps p.tables e below (T4.setTop (mkF m 15 #[.val (.int i), .val (.int (0 : Int32)), .val (.ref s_COUNT), .unset] [])) _
      refine XS.iloadN X4.here hx rfl (hb hby at_15) rfl ?_
      show Steps p.tables e below (T4.setTop (mkF m 16 #[.val (.int i), .val (.int (0 : Int32)), .val (.ref s_COUNT), .unset] [(.int (0 : Int32))])) _
      refine XS.bipush X4.here hx rfl (hb hby at_16) ?_
      show Steps p.tables e below (T4.setTop (mkF m 18 #[.val (.int i), .val (.int (0 : Int32)), .val (.ref s_COUNT), .unset] [(.int (6 : Int32)), (.int (0 : Int32))])) _
      refine XS.icmpNo X4.here hx rfl (hb hby at_18) rfl (feq ((by decide) : ¬ ((0 : Int32) = (6 : Int32)))).1 ?_
      show Steps p.tables e below (T4.setTop (mkF m 21 #[.val (.int i), .val (.int (0 : Int32)), .val (.ref s_COUNT), .unset] [])) _
      refine XS.iloadN X4.here hx rfl (hb hby at_21) rfl ?_
      show Steps p.tables e below (T4.setTop (mkF m 22 #[.val (.int i), .val (.int (0 : Int32)), .val (.ref s_COUNT), .unset] [(.int (0 : Int32))])) _
      refine XS.bipush X4.here hx rfl (hb hby at_22) ?_
      show Steps p.tables e below (T4.setTop (mkF m 24 #[.val (.int i), .val (.int (0 : Int32)), .val (.ref s_COUNT), .unset] [(.int (7 : Int32)), (.int (0 : Int32))])) _
      refine XS.icmpYes X4.here hx rfl (pc0 := 24) (pc' := 31) rfl (hb hby at_24) rfl (feq ((by decide) : ¬ ((0 : Int32) = (7 : Int32)))).2 (by decide) (by decide) ?_
      show Steps p.tables e below (T4.setTop (mkF m 31 #[.val (.int i), .val (.int (0 : Int32)), .val (.ref s_COUNT), .unset] [])) _
      refine XS.iconst X4.here hx rfl (hb hby at_31) ?_
      show Steps p.tables e below (T4.setTop (mkF m 32 #[.val (.int i), .val (.int (0 : Int32)), .val (.ref s_COUNT), .unset] [(.int (0 : Int32))])) _
      refine XS.istoreN X4.here hx rfl (hb hby at_32) rfl (l' := #[.val (.int i), .val (.int (0 : Int32)), .val (.ref s_COUNT), .val (.int (0 : Int32))]) rfl ?_
      show Steps p.tables e below (T4.setTop (mkF m 33 #[.val (.int i), .val (.int (0 : Int32)), .val (.ref s_COUNT), .val (.int (0 : Int32))] [])) _
      refine XS.aloadN X4.here hx rfl (hb hby at_33) rfl rfl ?_
      show Steps p.tables e below (T4.setTop (mkF m 34 #[.val (.int i), .val (.int (0 : Int32)), .val (.ref s_COUNT), .val (.int (0 : Int32))] [(.ref s_COUNT)])) _
      refine st5.trans ?_
      show Steps p.tables e below (T5.setTop (mkF m 37 #[.val (.int i), .val (.int (0 : Int32)), .val (.ref s_COUNT), .val (.int (0 : Int32))] [(.int (own_o s_COUNT s_MIN s_MAX s_AVG))])) _
      refine XS.iloadN X5.here hx rfl (hb hby at_37) rfl ?_
      show Steps p.tables e below (T5.setTop (mkF m 38 #[.val (.int i), .val (.int (0 : Int32)), .val (.ref s_COUNT), .val (.int (0 : Int32))] [(.int (0 : Int32)), (.int (own_o s_COUNT s_MIN s_MAX s_AVG))])) _
      refine XS.icmpNo X5.here hx rfl (hb hby at_38) rfl (teq (by simp [own_o, ne_COUNT_MIN, ne_COUNT_MAX, ne_COUNT_AVG, ne_SUM_INTEGER_MIN, ne_SUM_INTEGER_MAX, ne_SUM_INTEGER_AVG, ne_SUM_LONG_MIN, ne_SUM_LONG_MAX, ne_SUM_LONG_AVG, ne_SUM_DOUBLE_MIN, ne_SUM_DOUBLE_MAX, ne_SUM_DOUBLE_AVG, ne_SUM_BIG_DECIMAL_MIN, ne_SUM_BIG_DECIMAL_MAX, ne_SUM_BIG_DECIMAL_AVG, ne_MIN_MAX, ne_MIN_AVG, ne_MAX_MIN, ne_MAX_AVG, ne_AVG_MIN, ne_AVG_MAX] : (own_o s_COUNT s_MIN s_MAX s_AVG) = (0 : Int32))).2 ?_
      show Steps p.tables e below (T5.setTop (mkF m 41 #[.val (.int i), .val (.int (0 : Int32)), .val (.ref s_COUNT), .val (.int (0 : Int32))] [])) _
      refine XS.iconst X5.here hx rfl (hb hby at_41) ?_
      show Steps p.tables e below (T5.setTop (mkF m 42 #[.val (.int i), .val (.int (0 : Int32)), .val (.ref s_COUNT), .val (.int (0 : Int32))] [(.int (1 : Int32))])) _
      refine XS.goto X5.here hx rfl (pc0 := 42) (pc' := 46) rfl (hb hby at_42) (by decide) (by decide) ?_
      show Steps p.tables e below (T5.setTop (mkF m 46 #[.val (.int i), .val (.int (0 : Int32)), .val (.ref s_COUNT), .val (.int (0 : Int32))] [(.int (1 : Int32))])) _
      exact k
    obtain ⟨fs, hr, hrun, hended, hW, hsame⟩ := X5.leave (v := some (.int (1 : Int32))) (fun h => by rw [Bd.returns] at h; cases h)
    refine ⟨_, _, w6 _ ?_, hrun, hended, _, _, rfl, ?_, ⟨_, rfl⟩, hW, hsame.mono (by decide) (by decide)⟩
    · exact retN X5 hx (t := .boolean) Bd.returns (by simp) (hb hby at_46) hr
    · show Q0 Z i s_COUNT s_MIN s_MAX s_AVG s_SUM_INTEGER s_SUM_LONG s_SUM_DOUBLE s_SUM_BIG_DECIMAL h0 n0 _ T5.heap _
      rw [eh5]
      exact ⟨rfl, N5, rfl⟩
  · have w7 : ∀ t, Steps p.tables e below (s₁.setTop (mkF m 5 #[.val (.int i), .val (.int (1 : Int32)), .unset, .unset] [])) t → Steps p.tables e below (s₁.setTop (entryFrame m #[(.int i)] maxLocals)) t := by
      have q := w1
      simp only [hk2] at q
      exact q
    obtain ⟨_, _, ⟨T8, L8, k8, n8⟩, -, X8, ⟨Lc8, hQ8, l8, y8, z8⟩, st8⟩ := Jvm.LawKit.callS X0 hx (y := (⟨"com/example/querent/querent/translation/AggregationIsOptionalPinLaw", "pick", "(I)Lcom/example/querent/querent/translation/Aggregation;"⟩ : MethodName)) hown (mvT hZ (hw _ (List.mem_of_getElem? (i := 0) rfl))) (mvT hZ (hw _ (List.mem_of_getElem? (i := 1) rfl))) (mvT hZ (hw _ (List.mem_of_getElem? (i := 2) rfl))) (mvT hZ (hw _ (List.mem_of_getElem? (i := 3) rfl))) (by decide) (backOf (W := 0) (rm1_k1 l Z a0 hw [] s_SUM_INTEGER h0 n0 O S_s_SUM_INTEGER) hZ (hw _ (List.mem_of_getElem? (i := 3) rfl)) (hw _ (List.mem_of_getElem? (i := 2) rfl)) (by decide) (by decide)) (g := (mkF m 6 #[.val (.int i), .val (.int (1 : Int32)), .unset, .unset] [(.int (1 : Int32))])) rfl (by rw [hml]; rfl) (argsL := [(.int (1 : Int32))]) (rest := []) (lenOf pd__40I_41Lcom_47example_47querent_47querent_47translation_47Aggregation_59 rfl) rfl (by show 2 * 0 + _ ≤ _; exact Nat.le_of_eq rfl) (hb hby at_6) (fun _ _ => ⟨rfl, e0, (by decide : 0 + 0 ≤ _), (by decide : 0 + 0 ≤ _)⟩)
    dsimp only [Pt.U, Pt.locs, Pt.cells, Pt.slots] at X8 l8 y8 z8 st8 hQ8
    subst l8 y8 z8
    obtain ⟨rfl, N8q, eh8⟩ := hQ8
    have N8 := Fr.app N0 N8q
    obtain ⟨cq9, kq9, q9a, q9b, q9c⟩ := isOf hZ eh8 E_s_SUM_INTEGER
    obtain ⟨_, _, ⟨T9, L9, k9, n9⟩, -, X9, ⟨Lc9, hQ9, l9, y9, z9⟩, st9⟩ := X8.virtualBack hx (y := (⟨"com/example/querent/querent/translation/Aggregation", "isOptional", "()Z"⟩ : MethodName)) (z := (⟨"com/example/querent/querent/translation/Aggregation", "isOptional", "()Z"⟩ : MethodName)) hown (mvT hZ (hw _ (List.mem_of_getElem? (i := 7) rfl))) (mvT hZ (hw _ (List.mem_of_getElem? (i := 8) rfl))) (notFace_of_selects (args := #[]) (mvT hZ (hw _ (List.mem_of_getElem? (i := 10) rfl)))) (mvT hZ (hw _ (List.mem_of_getElem? (i := 10) rfl))) (mvT hZ (hw _ (List.mem_of_getElem? (i := 9) rfl))) (by decide) (backOf (W := 0) (rm2 l Z a0 hw [] s_SUM_INTEGER s_MIN s_MAX s_AVG h0 n0 O S_s_MIN S_s_MAX S_s_AVG) hZ (hw _ (List.mem_of_getElem? (i := 11) rfl)) (hw _ (List.mem_of_getElem? (i := 5) rfl)) (by decide) (by decide)) q9a q9c (g := (mkF m 34 #[.val (.int i), .val (.int (1 : Int32)), .val (.ref s_SUM_INTEGER), .val (.int (0 : Int32))] [(.ref s_SUM_INTEGER)])) rfl (by rw [hml]; rfl) (Steps.refl _) (argsL := []) (rest := []) (lenOf pd__40_41Z rfl) rfl (by show 2 * 0 + _ ≤ _; exact Nat.le_of_eq rfl) (hb hby at_34) (fun _ _ => ⟨rfl, eh8, (by decide : 0 + 0 ≤ _), (by decide : 0 + 0 ≤ _)⟩)
    dsimp only [Pt.U, Pt.locs, Pt.cells, Pt.slots] at X9 l9 y9 z9 st9 hQ9
    subst l9 y9 z9
    obtain ⟨rfl, N9q, eh9⟩ := hQ9
    have N9 := Fr.app N8 N9q
    have w10 : ∀ t, Steps p.tables e below (T9.setTop (mkF m 46 #[.val (.int i), .val (.int (1 : Int32)), .val (.ref s_SUM_INTEGER), .val (.int (0 : Int32))] [(.int (1 : Int32))])) t → Steps p.tables e below (s₁.setTop (entryFrame m #[(.int i)] maxLocals)) t := fun t k => by
      refine w7 t ?_
      refine XS.iloadN X0.here hx rfl (hb hby at_5) rfl ?_
      show Steps p.tables e below (s₁.setTop (mkF m 6 #[.val (.int i), .val (.int (1 : Int32)), .unset, .unset] [(.int (1 : Int32))])) _
      refine st8 _ ?_
      show Steps p.tables e below (T8.setTop (mkF m 9 #[.val (.int i), .val (.int (1 : Int32)), .unset, .unset] [(.ref s_SUM_INTEGER)])) _
      refine XS.astoreN X8.here hx rfl (hb hby at_9) rfl rfl (l' := #[.val (.int i), .val (.int (1 : Int32)), .val (.ref s_SUM_INTEGER), .unset]) rfl ?_
      show Steps p.tables e below (T8.setTop (mkF m 10 #[.val (.int i), .val (.int (1 : Int32)), .val (.ref s_SUM_INTEGER), .unset] [])) _
      refine XS.iloadN X8.here hx rfl (hb hby at_10) rfl ?_
      show Steps p.tables e below (T8.setTop (mkF m 11 #[.val (.int i), .val (.int (1 : Int32)), .val (.ref s_SUM_INTEGER), .unset] [(.int (1 : Int32))])) _
      refine XS.iconst X8.here hx rfl (hb hby at_11) ?_
      show Steps p.tables e below (T8.setTop (mkF m 12 #[.val (.int i), .val (.int (1 : Int32)), .val (.ref s_SUM_INTEGER), .unset] [(.int (5 : Int32)), (.int (1 : Int32))])) _
      refine XS.icmpNo X8.here hx rfl (hb hby at_12) rfl (feq ((by decide) : ¬ ((1 : Int32) = (5 : Int32)))).1 ?_
      show Steps p.tables e below (T8.setTop (mkF m 15 #[.val (.int i), .val (.int (1 : Int32)), .val (.ref s_SUM_INTEGER), .unset] [])) _
      refine XS.iloadN X8.here hx rfl (hb hby at_15) rfl ?_
      show Steps p.tables e below (T8.setTop (mkF m 16 #[.val (.int i), .val (.int (1 : Int32)), .val (.ref s_SUM_INTEGER), .unset] [(.int (1 : Int32))])) _
      refine XS.bipush X8.here hx rfl (hb hby at_16) ?_
      show Steps p.tables e below (T8.setTop (mkF m 18 #[.val (.int i), .val (.int (1 : Int32)), .val (.ref s_SUM_INTEGER), .unset] [(.int (6 : Int32)), (.int (1 : Int32))])) _
      refine XS.icmpNo X8.here hx rfl (hb hby at_18) rfl (feq ((by decide) : ¬ ((1 : Int32) = (6 : Int32)))).1 ?_
      show Steps p.tables e below (T8.setTop (mkF m 21 #[.val (.int i), .val (.int (1 : Int32)), .val (.ref s_SUM_INTEGER), .unset] [])) _
      refine XS.iloadN X8.here hx rfl (hb hby at_21) rfl ?_
      show Steps p.tables e below (T8.setTop (mkF m 22 #[.val (.int i), .val (.int (1 : Int32)), .val (.ref s_SUM_INTEGER), .unset] [(.int (1 : Int32))])) _
      refine XS.bipush X8.here hx rfl (hb hby at_22) ?_
      show Steps p.tables e below (T8.setTop (mkF m 24 #[.val (.int i), .val (.int (1 : Int32)), .val (.ref s_SUM_INTEGER), .unset] [(.int (7 : Int32)), (.int (1 : Int32))])) _
      refine XS.icmpYes X8.here hx rfl (pc0 := 24) (pc' := 31) rfl (hb hby at_24) rfl (feq ((by decide) : ¬ ((1 : Int32) = (7 : Int32)))).2 (by decide) (by decide) ?_
      show Steps p.tables e below (T8.setTop (mkF m 31 #[.val (.int i), .val (.int (1 : Int32)), .val (.ref s_SUM_INTEGER), .unset] [])) _
      refine XS.iconst X8.here hx rfl (hb hby at_31) ?_
      show Steps p.tables e below (T8.setTop (mkF m 32 #[.val (.int i), .val (.int (1 : Int32)), .val (.ref s_SUM_INTEGER), .unset] [(.int (0 : Int32))])) _
      refine XS.istoreN X8.here hx rfl (hb hby at_32) rfl (l' := #[.val (.int i), .val (.int (1 : Int32)), .val (.ref s_SUM_INTEGER), .val (.int (0 : Int32))]) rfl ?_
      show Steps p.tables e below (T8.setTop (mkF m 33 #[.val (.int i), .val (.int (1 : Int32)), .val (.ref s_SUM_INTEGER), .val (.int (0 : Int32))] [])) _
      refine XS.aloadN X8.here hx rfl (hb hby at_33) rfl rfl ?_
      show Steps p.tables e below (T8.setTop (mkF m 34 #[.val (.int i), .val (.int (1 : Int32)), .val (.ref s_SUM_INTEGER), .val (.int (0 : Int32))] [(.ref s_SUM_INTEGER)])) _
      refine st9.trans ?_
      show Steps p.tables e below (T9.setTop (mkF m 37 #[.val (.int i), .val (.int (1 : Int32)), .val (.ref s_SUM_INTEGER), .val (.int (0 : Int32))] [(.int (own_o s_SUM_INTEGER s_MIN s_MAX s_AVG))])) _
      refine XS.iloadN X9.here hx rfl (hb hby at_37) rfl ?_
      show Steps p.tables e below (T9.setTop (mkF m 38 #[.val (.int i), .val (.int (1 : Int32)), .val (.ref s_SUM_INTEGER), .val (.int (0 : Int32))] [(.int (0 : Int32)), (.int (own_o s_SUM_INTEGER s_MIN s_MAX s_AVG))])) _
      refine XS.icmpNo X9.here hx rfl (hb hby at_38) rfl (teq (by simp [own_o, ne_COUNT_MIN, ne_COUNT_MAX, ne_COUNT_AVG, ne_SUM_INTEGER_MIN, ne_SUM_INTEGER_MAX, ne_SUM_INTEGER_AVG, ne_SUM_LONG_MIN, ne_SUM_LONG_MAX, ne_SUM_LONG_AVG, ne_SUM_DOUBLE_MIN, ne_SUM_DOUBLE_MAX, ne_SUM_DOUBLE_AVG, ne_SUM_BIG_DECIMAL_MIN, ne_SUM_BIG_DECIMAL_MAX, ne_SUM_BIG_DECIMAL_AVG, ne_MIN_MAX, ne_MIN_AVG, ne_MAX_MIN, ne_MAX_AVG, ne_AVG_MIN, ne_AVG_MAX] : (own_o s_SUM_INTEGER s_MIN s_MAX s_AVG) = (0 : Int32))).2 ?_
      show Steps p.tables e below (T9.setTop (mkF m 41 #[.val (.int i), .val (.int (1 : Int32)), .val (.ref s_SUM_INTEGER), .val (.int (0 : Int32))] [])) _
      refine XS.iconst X9.here hx rfl (hb hby at_41) ?_
      show Steps p.tables e below (T9.setTop (mkF m 42 #[.val (.int i), .val (.int (1 : Int32)), .val (.ref s_SUM_INTEGER), .val (.int (0 : Int32))] [(.int (1 : Int32))])) _
      refine XS.goto X9.here hx rfl (pc0 := 42) (pc' := 46) rfl (hb hby at_42) (by decide) (by decide) ?_
      show Steps p.tables e below (T9.setTop (mkF m 46 #[.val (.int i), .val (.int (1 : Int32)), .val (.ref s_SUM_INTEGER), .val (.int (0 : Int32))] [(.int (1 : Int32))])) _
      exact k
    obtain ⟨fs, hr, hrun, hended, hW, hsame⟩ := X9.leave (v := some (.int (1 : Int32))) (fun h => by rw [Bd.returns] at h; cases h)
    refine ⟨_, _, w10 _ ?_, hrun, hended, _, _, rfl, ?_, ⟨_, rfl⟩, hW, hsame.mono (by decide) (by decide)⟩
    · exact retN X9 hx (t := .boolean) Bd.returns (by simp) (hb hby at_46) hr
    · show Q0 Z i s_COUNT s_MIN s_MAX s_AVG s_SUM_INTEGER s_SUM_LONG s_SUM_DOUBLE s_SUM_BIG_DECIMAL h0 n0 _ T9.heap _
      rw [eh9]
      exact ⟨rfl, N9, rfl⟩
  · have w11 : ∀ t, Steps p.tables e below (s₁.setTop (mkF m 5 #[.val (.int i), .val (.int (2 : Int32)), .unset, .unset] [])) t → Steps p.tables e below (s₁.setTop (entryFrame m #[(.int i)] maxLocals)) t := by
      have q := w1
      simp only [hk2] at q
      exact q
    obtain ⟨_, _, ⟨T12, L12, k12, n12⟩, -, X12, ⟨Lc12, hQ12, l12, y12, z12⟩, st12⟩ := Jvm.LawKit.callS X0 hx (y := (⟨"com/example/querent/querent/translation/AggregationIsOptionalPinLaw", "pick", "(I)Lcom/example/querent/querent/translation/Aggregation;"⟩ : MethodName)) hown (mvT hZ (hw _ (List.mem_of_getElem? (i := 0) rfl))) (mvT hZ (hw _ (List.mem_of_getElem? (i := 1) rfl))) (mvT hZ (hw _ (List.mem_of_getElem? (i := 2) rfl))) (mvT hZ (hw _ (List.mem_of_getElem? (i := 3) rfl))) (by decide) (backOf (W := 0) (rm1_k2 l Z a0 hw [] s_SUM_LONG h0 n0 O S_s_SUM_LONG) hZ (hw _ (List.mem_of_getElem? (i := 3) rfl)) (hw _ (List.mem_of_getElem? (i := 2) rfl)) (by decide) (by decide)) (g := (mkF m 6 #[.val (.int i), .val (.int (2 : Int32)), .unset, .unset] [(.int (2 : Int32))])) rfl (by rw [hml]; rfl) (argsL := [(.int (2 : Int32))]) (rest := []) (lenOf pd__40I_41Lcom_47example_47querent_47querent_47translation_47Aggregation_59 rfl) rfl (by show 2 * 0 + _ ≤ _; exact Nat.le_of_eq rfl) (hb hby at_6) (fun _ _ => ⟨rfl, e0, (by decide : 0 + 0 ≤ _), (by decide : 0 + 0 ≤ _)⟩)
    dsimp only [Pt.U, Pt.locs, Pt.cells, Pt.slots] at X12 l12 y12 z12 st12 hQ12
    subst l12 y12 z12
    obtain ⟨rfl, N12q, eh12⟩ := hQ12
    have N12 := Fr.app N0 N12q
    obtain ⟨cq13, kq13, q13a, q13b, q13c⟩ := isOf hZ eh12 E_s_SUM_LONG
    obtain ⟨_, _, ⟨T13, L13, k13, n13⟩, -, X13, ⟨Lc13, hQ13, l13, y13, z13⟩, st13⟩ := X12.virtualBack hx (y := (⟨"com/example/querent/querent/translation/Aggregation", "isOptional", "()Z"⟩ : MethodName)) (z := (⟨"com/example/querent/querent/translation/Aggregation", "isOptional", "()Z"⟩ : MethodName)) hown (mvT hZ (hw _ (List.mem_of_getElem? (i := 7) rfl))) (mvT hZ (hw _ (List.mem_of_getElem? (i := 8) rfl))) (notFace_of_selects (args := #[]) (mvT hZ (hw _ (List.mem_of_getElem? (i := 10) rfl)))) (mvT hZ (hw _ (List.mem_of_getElem? (i := 10) rfl))) (mvT hZ (hw _ (List.mem_of_getElem? (i := 9) rfl))) (by decide) (backOf (W := 0) (rm2 l Z a0 hw [] s_SUM_LONG s_MIN s_MAX s_AVG h0 n0 O S_s_MIN S_s_MAX S_s_AVG) hZ (hw _ (List.mem_of_getElem? (i := 11) rfl)) (hw _ (List.mem_of_getElem? (i := 5) rfl)) (by decide) (by decide)) q13a q13c (g := (mkF m 34 #[.val (.int i), .val (.int (2 : Int32)), .val (.ref s_SUM_LONG), .val (.int (0 : Int32))] [(.ref s_SUM_LONG)])) rfl (by rw [hml]; rfl) (Steps.refl _) (argsL := []) (rest := []) (lenOf pd__40_41Z rfl) rfl (by show 2 * 0 + _ ≤ _; exact Nat.le_of_eq rfl) (hb hby at_34) (fun _ _ => ⟨rfl, eh12, (by decide : 0 + 0 ≤ _), (by decide : 0 + 0 ≤ _)⟩)
    dsimp only [Pt.U, Pt.locs, Pt.cells, Pt.slots] at X13 l13 y13 z13 st13 hQ13
    subst l13 y13 z13
    obtain ⟨rfl, N13q, eh13⟩ := hQ13
    have N13 := Fr.app N12 N13q
    have w14 : ∀ t, Steps p.tables e below (T13.setTop (mkF m 46 #[.val (.int i), .val (.int (2 : Int32)), .val (.ref s_SUM_LONG), .val (.int (0 : Int32))] [(.int (1 : Int32))])) t → Steps p.tables e below (s₁.setTop (entryFrame m #[(.int i)] maxLocals)) t := fun t k => by
      refine w11 t ?_
      refine XS.iloadN X0.here hx rfl (hb hby at_5) rfl ?_
      show Steps p.tables e below (s₁.setTop (mkF m 6 #[.val (.int i), .val (.int (2 : Int32)), .unset, .unset] [(.int (2 : Int32))])) _
      refine st12 _ ?_
      show Steps p.tables e below (T12.setTop (mkF m 9 #[.val (.int i), .val (.int (2 : Int32)), .unset, .unset] [(.ref s_SUM_LONG)])) _
      refine XS.astoreN X12.here hx rfl (hb hby at_9) rfl rfl (l' := #[.val (.int i), .val (.int (2 : Int32)), .val (.ref s_SUM_LONG), .unset]) rfl ?_
      show Steps p.tables e below (T12.setTop (mkF m 10 #[.val (.int i), .val (.int (2 : Int32)), .val (.ref s_SUM_LONG), .unset] [])) _
      refine XS.iloadN X12.here hx rfl (hb hby at_10) rfl ?_
      show Steps p.tables e below (T12.setTop (mkF m 11 #[.val (.int i), .val (.int (2 : Int32)), .val (.ref s_SUM_LONG), .unset] [(.int (2 : Int32))])) _
      refine XS.iconst X12.here hx rfl (hb hby at_11) ?_
      show Steps p.tables e below (T12.setTop (mkF m 12 #[.val (.int i), .val (.int (2 : Int32)), .val (.ref s_SUM_LONG), .unset] [(.int (5 : Int32)), (.int (2 : Int32))])) _
      refine XS.icmpNo X12.here hx rfl (hb hby at_12) rfl (feq ((by decide) : ¬ ((2 : Int32) = (5 : Int32)))).1 ?_
      show Steps p.tables e below (T12.setTop (mkF m 15 #[.val (.int i), .val (.int (2 : Int32)), .val (.ref s_SUM_LONG), .unset] [])) _
      refine XS.iloadN X12.here hx rfl (hb hby at_15) rfl ?_
      show Steps p.tables e below (T12.setTop (mkF m 16 #[.val (.int i), .val (.int (2 : Int32)), .val (.ref s_SUM_LONG), .unset] [(.int (2 : Int32))])) _
      refine XS.bipush X12.here hx rfl (hb hby at_16) ?_
      show Steps p.tables e below (T12.setTop (mkF m 18 #[.val (.int i), .val (.int (2 : Int32)), .val (.ref s_SUM_LONG), .unset] [(.int (6 : Int32)), (.int (2 : Int32))])) _
      refine XS.icmpNo X12.here hx rfl (hb hby at_18) rfl (feq ((by decide) : ¬ ((2 : Int32) = (6 : Int32)))).1 ?_
      show Steps p.tables e below (T12.setTop (mkF m 21 #[.val (.int i), .val (.int (2 : Int32)), .val (.ref s_SUM_LONG), .unset] [])) _
      refine XS.iloadN X12.here hx rfl (hb hby at_21) rfl ?_
      show Steps p.tables e below (T12.setTop (mkF m 22 #[.val (.int i), .val (.int (2 : Int32)), .val (.ref s_SUM_LONG), .unset] [(.int (2 : Int32))])) _
      refine XS.bipush X12.here hx rfl (hb hby at_22) ?_
      show Steps p.tables e below (T12.setTop (mkF m 24 #[.val (.int i), .val (.int (2 : Int32)), .val (.ref s_SUM_LONG), .unset] [(.int (7 : Int32)), (.int (2 : Int32))])) _
      refine XS.icmpYes X12.here hx rfl (pc0 := 24) (pc' := 31) rfl (hb hby at_24) rfl (feq ((by decide) : ¬ ((2 : Int32) = (7 : Int32)))).2 (by decide) (by decide) ?_
      show Steps p.tables e below (T12.setTop (mkF m 31 #[.val (.int i), .val (.int (2 : Int32)), .val (.ref s_SUM_LONG), .unset] [])) _
      refine XS.iconst X12.here hx rfl (hb hby at_31) ?_
      show Steps p.tables e below (T12.setTop (mkF m 32 #[.val (.int i), .val (.int (2 : Int32)), .val (.ref s_SUM_LONG), .unset] [(.int (0 : Int32))])) _
      refine XS.istoreN X12.here hx rfl (hb hby at_32) rfl (l' := #[.val (.int i), .val (.int (2 : Int32)), .val (.ref s_SUM_LONG), .val (.int (0 : Int32))]) rfl ?_
      show Steps p.tables e below (T12.setTop (mkF m 33 #[.val (.int i), .val (.int (2 : Int32)), .val (.ref s_SUM_LONG), .val (.int (0 : Int32))] [])) _
      refine XS.aloadN X12.here hx rfl (hb hby at_33) rfl rfl ?_
      show Steps p.tables e below (T12.setTop (mkF m 34 #[.val (.int i), .val (.int (2 : Int32)), .val (.ref s_SUM_LONG), .val (.int (0 : Int32))] [(.ref s_SUM_LONG)])) _
      refine st13.trans ?_
      show Steps p.tables e below (T13.setTop (mkF m 37 #[.val (.int i), .val (.int (2 : Int32)), .val (.ref s_SUM_LONG), .val (.int (0 : Int32))] [(.int (own_o s_SUM_LONG s_MIN s_MAX s_AVG))])) _
      refine XS.iloadN X13.here hx rfl (hb hby at_37) rfl ?_
      show Steps p.tables e below (T13.setTop (mkF m 38 #[.val (.int i), .val (.int (2 : Int32)), .val (.ref s_SUM_LONG), .val (.int (0 : Int32))] [(.int (0 : Int32)), (.int (own_o s_SUM_LONG s_MIN s_MAX s_AVG))])) _
      refine XS.icmpNo X13.here hx rfl (hb hby at_38) rfl (teq (by simp [own_o, ne_COUNT_MIN, ne_COUNT_MAX, ne_COUNT_AVG, ne_SUM_INTEGER_MIN, ne_SUM_INTEGER_MAX, ne_SUM_INTEGER_AVG, ne_SUM_LONG_MIN, ne_SUM_LONG_MAX, ne_SUM_LONG_AVG, ne_SUM_DOUBLE_MIN, ne_SUM_DOUBLE_MAX, ne_SUM_DOUBLE_AVG, ne_SUM_BIG_DECIMAL_MIN, ne_SUM_BIG_DECIMAL_MAX, ne_SUM_BIG_DECIMAL_AVG, ne_MIN_MAX, ne_MIN_AVG, ne_MAX_MIN, ne_MAX_AVG, ne_AVG_MIN, ne_AVG_MAX] : (own_o s_SUM_LONG s_MIN s_MAX s_AVG) = (0 : Int32))).2 ?_
      show Steps p.tables e below (T13.setTop (mkF m 41 #[.val (.int i), .val (.int (2 : Int32)), .val (.ref s_SUM_LONG), .val (.int (0 : Int32))] [])) _
      refine XS.iconst X13.here hx rfl (hb hby at_41) ?_
      show Steps p.tables e below (T13.setTop (mkF m 42 #[.val (.int i), .val (.int (2 : Int32)), .val (.ref s_SUM_LONG), .val (.int (0 : Int32))] [(.int (1 : Int32))])) _
      refine XS.goto X13.here hx rfl (pc0 := 42) (pc' := 46) rfl (hb hby at_42) (by decide) (by decide) ?_
      show Steps p.tables e below (T13.setTop (mkF m 46 #[.val (.int i), .val (.int (2 : Int32)), .val (.ref s_SUM_LONG), .val (.int (0 : Int32))] [(.int (1 : Int32))])) _
      exact k
    obtain ⟨fs, hr, hrun, hended, hW, hsame⟩ := X13.leave (v := some (.int (1 : Int32))) (fun h => by rw [Bd.returns] at h; cases h)
    refine ⟨_, _, w14 _ ?_, hrun, hended, _, _, rfl, ?_, ⟨_, rfl⟩, hW, hsame.mono (by decide) (by decide)⟩
    · exact retN X13 hx (t := .boolean) Bd.returns (by simp) (hb hby at_46) hr
    · show Q0 Z i s_COUNT s_MIN s_MAX s_AVG s_SUM_INTEGER s_SUM_LONG s_SUM_DOUBLE s_SUM_BIG_DECIMAL h0 n0 _ T13.heap _
      rw [eh13]
      exact ⟨rfl, N13, rfl⟩
  · have w15 : ∀ t, Steps p.tables e below (s₁.setTop (mkF m 5 #[.val (.int i), .val (.int (3 : Int32)), .unset, .unset] [])) t → Steps p.tables e below (s₁.setTop (entryFrame m #[(.int i)] maxLocals)) t := by
      have q := w1
      simp only [hk2] at q
      exact q
    obtain ⟨_, _, ⟨T16, L16, k16, n16⟩, -, X16, ⟨Lc16, hQ16, l16, y16, z16⟩, st16⟩ := Jvm.LawKit.callS X0 hx (y := (⟨"com/example/querent/querent/translation/AggregationIsOptionalPinLaw", "pick", "(I)Lcom/example/querent/querent/translation/Aggregation;"⟩ : MethodName)) hown (mvT hZ (hw _ (List.mem_of_getElem? (i := 0) rfl))) (mvT hZ (hw _ (List.mem_of_getElem? (i := 1) rfl))) (mvT hZ (hw _ (List.mem_of_getElem? (i := 2) rfl))) (mvT hZ (hw _ (List.mem_of_getElem? (i := 3) rfl))) (by decide) (backOf (W := 0) (rm1_k3 l Z a0 hw [] s_SUM_DOUBLE h0 n0 O S_s_SUM_DOUBLE) hZ (hw _ (List.mem_of_getElem? (i := 3) rfl)) (hw _ (List.mem_of_getElem? (i := 2) rfl)) (by decide) (by decide)) (g := (mkF m 6 #[.val (.int i), .val (.int (3 : Int32)), .unset, .unset] [(.int (3 : Int32))])) rfl (by rw [hml]; rfl) (argsL := [(.int (3 : Int32))]) (rest := []) (lenOf pd__40I_41Lcom_47example_47querent_47querent_47translation_47Aggregation_59 rfl) rfl (by show 2 * 0 + _ ≤ _; exact Nat.le_of_eq rfl) (hb hby at_6) (fun _ _ => ⟨rfl, e0, (by decide : 0 + 0 ≤ _), (by decide : 0 + 0 ≤ _)⟩)
    dsimp only [Pt.U, Pt.locs, Pt.cells, Pt.slots] at X16 l16 y16 z16 st16 hQ16
    subst l16 y16 z16
    obtain ⟨rfl, N16q, eh16⟩ := hQ16
    have N16 := Fr.app N0 N16q
    obtain ⟨cq17, kq17, q17a, q17b, q17c⟩ := isOf hZ eh16 E_s_SUM_DOUBLE
    obtain ⟨_, _, ⟨T17, L17, k17, n17⟩, -, X17, ⟨Lc17, hQ17, l17, y17, z17⟩, st17⟩ := X16.virtualBack hx (y := (⟨"com/example/querent/querent/translation/Aggregation", "isOptional", "()Z"⟩ : MethodName)) (z := (⟨"com/example/querent/querent/translation/Aggregation", "isOptional", "()Z"⟩ : MethodName)) hown (mvT hZ (hw _ (List.mem_of_getElem? (i := 7) rfl))) (mvT hZ (hw _ (List.mem_of_getElem? (i := 8) rfl))) (notFace_of_selects (args := #[]) (mvT hZ (hw _ (List.mem_of_getElem? (i := 10) rfl)))) (mvT hZ (hw _ (List.mem_of_getElem? (i := 10) rfl))) (mvT hZ (hw _ (List.mem_of_getElem? (i := 9) rfl))) (by decide) (backOf (W := 0) (rm2 l Z a0 hw [] s_SUM_DOUBLE s_MIN s_MAX s_AVG h0 n0 O S_s_MIN S_s_MAX S_s_AVG) hZ (hw _ (List.mem_of_getElem? (i := 11) rfl)) (hw _ (List.mem_of_getElem? (i := 5) rfl)) (by decide) (by decide)) q17a q17c (g := (mkF m 34 #[.val (.int i), .val (.int (3 : Int32)), .val (.ref s_SUM_DOUBLE), .val (.int (0 : Int32))] [(.ref s_SUM_DOUBLE)])) rfl (by rw [hml]; rfl) (Steps.refl _) (argsL := []) (rest := []) (lenOf pd__40_41Z rfl) rfl (by show 2 * 0 + _ ≤ _; exact Nat.le_of_eq rfl) (hb hby at_34) (fun _ _ => ⟨rfl, eh16, (by decide : 0 + 0 ≤ _), (by decide : 0 + 0 ≤ _)⟩)
    dsimp only [Pt.U, Pt.locs, Pt.cells, Pt.slots] at X17 l17 y17 z17 st17 hQ17
    subst l17 y17 z17
    obtain ⟨rfl, N17q, eh17⟩ := hQ17
    have N17 := Fr.app N16 N17q
    have w18 : ∀ t, Steps p.tables e below (T17.setTop (mkF m 46 #[.val (.int i), .val (.int (3 : Int32)), .val (.ref s_SUM_DOUBLE), .val (.int (0 : Int32))] [(.int (1 : Int32))])) t → Steps p.tables e below (s₁.setTop (entryFrame m #[(.int i)] maxLocals)) t := fun t k => by
      refine w15 t ?_
      refine XS.iloadN X0.here hx rfl (hb hby at_5) rfl ?_
      show Steps p.tables e below (s₁.setTop (mkF m 6 #[.val (.int i), .val (.int (3 : Int32)), .unset, .unset] [(.int (3 : Int32))])) _
      refine st16 _ ?_
      show Steps p.tables e below (T16.setTop (mkF m 9 #[.val (.int i), .val (.int (3 : Int32)), .unset, .unset] [(.ref s_SUM_DOUBLE)])) _
      refine XS.astoreN X16.here hx rfl (hb hby at_9) rfl rfl (l' := #[.val (.int i), .val (.int (3 : Int32)), .val (.ref s_SUM_DOUBLE), .unset]) rfl ?_
      show Steps p.tables e below (T16.setTop (mkF m 10 #[.val (.int i), .val (.int (3 : Int32)), .val (.ref s_SUM_DOUBLE), .unset] [])) _
      refine XS.iloadN X16.here hx rfl (hb hby at_10) rfl ?_
      show Steps p.tables e below (T16.setTop (mkF m 11 #[.val (.int i), .val (.int (3 : Int32)), .val (.ref s_SUM_DOUBLE), .unset] [(.int (3 : Int32))])) _
      refine XS.iconst X16.here hx rfl (hb hby at_11) ?_
      show Steps p.tables e below (T16.setTop (mkF m 12 #[.val (.int i), .val (.int (3 : Int32)), .val (.ref s_SUM_DOUBLE), .unset] [(.int (5 : Int32)), (.int (3 : Int32))])) _
      refine XS.icmpNo X16.here hx rfl (hb hby at_12) rfl (feq ((by decide) : ¬ ((3 : Int32) = (5 : Int32)))).1 ?_
      show Steps p.tables e below (T16.setTop (mkF m 15 #[.val (.int i), .val (.int (3 : Int32)), .val (.ref s_SUM_DOUBLE), .unset] [])) _
      refine XS.iloadN X16.here hx rfl (hb hby at_15) rfl ?_
      show Steps p.tables e below (T16.setTop (mkF m 16 #[.val (.int i), .val (.int (3 : Int32)), .val (.ref s_SUM_DOUBLE), .unset] [(.int (3 : Int32))])) _
      refine XS.bipush X16.here hx rfl (hb hby at_16) ?_
      show Steps p.tables e below (T16.setTop (mkF m 18 #[.val (.int i), .val (.int (3 : Int32)), .val (.ref s_SUM_DOUBLE), .unset] [(.int (6 : Int32)), (.int (3 : Int32))])) _
      refine XS.icmpNo X16.here hx rfl (hb hby at_18) rfl (feq ((by decide) : ¬ ((3 : Int32) = (6 : Int32)))).1 ?_
      show Steps p.tables e below (T16.setTop (mkF m 21 #[.val (.int i), .val (.int (3 : Int32)), .val (.ref s_SUM_DOUBLE), .unset] [])) _
      refine XS.iloadN X16.here hx rfl (hb hby at_21) rfl ?_
      show Steps p.tables e below (T16.setTop (mkF m 22 #[.val (.int i), .val (.int (3 : Int32)), .val (.ref s_SUM_DOUBLE), .unset] [(.int (3 : Int32))])) _
      refine XS.bipush X16.here hx rfl (hb hby at_22) ?_
      show Steps p.tables e below (T16.setTop (mkF m 24 #[.val (.int i), .val (.int (3 : Int32)), .val (.ref s_SUM_DOUBLE), .unset] [(.int (7 : Int32)), (.int (3 : Int32))])) _
      refine XS.icmpYes X16.here hx rfl (pc0 := 24) (pc' := 31) rfl (hb hby at_24) rfl (feq ((by decide) : ¬ ((3 : Int32) = (7 : Int32)))).2 (by decide) (by decide) ?_
      show Steps p.tables e below (T16.setTop (mkF m 31 #[.val (.int i), .val (.int (3 : Int32)), .val (.ref s_SUM_DOUBLE), .unset] [])) _
      refine XS.iconst X16.here hx rfl (hb hby at_31) ?_
      show Steps p.tables e below (T16.setTop (mkF m 32 #[.val (.int i), .val (.int (3 : Int32)), .val (.ref s_SUM_DOUBLE), .unset] [(.int (0 : Int32))])) _
      refine XS.istoreN X16.here hx rfl (hb hby at_32) rfl (l' := #[.val (.int i), .val (.int (3 : Int32)), .val (.ref s_SUM_DOUBLE), .val (.int (0 : Int32))]) rfl ?_
      show Steps p.tables e below (T16.setTop (mkF m 33 #[.val (.int i), .val (.int (3 : Int32)), .val (.ref s_SUM_DOUBLE), .val (.int (0 : Int32))] [])) _
      refine XS.aloadN X16.here hx rfl (hb hby at_33) rfl rfl ?_
      show Steps p.tables e below (T16.setTop (mkF m 34 #[.val (.int i), .val (.int (3 : Int32)), .val (.ref s_SUM_DOUBLE), .val (.int (0 : Int32))] [(.ref s_SUM_DOUBLE)])) _
      refine st17.trans ?_
      show Steps p.tables e below (T17.setTop (mkF m 37 #[.val (.int i), .val (.int (3 : Int32)), .val (.ref s_SUM_DOUBLE), .val (.int (0 : Int32))] [(.int (own_o s_SUM_DOUBLE s_MIN s_MAX s_AVG))])) _
      refine XS.iloadN X17.here hx rfl (hb hby at_37) rfl ?_
      show Steps p.tables e below (T17.setTop (mkF m 38 #[.val (.int i), .val (.int (3 : Int32)), .val (.ref s_SUM_DOUBLE), .val (.int (0 : Int32))] [(.int (0 : Int32)), (.int (own_o s_SUM_DOUBLE s_MIN s_MAX s_AVG))])) _
      refine XS.icmpNo X17.here hx rfl (hb hby at_38) rfl (teq (by simp [own_o, ne_COUNT_MIN, ne_COUNT_MAX, ne_COUNT_AVG, ne_SUM_INTEGER_MIN, ne_SUM_INTEGER_MAX, ne_SUM_INTEGER_AVG, ne_SUM_LONG_MIN, ne_SUM_LONG_MAX, ne_SUM_LONG_AVG, ne_SUM_DOUBLE_MIN, ne_SUM_DOUBLE_MAX, ne_SUM_DOUBLE_AVG, ne_SUM_BIG_DECIMAL_MIN, ne_SUM_BIG_DECIMAL_MAX, ne_SUM_BIG_DECIMAL_AVG, ne_MIN_MAX, ne_MIN_AVG, ne_MAX_MIN, ne_MAX_AVG, ne_AVG_MIN, ne_AVG_MAX] : (own_o s_SUM_DOUBLE s_MIN s_MAX s_AVG) = (0 : Int32))).2 ?_
      show Steps p.tables e below (T17.setTop (mkF m 41 #[.val (.int i), .val (.int (3 : Int32)), .val (.ref s_SUM_DOUBLE), .val (.int (0 : Int32))] [])) _
      refine XS.iconst X17.here hx rfl (hb hby at_41) ?_
      show Steps p.tables e below (T17.setTop (mkF m 42 #[.val (.int i), .val (.int (3 : Int32)), .val (.ref s_SUM_DOUBLE), .val (.int (0 : Int32))] [(.int (1 : Int32))])) _
      refine XS.goto X17.here hx rfl (pc0 := 42) (pc' := 46) rfl (hb hby at_42) (by decide) (by decide) ?_
      show Steps p.tables e below (T17.setTop (mkF m 46 #[.val (.int i), .val (.int (3 : Int32)), .val (.ref s_SUM_DOUBLE), .val (.int (0 : Int32))] [(.int (1 : Int32))])) _
      exact k
    obtain ⟨fs, hr, hrun, hended, hW, hsame⟩ := X17.leave (v := some (.int (1 : Int32))) (fun h => by rw [Bd.returns] at h; cases h)
    refine ⟨_, _, w18 _ ?_, hrun, hended, _, _, rfl, ?_, ⟨_, rfl⟩, hW, hsame.mono (by decide) (by decide)⟩
    · exact retN X17 hx (t := .boolean) Bd.returns (by simp) (hb hby at_46) hr
    · show Q0 Z i s_COUNT s_MIN s_MAX s_AVG s_SUM_INTEGER s_SUM_LONG s_SUM_DOUBLE s_SUM_BIG_DECIMAL h0 n0 _ T17.heap _
      rw [eh17]
      exact ⟨rfl, N17, rfl⟩
  · have w19 : ∀ t, Steps p.tables e below (s₁.setTop (mkF m 5 #[.val (.int i), .val (.int (4 : Int32)), .unset, .unset] [])) t → Steps p.tables e below (s₁.setTop (entryFrame m #[(.int i)] maxLocals)) t := by
      have q := w1
      simp only [hk2] at q
      exact q
    obtain ⟨_, _, ⟨T20, L20, k20, n20⟩, -, X20, ⟨Lc20, hQ20, l20, y20, z20⟩, st20⟩ := Jvm.LawKit.callS X0 hx (y := (⟨"com/example/querent/querent/translation/AggregationIsOptionalPinLaw", "pick", "(I)Lcom/example/querent/querent/translation/Aggregation;"⟩ : MethodName)) hown (mvT hZ (hw _ (List.mem_of_getElem? (i := 0) rfl))) (mvT hZ (hw _ (List.mem_of_getElem? (i := 1) rfl))) (mvT hZ (hw _ (List.mem_of_getElem? (i := 2) rfl))) (mvT hZ (hw _ (List.mem_of_getElem? (i := 3) rfl))) (by decide) (backOf (W := 0) (rm1_k4 l Z a0 hw [] s_SUM_BIG_DECIMAL h0 n0 O S_s_SUM_BIG_DECIMAL) hZ (hw _ (List.mem_of_getElem? (i := 3) rfl)) (hw _ (List.mem_of_getElem? (i := 2) rfl)) (by decide) (by decide)) (g := (mkF m 6 #[.val (.int i), .val (.int (4 : Int32)), .unset, .unset] [(.int (4 : Int32))])) rfl (by rw [hml]; rfl) (argsL := [(.int (4 : Int32))]) (rest := []) (lenOf pd__40I_41Lcom_47example_47querent_47querent_47translation_47Aggregation_59 rfl) rfl (by show 2 * 0 + _ ≤ _; exact Nat.le_of_eq rfl) (hb hby at_6) (fun _ _ => ⟨rfl, e0, (by decide : 0 + 0 ≤ _), (by decide : 0 + 0 ≤ _)⟩)
    dsimp only [Pt.U, Pt.locs, Pt.cells, Pt.slots] at X20 l20 y20 z20 st20 hQ20
    subst l20 y20 z20
    obtain ⟨rfl, N20q, eh20⟩ := hQ20
    have N20 := Fr.app N0 N20q
    obtain ⟨cq21, kq21, q21a, q21b, q21c⟩ := isOf hZ eh20 E_s_SUM_BIG_DECIMAL
    obtain ⟨_, _, ⟨T21, L21, k21, n21⟩, -, X21, ⟨Lc21, hQ21, l21, y21, z21⟩, st21⟩ := X20.virtualBack hx (y := (⟨"com/example/querent/querent/translation/Aggregation", "isOptional", "()Z"⟩ : MethodName)) (z := (⟨"com/example/querent/querent/translation/Aggregation", "isOptional", "()Z"⟩ : MethodName)) hown (mvT hZ (hw _ (List.mem_of_getElem? (i := 7) rfl))) (mvT hZ (hw _ (List.mem_of_getElem? (i := 8) rfl))) (notFace_of_selects (args := #[]) (mvT hZ (hw _ (List.mem_of_getElem? (i := 10) rfl)))) (mvT hZ (hw _ (List.mem_of_getElem? (i := 10) rfl))) (mvT hZ (hw _ (List.mem_of_getElem? (i := 9) rfl))) (by decide) (backOf (W := 0) (rm2 l Z a0 hw [] s_SUM_BIG_DECIMAL s_MIN s_MAX s_AVG h0 n0 O S_s_MIN S_s_MAX S_s_AVG) hZ (hw _ (List.mem_of_getElem? (i := 11) rfl)) (hw _ (List.mem_of_getElem? (i := 5) rfl)) (by decide) (by decide)) q21a q21c (g := (mkF m 34 #[.val (.int i), .val (.int (4 : Int32)), .val (.ref s_SUM_BIG_DECIMAL), .val (.int (0 : Int32))] [(.ref s_SUM_BIG_DECIMAL)])) rfl (by rw [hml]; rfl) (Steps.refl _) (argsL := []) (rest := []) (lenOf pd__40_41Z rfl) rfl (by show 2 * 0 + _ ≤ _; exact Nat.le_of_eq rfl) (hb hby at_34) (fun _ _ => ⟨rfl, eh20, (by decide : 0 + 0 ≤ _), (by decide : 0 + 0 ≤ _)⟩)
    dsimp only [Pt.U, Pt.locs, Pt.cells, Pt.slots] at X21 l21 y21 z21 st21 hQ21
    subst l21 y21 z21
    obtain ⟨rfl, N21q, eh21⟩ := hQ21
    have N21 := Fr.app N20 N21q
    have w22 : ∀ t, Steps p.tables e below (T21.setTop (mkF m 46 #[.val (.int i), .val (.int (4 : Int32)), .val (.ref s_SUM_BIG_DECIMAL), .val (.int (0 : Int32))] [(.int (1 : Int32))])) t → Steps p.tables e below (s₁.setTop (entryFrame m #[(.int i)] maxLocals)) t := fun t k => by
      refine w19 t ?_
      refine XS.iloadN X0.here hx rfl (hb hby at_5) rfl ?_
      show Steps p.tables e below (s₁.setTop (mkF m 6 #[.val (.int i), .val (.int (4 : Int32)), .unset, .unset] [(.int (4 : Int32))])) _
      refine st20 _ ?_
      show Steps p.tables e below (T20.setTop (mkF m 9 #[.val (.int i), .val (.int (4 : Int32)), .unset, .unset] [(.ref s_SUM_BIG_DECIMAL)])) _
      refine XS.astoreN X20.here hx rfl (hb hby at_9) rfl rfl (l' := #[.val (.int i), .val (.int (4 : Int32)), .val (.ref s_SUM_BIG_DECIMAL), .unset]) rfl ?_
      show Steps p.tables e below (T20.setTop (mkF m 10 #[.val (.int i), .val (.int (4 : Int32)), .val (.ref s_SUM_BIG_DECIMAL), .unset] [])) _
      refine XS.iloadN X20.here hx rfl (hb hby at_10) rfl ?_
      show Steps p.tables e below (T20.setTop (mkF m 11 #[.val (.int i), .val (.int (4 : Int32)), .val (.ref s_SUM_BIG_DECIMAL), .unset] [(.int (4 : Int32))])) _
      refine XS.iconst X20.here hx rfl (hb hby at_11) ?_
      show Steps p.tables e below (T20.setTop (mkF m 12 #[.val (.int i), .val (.int (4 : Int32)), .val (.ref s_SUM_BIG_DECIMAL), .unset] [(.int (5 : Int32)), (.int (4 : Int32))])) _
      refine XS.icmpNo X20.here hx rfl (hb hby at_12) rfl (feq ((by decide) : ¬ ((4 : Int32) = (5 : Int32)))).1 ?_
      show Steps p.tables e below (T20.setTop (mkF m 15 #[.val (.int i), .val (.int (4 : Int32)), .val (.ref s_SUM_BIG_DECIMAL), .unset] [])) _
      refine XS.iloadN X20.here hx rfl (hb hby at_15) rfl ?_
      show Steps p.tables e below (T20.setTop (mkF m 16 #[.val (.int i), .val (.int (4 : Int32)), .val (.ref s_SUM_BIG_DECIMAL), .unset] [(.int (4 : Int32))])) _
      refine XS.bipush X20.here hx rfl (hb hby at_16) ?_
      show Steps p.tables e below (T20.setTop (mkF m 18 #[.val (.int i), .val (.int (4 : Int32)), .val (.ref s_SUM_BIG_DECIMAL), .unset] [(.int (6 : Int32)), (.int (4 : Int32))])) _
      refine XS.icmpNo X20.here hx rfl (hb hby at_18) rfl (feq ((by decide) : ¬ ((4 : Int32) = (6 : Int32)))).1 ?_
      show Steps p.tables e below (T20.setTop (mkF m 21 #[.val (.int i), .val (.int (4 : Int32)), .val (.ref s_SUM_BIG_DECIMAL), .unset] [])) _
      refine XS.iloadN X20.here hx rfl (hb hby at_21) rfl ?_
      show Steps p.tables e below (T20.setTop (mkF m 22 #[.val (.int i), .val (.int (4 : Int32)), .val (.ref s_SUM_BIG_DECIMAL), .unset] [(.int (4 : Int32))])) _
      refine XS.bipush X20.here hx rfl (hb hby at_22) ?_
      show Steps p.tables e below (T20.setTop (mkF m 24 #[.val (.int i), .val (.int (4 : Int32)), .val (.ref s_SUM_BIG_DECIMAL), .unset] [(.int (7 : Int32)), (.int (4 : Int32))])) _
      refine XS.icmpYes X20.here hx rfl (pc0 := 24) (pc' := 31) rfl (hb hby at_24) rfl (feq ((by decide) : ¬ ((4 : Int32) = (7 : Int32)))).2 (by decide) (by decide) ?_
      show Steps p.tables e below (T20.setTop (mkF m 31 #[.val (.int i), .val (.int (4 : Int32)), .val (.ref s_SUM_BIG_DECIMAL), .unset] [])) _
      refine XS.iconst X20.here hx rfl (hb hby at_31) ?_
      show Steps p.tables e below (T20.setTop (mkF m 32 #[.val (.int i), .val (.int (4 : Int32)), .val (.ref s_SUM_BIG_DECIMAL), .unset] [(.int (0 : Int32))])) _
      refine XS.istoreN X20.here hx rfl (hb hby at_32) rfl (l' := #[.val (.int i), .val (.int (4 : Int32)), .val (.ref s_SUM_BIG_DECIMAL), .val (.int (0 : Int32))]) rfl ?_
      show Steps p.tables e below (T20.setTop (mkF m 33 #[.val (.int i), .val (.int (4 : Int32)), .val (.ref s_SUM_BIG_DECIMAL), .val (.int (0 : Int32))] [])) _
      refine XS.aloadN X20.here hx rfl (hb hby at_33) rfl rfl ?_
      show Steps p.tables e below (T20.setTop (mkF m 34 #[.val (.int i), .val (.int (4 : Int32)), .val (.ref s_SUM_BIG_DECIMAL), .val (.int (0 : Int32))] [(.ref s_SUM_BIG_DECIMAL)])) _
      refine st21.trans ?_
      show Steps p.tables e below (T21.setTop (mkF m 37 #[.val (.int i), .val (.int (4 : Int32)), .val (.ref s_SUM_BIG_DECIMAL), .val (.int (0 : Int32))] [(.int (own_o s_SUM_BIG_DECIMAL s_MIN s_MAX s_AVG))])) _
      refine XS.iloadN X21.here hx rfl (hb hby at_37) rfl ?_
      show Steps p.tables e below (T21.setTop (mkF m 38 #[.val (.int i), .val (.int (4 : Int32)), .val (.ref s_SUM_BIG_DECIMAL), .val (.int (0 : Int32))] [(.int (0 : Int32)), (.int (own_o s_SUM_BIG_DECIMAL s_MIN s_MAX s_AVG))])) _
      refine XS.icmpNo X21.here hx rfl (hb hby at_38) rfl (teq (by simp [own_o, ne_COUNT_MIN, ne_COUNT_MAX, ne_COUNT_AVG, ne_SUM_INTEGER_MIN, ne_SUM_INTEGER_MAX, ne_SUM_INTEGER_AVG, ne_SUM_LONG_MIN, ne_SUM_LONG_MAX, ne_SUM_LONG_AVG, ne_SUM_DOUBLE_MIN, ne_SUM_DOUBLE_MAX, ne_SUM_DOUBLE_AVG, ne_SUM_BIG_DECIMAL_MIN, ne_SUM_BIG_DECIMAL_MAX, ne_SUM_BIG_DECIMAL_AVG, ne_MIN_MAX, ne_MIN_AVG, ne_MAX_MIN, ne_MAX_AVG, ne_AVG_MIN, ne_AVG_MAX] : (own_o s_SUM_BIG_DECIMAL s_MIN s_MAX s_AVG) = (0 : Int32))).2 ?_
      show Steps p.tables e below (T21.setTop (mkF m 41 #[.val (.int i), .val (.int (4 : Int32)), .val (.ref s_SUM_BIG_DECIMAL), .val (.int (0 : Int32))] [])) _
      refine XS.iconst X21.here hx rfl (hb hby at_41) ?_
      show Steps p.tables e below (T21.setTop (mkF m 42 #[.val (.int i), .val (.int (4 : Int32)), .val (.ref s_SUM_BIG_DECIMAL), .val (.int (0 : Int32))] [(.int (1 : Int32))])) _
      refine XS.goto X21.here hx rfl (pc0 := 42) (pc' := 46) rfl (hb hby at_42) (by decide) (by decide) ?_
      show Steps p.tables e below (T21.setTop (mkF m 46 #[.val (.int i), .val (.int (4 : Int32)), .val (.ref s_SUM_BIG_DECIMAL), .val (.int (0 : Int32))] [(.int (1 : Int32))])) _
      exact k
    obtain ⟨fs, hr, hrun, hended, hW, hsame⟩ := X21.leave (v := some (.int (1 : Int32))) (fun h => by rw [Bd.returns] at h; cases h)
    refine ⟨_, _, w22 _ ?_, hrun, hended, _, _, rfl, ?_, ⟨_, rfl⟩, hW, hsame.mono (by decide) (by decide)⟩
    · exact retN X21 hx (t := .boolean) Bd.returns (by simp) (hb hby at_46) hr
    · show Q0 Z i s_COUNT s_MIN s_MAX s_AVG s_SUM_INTEGER s_SUM_LONG s_SUM_DOUBLE s_SUM_BIG_DECIMAL h0 n0 _ T21.heap _
      rw [eh21]
      exact ⟨rfl, N21, rfl⟩
  · have w23 : ∀ t, Steps p.tables e below (s₁.setTop (mkF m 5 #[.val (.int i), .val (.int (5 : Int32)), .unset, .unset] [])) t → Steps p.tables e below (s₁.setTop (entryFrame m #[(.int i)] maxLocals)) t := by
      have q := w1
      simp only [hk2] at q
      exact q
    obtain ⟨_, _, ⟨T24, L24, k24, n24⟩, -, X24, ⟨Lc24, hQ24, l24, y24, z24⟩, st24⟩ := Jvm.LawKit.callS X0 hx (y := (⟨"com/example/querent/querent/translation/AggregationIsOptionalPinLaw", "pick", "(I)Lcom/example/querent/querent/translation/Aggregation;"⟩ : MethodName)) hown (mvT hZ (hw _ (List.mem_of_getElem? (i := 0) rfl))) (mvT hZ (hw _ (List.mem_of_getElem? (i := 1) rfl))) (mvT hZ (hw _ (List.mem_of_getElem? (i := 2) rfl))) (mvT hZ (hw _ (List.mem_of_getElem? (i := 3) rfl))) (by decide) (backOf (W := 0) (rm1_k5 l Z a0 hw [] s_MIN h0 n0 O S_s_MIN) hZ (hw _ (List.mem_of_getElem? (i := 3) rfl)) (hw _ (List.mem_of_getElem? (i := 2) rfl)) (by decide) (by decide)) (g := (mkF m 6 #[.val (.int i), .val (.int (5 : Int32)), .unset, .unset] [(.int (5 : Int32))])) rfl (by rw [hml]; rfl) (argsL := [(.int (5 : Int32))]) (rest := []) (lenOf pd__40I_41Lcom_47example_47querent_47querent_47translation_47Aggregation_59 rfl) rfl (by show 2 * 0 + _ ≤ _; exact Nat.le_of_eq rfl) (hb hby at_6) (fun _ _ => ⟨rfl, e0, (by decide : 0 + 0 ≤ _), (by decide : 0 + 0 ≤ _)⟩)
    dsimp only [Pt.U, Pt.locs, Pt.cells, Pt.slots] at X24 l24 y24 z24 st24 hQ24
    subst l24 y24 z24
    obtain ⟨rfl, N24q, eh24⟩ := hQ24
    have N24 := Fr.app N0 N24q
    obtain ⟨cq25, kq25, q25a, q25b, q25c⟩ := isOf hZ eh24 E_s_MIN
    obtain ⟨_, _, ⟨T25, L25, k25, n25⟩, -, X25, ⟨Lc25, hQ25, l25, y25, z25⟩, st25⟩ := X24.virtualBack hx (y := (⟨"com/example/querent/querent/translation/Aggregation", "isOptional", "()Z"⟩ : MethodName)) (z := (⟨"com/example/querent/querent/translation/Aggregation", "isOptional", "()Z"⟩ : MethodName)) hown (mvT hZ (hw _ (List.mem_of_getElem? (i := 7) rfl))) (mvT hZ (hw _ (List.mem_of_getElem? (i := 8) rfl))) (notFace_of_selects (args := #[]) (mvT hZ (hw _ (List.mem_of_getElem? (i := 10) rfl)))) (mvT hZ (hw _ (List.mem_of_getElem? (i := 10) rfl))) (mvT hZ (hw _ (List.mem_of_getElem? (i := 9) rfl))) (by decide) (backOf (W := 0) (rm2 l Z a0 hw [] s_MIN s_MIN s_MAX s_AVG h0 n0 O S_s_MIN S_s_MAX S_s_AVG) hZ (hw _ (List.mem_of_getElem? (i := 11) rfl)) (hw _ (List.mem_of_getElem? (i := 5) rfl)) (by decide) (by decide)) q25a q25c (g := (mkF m 34 #[.val (.int i), .val (.int (5 : Int32)), .val (.ref s_MIN), .val (.int (1 : Int32))] [(.ref s_MIN)])) rfl (by rw [hml]; rfl) (Steps.refl _) (argsL := []) (rest := []) (lenOf pd__40_41Z rfl) rfl (by show 2 * 0 + _ ≤ _; exact Nat.le_of_eq rfl) (hb hby at_34) (fun _ _ => ⟨rfl, eh24, (by decide : 0 + 0 ≤ _), (by decide : 0 + 0 ≤ _)⟩)
    dsimp only [Pt.U, Pt.locs, Pt.cells, Pt.slots] at X25 l25 y25 z25 st25 hQ25
    subst l25 y25 z25
    obtain ⟨rfl, N25q, eh25⟩ := hQ25
    have N25 := Fr.app N24 N25q
    have w26 : ∀ t, Steps p.tables e below (T25.setTop (mkF m 46 #[.val (.int i), .val (.int (5 : Int32)), .val (.ref s_MIN), .val (.int (1 : Int32))] [(.int (1 : Int32))])) t → Steps p.tables e below (s₁.setTop (entryFrame m #[(.int i)] maxLocals)) t := fun t k => by
      refine w23 t ?_
      refine XS.iloadN X0.here hx rfl (hb hby at_5) rfl ?_
      show Steps p.tables e below (s₁.setTop (mkF m 6 #[.val (.int i), .val (.int (5 : Int32)), .unset, .unset] [(.int (5 : Int32))])) _
      refine st24 _ ?_
      show Steps p.tables e below (T24.setTop (mkF m 9 #[.val (.int i), .val (.int (5 : Int32)), .unset, .unset] [(.ref s_MIN)])) _
      refine XS.astoreN X24.here hx rfl (hb hby at_9) rfl rfl (l' := #[.val (.int i), .val (.int (5 : Int32)), .val (.ref s_MIN), .unset]) rfl ?_
      show Steps p.tables e below (T24.setTop (mkF m 10 #[.val (.int i), .val (.int (5 : Int32)), .val (.ref s_MIN), .unset] [])) _
      refine XS.iloadN X24.here hx rfl (hb hby at_10) rfl ?_
      show Steps p.tables e below (T24.setTop (mkF m 11 #[.val (.int i), .val (.int (5 : Int32)), .val (.ref s_MIN), .unset] [(.int (5 : Int32))])) _
      refine XS.iconst X24.here hx rfl (hb hby at_11) ?_
      show Steps p.tables e below (T24.setTop (mkF m 12 #[.val (.int i), .val (.int (5 : Int32)), .val (.ref s_MIN), .unset] [(.int (5 : Int32)), (.int (5 : Int32))])) _
      refine XS.icmpYes X24.here hx rfl (pc0 := 12) (pc' := 27) rfl (hb hby at_12) rfl (teq (rfl : (5 : Int32) = (5 : Int32))).1 (by decide) (by decide) ?_
      show Steps p.tables e below (T24.setTop (mkF m 27 #[.val (.int i), .val (.int (5 : Int32)), .val (.ref s_MIN), .unset] [])) _
      refine XS.iconst X24.here hx rfl (hb hby at_27) ?_
      show Steps p.tables e below (T24.setTop (mkF m 28 #[.val (.int i), .val (.int (5 : Int32)), .val (.ref s_MIN), .unset] [(.int (1 : Int32))])) _
      refine XS.goto X24.here hx rfl (pc0 := 28) (pc' := 32) rfl (hb hby at_28) (by decide) (by decide) ?_
      show Steps p.tables e below (T24.setTop (mkF m 32 #[.val (.int i), .val (.int (5 : Int32)), .val (.ref s_MIN), .unset] [(.int (1 : Int32))])) _
      refine XS.istoreN X24.here hx rfl (hb hby at_32) rfl (l' := #[.val (.int i), .val (.int (5 : Int32)), .val (.ref s_MIN), .val (.int (1 : Int32))]) rfl ?_
      show Steps p.tables e below (T24.setTop (mkF m 33 #[.val (.int i), .val (.int (5 : Int32)), .val (.ref s_MIN), .val (.int (1 : Int32))] [])) _
      refine XS.aloadN X24.here hx rfl (hb hby at_33) rfl rfl ?_
      show Steps p.tables e below (T24.setTop (mkF m 34 #[.val (.int i), .val (.int (5 : Int32)), .val (.ref s_MIN), .val (.int (1 : Int32))] [(.ref s_MIN)])) _
      refine st25.trans ?_
      show Steps p.tables e below (T25.setTop (mkF m 37 #[.val (.int i), .val (.int (5 : Int32)), .val (.ref s_MIN), .val (.int (1 : Int32))] [(.int (own_o s_MIN s_MIN s_MAX s_AVG))])) _
      refine XS.iloadN X25.here hx rfl (hb hby at_37) rfl ?_
      show Steps p.tables e below (T25.setTop (mkF m 38 #[.val (.int i), .val (.int (5 : Int32)), .val (.ref s_MIN), .val (.int (1 : Int32))] [(.int (1 : Int32)), (.int (own_o s_MIN s_MIN s_MAX s_AVG))])) _
      refine XS.icmpNo X25.here hx rfl (hb hby at_38) rfl (teq (by simp [own_o, ne_COUNT_MIN, ne_COUNT_MAX, ne_COUNT_AVG, ne_SUM_INTEGER_MIN, ne_SUM_INTEGER_MAX, ne_SUM_INTEGER_AVG, ne_SUM_LONG_MIN, ne_SUM_LONG_MAX, ne_SUM_LONG_AVG, ne_SUM_DOUBLE_MIN, ne_SUM_DOUBLE_MAX, ne_SUM_DOUBLE_AVG, ne_SUM_BIG_DECIMAL_MIN, ne_SUM_BIG_DECIMAL_MAX, ne_SUM_BIG_DECIMAL_AVG, ne_MIN_MAX, ne_MIN_AVG, ne_MAX_MIN, ne_MAX_AVG, ne_AVG_MIN, ne_AVG_MAX] : (own_o s_MIN s_MIN s_MAX s_AVG) = (1 : Int32))).2 ?_
      show Steps p.tables e below (T25.setTop (mkF m 41 #[.val (.int i), .val (.int (5 : Int32)), .val (.ref s_MIN), .val (.int (1 : Int32))] [])) _
      refine XS.iconst X25.here hx rfl (hb hby at_41) ?_
      show Steps p.tables e below (T25.setTop (mkF m 42 #[.val (.int i), .val (.int (5 : Int32)), .val (.ref s_MIN), .val (.int (1 : Int32))] [(.int (1 : Int32))])) _
      refine XS.goto X25.here hx rfl (pc0 := 42) (pc' := 46) rfl (hb hby at_42) (by decide) (by decide) ?_
      show Steps p.tables e below (T25.setTop (mkF m 46 #[.val (.int i), .val (.int (5 : Int32)), .val (.ref s_MIN), .val (.int (1 : Int32))] [(.int (1 : Int32))])) _
      exact k
    obtain ⟨fs, hr, hrun, hended, hW, hsame⟩ := X25.leave (v := some (.int (1 : Int32))) (fun h => by rw [Bd.returns] at h; cases h)
    refine ⟨_, _, w26 _ ?_, hrun, hended, _, _, rfl, ?_, ⟨_, rfl⟩, hW, hsame.mono (by decide) (by decide)⟩
    · exact retN X25 hx (t := .boolean) Bd.returns (by simp) (hb hby at_46) hr
    · show Q0 Z i s_COUNT s_MIN s_MAX s_AVG s_SUM_INTEGER s_SUM_LONG s_SUM_DOUBLE s_SUM_BIG_DECIMAL h0 n0 _ T25.heap _
      rw [eh25]
      exact ⟨rfl, N25, rfl⟩
  · have w27 : ∀ t, Steps p.tables e below (s₁.setTop (mkF m 5 #[.val (.int i), .val (.int (6 : Int32)), .unset, .unset] [])) t → Steps p.tables e below (s₁.setTop (entryFrame m #[(.int i)] maxLocals)) t := by
      have q := w1
      simp only [hk2] at q
      exact q
    obtain ⟨_, _, ⟨T28, L28, k28, n28⟩, -, X28, ⟨Lc28, hQ28, l28, y28, z28⟩, st28⟩ := Jvm.LawKit.callS X0 hx (y := (⟨"com/example/querent/querent/translation/AggregationIsOptionalPinLaw", "pick", "(I)Lcom/example/querent/querent/translation/Aggregation;"⟩ : MethodName)) hown (mvT hZ (hw _ (List.mem_of_getElem? (i := 0) rfl))) (mvT hZ (hw _ (List.mem_of_getElem? (i := 1) rfl))) (mvT hZ (hw _ (List.mem_of_getElem? (i := 2) rfl))) (mvT hZ (hw _ (List.mem_of_getElem? (i := 3) rfl))) (by decide) (backOf (W := 0) (rm1_k6 l Z a0 hw [] s_MAX h0 n0 O S_s_MAX) hZ (hw _ (List.mem_of_getElem? (i := 3) rfl)) (hw _ (List.mem_of_getElem? (i := 2) rfl)) (by decide) (by decide)) (g := (mkF m 6 #[.val (.int i), .val (.int (6 : Int32)), .unset, .unset] [(.int (6 : Int32))])) rfl (by rw [hml]; rfl) (argsL := [(.int (6 : Int32))]) (rest := []) (lenOf pd__40I_41Lcom_47example_47querent_47querent_47translation_47Aggregation_59 rfl) rfl (by show 2 * 0 + _ ≤ _; exact Nat.le_of_eq rfl) (hb hby at_6) (fun _ _ => ⟨rfl, e0, (by decide : 0 + 0 ≤ _), (by decide : 0 + 0 ≤ _)⟩)
    dsimp only [Pt.U, Pt.locs, Pt.cells, Pt.slots] at X28 l28 y28 z28 st28 hQ28
    subst l28 y28 z28
    obtain ⟨rfl, N28q, eh28⟩ := hQ28
    have N28 := Fr.app N0 N28q
    obtain ⟨cq29, kq29, q29a, q29b, q29c⟩ := isOf hZ eh28 E_s_MAX
    obtain ⟨_, _, ⟨T29, L29, k29, n29⟩, -, X29, ⟨Lc29, hQ29, l29, y29, z29⟩, st29⟩ := X28.virtualBack hx (y := (⟨"com/example/querent/querent/translation/Aggregation", "isOptional", "()Z"⟩ : MethodName)) (z := (⟨"com/example/querent/querent/translation/Aggregation", "isOptional", "()Z"⟩ : MethodName)) hown (mvT hZ (hw _ (List.mem_of_getElem? (i := 7) rfl))) (mvT hZ (hw _ (List.mem_of_getElem? (i := 8) rfl))) (notFace_of_selects (args := #[]) (mvT hZ (hw _ (List.mem_of_getElem? (i := 10) rfl)))) (mvT hZ (hw _ (List.mem_of_getElem? (i := 10) rfl))) (mvT hZ (hw _ (List.mem_of_getElem? (i := 9) rfl))) (by decide) (backOf (W := 0) (rm2 l Z a0 hw [] s_MAX s_MIN s_MAX s_AVG h0 n0 O S_s_MIN S_s_MAX S_s_AVG) hZ (hw _ (List.mem_of_getElem? (i := 11) rfl)) (hw _ (List.mem_of_getElem? (i := 5) rfl)) (by decide) (by decide)) q29a q29c (g := (mkF m 34 #[.val (.int i), .val (.int (6 : Int32)), .val (.ref s_MAX), .val (.int (1 : Int32))] [(.ref s_MAX)])) rfl (by rw [hml]; rfl) (Steps.refl _) (argsL := []) (rest := []) (lenOf pd__40_41Z rfl) rfl (by show 2 * 0 + _ ≤ _; exact Nat.le_of_eq rfl) (hb hby at_34) (fun _ _ => ⟨rfl, eh28, (by decide : 0 + 0 ≤ _), (by decide : 0 + 0 ≤ _)⟩)
    dsimp only [Pt.U, Pt.locs, Pt.cells, Pt.slots] at X29 l29 y29 z29 st29 hQ29
    subst l29 y29 z29
    obtain ⟨rfl, N29q, eh29⟩ := hQ29
    have N29 := Fr.app N28 N29q
    have w30 : ∀ t, Steps p.tables e below (T29.setTop (mkF m 46 #[.val (.int i), .val (.int (6 : Int32)), .val (.ref s_MAX), .val (.int (1 : Int32))] [(.int (1 : Int32))])) t → Steps p.tables e below (s₁.setTop (entryFrame m #[(.int i)] maxLocals)) t := fun t k => by
      refine w27 t ?_
      refine XS.iloadN X0.here hx rfl (hb hby at_5) rfl ?_
      show Steps p.tables e below (s₁.setTop (mkF m 6 #[.val (.int i), .val (.int (6 : Int32)), .unset, .unset] [(.int (6 : Int32))])) _
      refine st28 _ ?_
      show Steps p.tables e below (T28.setTop (mkF m 9 #[.val (.int i), .val (.int (6 : Int32)), .unset, .unset] [(.ref s_MAX)])) _
      refine XS.astoreN X28.here hx rfl (hb hby at_9) rfl rfl (l' := #[.val (.int i), .val (.int (6 : Int32)), .val (.ref s_MAX), .unset]) rfl ?_
      show Steps p.tables e below (T28.setTop (mkF m 10 #[.val (.int i), .val (.int (6 : Int32)), .val (.ref s_MAX), .unset] [])) _
      refine XS.iloadN X28.here hx rfl (hb hby at_10) rfl ?_
      show Steps p.tables e below (T28.setTop (mkF m 11 #[.val (.int i), .val (.int (6 : Int32)), .val (.ref s_MAX), .unset] [(.int (6 : Int32))])) _
      refine XS.iconst X28.here hx rfl (hb hby at_11) ?_
      show Steps p.tables e below (T28.setTop (mkF m 12 #[.val (.int i), .val (.int (6 : Int32)), .val (.ref s_MAX), .unset] [(.int (5 : Int32)), (.int (6 : Int32))])) _
      refine XS.icmpNo X28.here hx rfl (hb hby at_12) rfl (feq ((by decide) : ¬ ((6 : Int32) = (5 : Int32)))).1 ?_
      show Steps p.tables e below (T28.setTop (mkF m 15 #[.val (.int i), .val (.int (6 : Int32)), .val (.ref s_MAX), .unset] [])) _
      refine XS.iloadN X28.here hx rfl (hb hby at_15) rfl ?_
      show Steps p.tables e below (T28.setTop (mkF m 16 #[.val (.int i), .val (.int (6 : Int32)), .val (.ref s_MAX), .unset] [(.int (6 : Int32))])) _
      refine XS.bipush X28.here hx rfl (hb hby at_16) ?_
      show Steps p.tables e below (T28.setTop (mkF m 18 #[.val (.int i), .val (.int (6 : Int32)), .val (.ref s_MAX), .unset] [(.int (6 : Int32)), (.int (6 : Int32))])) _
      refine XS.icmpYes X28.here hx rfl (pc0 := 18) (pc' := 27) rfl (hb hby at_18) rfl (teq (rfl : (6 : Int32) = (6 : Int32))).1 (by decide) (by decide) ?_
      show Steps p.tables e below (T28.setTop (mkF m 27 #[.val (.int i), .val (.int (6 : Int32)), .val (.ref s_MAX), .unset] [])) _
      refine XS.iconst X28.here hx rfl (hb hby at_27) ?_
      show Steps p.tables e below (T28.setTop (mkF m 28 #[.val (.int i), .val (.int (6 : Int32)), .val (.ref s_MAX), .unset] [(.int (1 : Int32))])) _
      refine XS.goto X28.here hx rfl (pc0 := 28) (pc' := 32) rfl (hb hby at_28) (by decide) (by decide) ?_
      show Steps p.tables e below (T28.setTop (mkF m 32 #[.val (.int i), .val (.int (6 : Int32)), .val (.ref s_MAX), .unset] [(.int (1 : Int32))])) _
      refine XS.istoreN X28.here hx rfl (hb hby at_32) rfl (l' := #[.val (.int i), .val (.int (6 : Int32)), .val (.ref s_MAX), .val (.int (1 : Int32))]) rfl ?_
      show Steps p.tables e below (T28.setTop (mkF m 33 #[.val (.int i), .val (.int (6 : Int32)), .val (.ref s_MAX), .val (.int (1 : Int32))] [])) _
      refine XS.aloadN X28.here hx rfl (hb hby at_33) rfl rfl ?_
      show Steps p.tables e below (T28.setTop (mkF m 34 #[.val (.int i), .val (.int (6 : Int32)), .val (.ref s_MAX), .val (.int (1 : Int32))] [(.ref s_MAX)])) _
      refine st29.trans ?_
      show Steps p.tables e below (T29.setTop (mkF m 37 #[.val (.int i), .val (.int (6 : Int32)), .val (.ref s_MAX), .val (.int (1 : Int32))] [(.int (own_o s_MAX s_MIN s_MAX s_AVG))])) _
      refine XS.iloadN X29.here hx rfl (hb hby at_37) rfl ?_
      show Steps p.tables e below (T29.setTop (mkF m 38 #[.val (.int i), .val (.int (6 : Int32)), .val (.ref s_MAX), .val (.int (1 : Int32))] [(.int (1 : Int32)), (.int (own_o s_MAX s_MIN s_MAX s_AVG))])) _
      refine XS.icmpNo X29.here hx rfl (hb hby at_38) rfl (teq (by simp [own_o, ne_COUNT_MIN, ne_COUNT_MAX, ne_COUNT_AVG, ne_SUM_INTEGER_MIN, ne_SUM_INTEGER_MAX, ne_SUM_INTEGER_AVG, ne_SUM_LONG_MIN, ne_SUM_LONG_MAX, ne_SUM_LONG_AVG, ne_SUM_DOUBLE_MIN, ne_SUM_DOUBLE_MAX, ne_SUM_DOUBLE_AVG, ne_SUM_BIG_DECIMAL_MIN, ne_SUM_BIG_DECIMAL_MAX, ne_SUM_BIG_DECIMAL_AVG, ne_MIN_MAX, ne_MIN_AVG, ne_MAX_MIN, ne_MAX_AVG, ne_AVG_MIN, ne_AVG_MAX] : (own_o s_MAX s_MIN s_MAX s_AVG) = (1 : Int32))).2 ?_
      show Steps p.tables e below (T29.setTop (mkF m 41 #[.val (.int i), .val (.int (6 : Int32)), .val (.ref s_MAX), .val (.int (1 : Int32))] [])) _
      refine XS.iconst X29.here hx rfl (hb hby at_41) ?_
      show Steps p.tables e below (T29.setTop (mkF m 42 #[.val (.int i), .val (.int (6 : Int32)), .val (.ref s_MAX), .val (.int (1 : Int32))] [(.int (1 : Int32))])) _
      refine XS.goto X29.here hx rfl (pc0 := 42) (pc' := 46) rfl (hb hby at_42) (by decide) (by decide) ?_
      show Steps p.tables e below (T29.setTop (mkF m 46 #[.val (.int i), .val (.int (6 : Int32)), .val (.ref s_MAX), .val (.int (1 : Int32))] [(.int (1 : Int32))])) _
      exact k
    obtain ⟨fs, hr, hrun, hended, hW, hsame⟩ := X29.leave (v := some (.int (1 : Int32))) (fun h => by rw [Bd.returns] at h; cases h)
    refine ⟨_, _, w30 _ ?_, hrun, hended, _, _, rfl, ?_, ⟨_, rfl⟩, hW, hsame.mono (by decide) (by decide)⟩
    · exact retN X29 hx (t := .boolean) Bd.returns (by simp) (hb hby at_46) hr
    · show Q0 Z i s_COUNT s_MIN s_MAX s_AVG s_SUM_INTEGER s_SUM_LONG s_SUM_DOUBLE s_SUM_BIG_DECIMAL h0 n0 _ T29.heap _
      rw [eh29]
      exact ⟨rfl, N29, rfl⟩
  · have w31 : ∀ t, Steps p.tables e below (s₁.setTop (mkF m 5 #[.val (.int i), .val (.int (7 : Int32)), .unset, .unset] [])) t → Steps p.tables e below (s₁.setTop (entryFrame m #[(.int i)] maxLocals)) t := by
      have q := w1
      simp only [hk2] at q
      exact q
    obtain ⟨_, _, ⟨T32, L32, k32, n32⟩, -, X32, ⟨Lc32, hQ32, l32, y32, z32⟩, st32⟩ := Jvm.LawKit.callS X0 hx (y := (⟨"com/example/querent/querent/translation/AggregationIsOptionalPinLaw", "pick", "(I)Lcom/example/querent/querent/translation/Aggregation;"⟩ : MethodName)) hown (mvT hZ (hw _ (List.mem_of_getElem? (i := 0) rfl))) (mvT hZ (hw _ (List.mem_of_getElem? (i := 1) rfl))) (mvT hZ (hw _ (List.mem_of_getElem? (i := 2) rfl))) (mvT hZ (hw _ (List.mem_of_getElem? (i := 3) rfl))) (by decide) (backOf (W := 0) (rm1_k7 l Z a0 hw [] s_AVG h0 n0 O S_s_AVG) hZ (hw _ (List.mem_of_getElem? (i := 3) rfl)) (hw _ (List.mem_of_getElem? (i := 2) rfl)) (by decide) (by decide)) (g := (mkF m 6 #[.val (.int i), .val (.int (7 : Int32)), .unset, .unset] [(.int (7 : Int32))])) rfl (by rw [hml]; rfl) (argsL := [(.int (7 : Int32))]) (rest := []) (lenOf pd__40I_41Lcom_47example_47querent_47querent_47translation_47Aggregation_59 rfl) rfl (by show 2 * 0 + _ ≤ _; exact Nat.le_of_eq rfl) (hb hby at_6) (fun _ _ => ⟨rfl, e0, (by decide : 0 + 0 ≤ _), (by decide : 0 + 0 ≤ _)⟩)
    dsimp only [Pt.U, Pt.locs, Pt.cells, Pt.slots] at X32 l32 y32 z32 st32 hQ32
    subst l32 y32 z32
    obtain ⟨rfl, N32q, eh32⟩ := hQ32
    have N32 := Fr.app N0 N32q
    obtain ⟨cq33, kq33, q33a, q33b, q33c⟩ := isOf hZ eh32 E_s_AVG
    obtain ⟨_, _, ⟨T33, L33, k33, n33⟩, -, X33, ⟨Lc33, hQ33, l33, y33, z33⟩, st33⟩ := X32.virtualBack hx (y := (⟨"com/example/querent/querent/translation/Aggregation", "isOptional", "()Z"⟩ : MethodName)) (z := (⟨"com/example/querent/querent/translation/Aggregation", "isOptional", "()Z"⟩ : MethodName)) hown (mvT hZ (hw _ (List.mem_of_getElem? (i := 7) rfl))) (mvT hZ (hw _ (List.mem_of_getElem? (i := 8) rfl))) (notFace_of_selects (args := #[]) (mvT hZ (hw _ (List.mem_of_getElem? (i := 10) rfl)))) (mvT hZ (hw _ (List.mem_of_getElem? (i := 10) rfl))) (mvT hZ (hw _ (List.mem_of_getElem? (i := 9) rfl))) (by decide) (backOf (W := 0) (rm2 l Z a0 hw [] s_AVG s_MIN s_MAX s_AVG h0 n0 O S_s_MIN S_s_MAX S_s_AVG) hZ (hw _ (List.mem_of_getElem? (i := 11) rfl)) (hw _ (List.mem_of_getElem? (i := 5) rfl)) (by decide) (by decide)) q33a q33c (g := (mkF m 34 #[.val (.int i), .val (.int (7 : Int32)), .val (.ref s_AVG), .val (.int (1 : Int32))] [(.ref s_AVG)])) rfl (by rw [hml]; rfl) (Steps.refl _) (argsL := []) (rest := []) (lenOf pd__40_41Z rfl) rfl (by show 2 * 0 + _ ≤ _; exact Nat.le_of_eq rfl) (hb hby at_34) (fun _ _ => ⟨rfl, eh32, (by decide : 0 + 0 ≤ _), (by decide : 0 + 0 ≤ _)⟩)
    dsimp only [Pt.U, Pt.locs, Pt.cells, Pt.slots] at X33 l33 y33 z33 st33 hQ33
    subst l33 y33 z33
    obtain ⟨rfl, N33q, eh33⟩ := hQ33
    have N33 := Fr.app N32 N33q
    have w34 : ∀ t, Steps p.tables e below (T33.setTop (mkF m 46 #[.val (.int i), .val (.int (7 : Int32)), .val (.ref s_AVG), .val (.int (1 : Int32))] [(.int (1 : Int32))])) t → Steps p.tables e below (s₁.setTop (entryFrame m #[(.int i)] maxLocals)) t := fun t k => by
      refine w31 t ?_
      refine XS.iloadN X0.here hx rfl (hb hby at_5) rfl ?_
      show Steps p.tables e below (s₁.setTop (mkF m 6 #[.val (.int i), .val (.int (7 : Int32)), .unset, .unset] [(.int (7 : Int32))])) _
      refine st32 _ ?_
      show Steps p.tables e below (T32.setTop (mkF m 9 #[.val (.int i), .val (.int (7 : Int32)), .unset, .unset] [(.ref s_AVG)])) _
      refine XS.astoreN X32.here hx rfl (hb hby at_9) rfl rfl (l' := #[.val (.int i), .val (.int (7 : Int32)), .val (.ref s_AVG), .unset]) rfl ?_
      show Steps p.tables e below (T32.setTop (mkF m 10 #[.val (.int i), .val (.int (7 : Int32)), .val (.ref s_AVG), .unset] [])) _
      refine XS.iloadN X32.here hx rfl (hb hby at_10) rfl ?_
      show Steps p.tables e below (T32.setTop (mkF m 11 #[.val (.int i), .val (.int (7 : Int32)), .val (.ref s_AVG), .unset] [(.int (7 : Int32))])) _
      refine XS.iconst X32.here hx rfl (hb hby at_11) ?_
      show Steps p.tables e below (T32.setTop (mkF m 12 #[.val (.int i), .val (.int (7 : Int32)), .val (.ref s_AVG), .unset] [(.int (5 : Int32)), (.int (7 : Int32))])) _
      refine XS.icmpNo X32.here hx rfl (hb hby at_12) rfl (feq ((by decide) : ¬ ((7 : Int32) = (5 : Int32)))).1 ?_
      show Steps p.tables e below (T32.setTop (mkF m 15 #[.val (.int i), .val (.int (7 : Int32)), .val (.ref s_AVG), .unset] [])) _
      refine XS.iloadN X32.here hx rfl (hb hby at_15) rfl ?_
      show Steps p.tables e below (T32.setTop (mkF m 16 #[.val (.int i), .val (.int (7 : Int32)), .val (.ref s_AVG), .unset] [(.int (7 : Int32))])) _
      refine XS.bipush X32.here hx rfl (hb hby at_16) ?_
      show Steps p.tables e below (T32.setTop (mkF m 18 #[.val (.int i), .val (.int (7 : Int32)), .val (.ref s_AVG), .unset] [(.int (6 : Int32)), (.int (7 : Int32))])) _
      refine XS.icmpNo X32.here hx rfl (hb hby at_18) rfl (feq ((by decide) : ¬ ((7 : Int32) = (6 : Int32)))).1 ?_
      show Steps p.tables e below (T32.setTop (mkF m 21 #[.val (.int i), .val (.int (7 : Int32)), .val (.ref s_AVG), .unset] [])) _
      refine XS.iloadN X32.here hx rfl (hb hby at_21) rfl ?_
      show Steps p.tables e below (T32.setTop (mkF m 22 #[.val (.int i), .val (.int (7 : Int32)), .val (.ref s_AVG), .unset] [(.int (7 : Int32))])) _
      refine XS.bipush X32.here hx rfl (hb hby at_22) ?_
      show Steps p.tables e below (T32.setTop (mkF m 24 #[.val (.int i), .val (.int (7 : Int32)), .val (.ref s_AVG), .unset] [(.int (7 : Int32)), (.int (7 : Int32))])) _
      refine XS.icmpNo X32.here hx rfl (hb hby at_24) rfl (teq (rfl : (7 : Int32) = (7 : Int32))).2 ?_
      show Steps p.tables e below (T32.setTop (mkF m 27 #[.val (.int i), .val (.int (7 : Int32)), .val (.ref s_AVG), .unset] [])) _
      refine XS.iconst X32.here hx rfl (hb hby at_27) ?_
      show Steps p.tables e below (T32.setTop (mkF m 28 #[.val (.int i), .val (.int (7 : Int32)), .val (.ref s_AVG), .unset] [(.int (1 : Int32))])) _
      refine XS.goto X32.here hx rfl (pc0 := 28) (pc' := 32) rfl (hb hby at_28) (by decide) (by decide) ?_
      show Steps p.tables e below (T32.setTop (mkF m 32 #[.val (.int i), .val (.int (7 : Int32)), .val (.ref s_AVG), .unset] [(.int (1 : Int32))])) _
      refine XS.istoreN X32.here hx rfl (hb hby at_32) rfl (l' := #[.val (.int i), .val (.int (7 : Int32)), .val (.ref s_AVG), .val (.int (1 : Int32))]) rfl ?_
      show Steps p.tables e below (T32.setTop (mkF m 33 #[.val (.int i), .val (.int (7 : Int32)), .val (.ref s_AVG), .val (.int (1 : Int32))] [])) _
      refine XS.aloadN X32.here hx rfl (hb hby at_33) rfl rfl ?_
      show Steps p.tables e below (T32.setTop (mkF m 34 #[.val (.int i), .val (.int (7 : Int32)), .val (.ref s_AVG), .val (.int (1 : Int32))] [(.ref s_AVG)])) _
      refine st33.trans ?_
      show Steps p.tables e below (T33.setTop (mkF m 37 #[.val (.int i), .val (.int (7 : Int32)), .val (.ref s_AVG), .val (.int (1 : Int32))] [(.int (own_o s_AVG s_MIN s_MAX s_AVG))])) _
      refine XS.iloadN X33.here hx rfl (hb hby at_37) rfl ?_
      show Steps p.tables e below (T33.setTop (mkF m 38 #[.val (.int i), .val (.int (7 : Int32)), .val (.ref s_AVG), .val (.int (1 : Int32))] [(.int (1 : Int32)), (.int (own_o s_AVG s_MIN s_MAX s_AVG))])) _
      refine XS.icmpNo X33.here hx rfl (hb hby at_38) rfl (teq (by simp [own_o, ne_COUNT_MIN, ne_COUNT_MAX, ne_COUNT_AVG, ne_SUM_INTEGER_MIN, ne_SUM_INTEGER_MAX, ne_SUM_INTEGER_AVG, ne_SUM_LONG_MIN, ne_SUM_LONG_MAX, ne_SUM_LONG_AVG, ne_SUM_DOUBLE_MIN, ne_SUM_DOUBLE_MAX, ne_SUM_DOUBLE_AVG, ne_SUM_BIG_DECIMAL_MIN, ne_SUM_BIG_DECIMAL_MAX, ne_SUM_BIG_DECIMAL_AVG, ne_MIN_MAX, ne_MIN_AVG, ne_MAX_MIN, ne_MAX_AVG, ne_AVG_MIN, ne_AVG_MAX] : (own_o s_AVG s_MIN s_MAX s_AVG) = (1 : Int32))).2 ?_
      show Steps p.tables e below (T33.setTop (mkF m 41 #[.val (.int i), .val (.int (7 : Int32)), .val (.ref s_AVG), .val (.int (1 : Int32))] [])) _
      refine XS.iconst X33.here hx rfl (hb hby at_41) ?_
      show Steps p.tables e below (T33.setTop (mkF m 42 #[.val (.int i), .val (.int (7 : Int32)), .val (.ref s_AVG), .val (.int (1 : Int32))] [(.int (1 : Int32))])) _
      refine XS.goto X33.here hx rfl (pc0 := 42) (pc' := 46) rfl (hb hby at_42) (by decide) (by decide) ?_
      show Steps p.tables e below (T33.setTop (mkF m 46 #[.val (.int i), .val (.int (7 : Int32)), .val (.ref s_AVG), .val (.int (1 : Int32))] [(.int (1 : Int32))])) _
      exact k
    obtain ⟨fs, hr, hrun, hended, hW, hsame⟩ := X33.leave (v := some (.int (1 : Int32))) (fun h => by rw [Bd.returns] at h; cases h)
    refine ⟨_, _, w34 _ ?_, hrun, hended, _, _, rfl, ?_, ⟨_, rfl⟩, hW, hsame.mono (by decide) (by decide)⟩
    · exact retN X33 hx (t := .boolean) Bd.returns (by simp) (hb hby at_46) hr
    · show Q0 Z i s_COUNT s_MIN s_MAX s_AVG s_SUM_INTEGER s_SUM_LONG s_SUM_DOUBLE s_SUM_BIG_DECIMAL h0 n0 _ T33.heap _
      rw [eh33]
      exact ⟨rfl, N33, rfl⟩
set_option maxRecDepth 65536 in
set_option maxHeartbeats 40000000 in
theorem comes_1 {Post : Tables → Env → Array Value → State → Outcome → State → Prop} (hpost : ∀ tb e args s v u, (limb_1_1.after args s (.returned v) u = true ∧ limb_1_2.after args s (.returned v) u = true ∧ True) → FrameEnd s (.returned v) u (Jvm.fieldLocs frame_1_writes args s ++ Jvm.arrayLocs frame_1_arrays args s ++ Jvm.staticLocs frame_1_statics s) 0 0 → Post tb e args s (.returned v) u) :
    ArmFor flags0 classFile x code maxLocals ret World_1 tables_1 room_1 Calls_1 rest_1 Pre_1 Post := by
  intro l hfl _ _ p e ha hc hk s m args below hf hA hF happ hP
  obtain ⟨hcalls, hrest, hpre⟩ := hP
  obtain ⟨-, -, -, hnamed, -, -, -, hat⟩ := (Spec.applies_iff hf).mp happ
  obtain ⟨hg, hn⟩ := and_e (Cond.before_iff.mp (show (Jvm.Cond.and given_1 narrow_1).before args s = true from hpre))
  obtain ⟨g1, g2⟩ := and_e hg
  obtain ⟨g3, g4⟩ := and_e hn
  obtain ⟨g5, g6⟩ := and_e g4
  obtain ⟨g7, g8⟩ := and_e g6
  obtain ⟨g9, g10⟩ := and_e g8
  obtain ⟨g11, g12⟩ := and_e g10
  obtain ⟨g13, g14⟩ := and_e g12
  obtain ⟨g15, g16⟩ := and_e g14
  obtain ⟨g17, g18⟩ := and_e g16
  obtain ⟨g19, g20⟩ := and_e g18
  obtain ⟨g21, g22⟩ := and_e g20
  obtain ⟨g23, g24⟩ := and_e g22
  obtain ⟨g25, g26⟩ := and_e g24
  obtain ⟨g27, g28⟩ := and_e g26
  obtain ⟨g29, g30⟩ := and_e g28
  obtain ⟨g31, g32⟩ := and_e g30
  obtain ⟨w0, rfl⟩ : ∃ w0 : Value, args = #[w0] := by
    have hs : args.size = 1 := by simpa [Cond.value, given_1] using g1
    obtain ⟨L⟩ := args
    match L, hs with
    | [w0], _ => exact ⟨w0, rfl⟩
  have hw := fun d (hd : d ∈ tables_1) => atoms_spec (ws := Jvm.Cond.code x code maxLocals ret :: tables_1) hat d (List.mem_cons_of_mem _ hd)
  have hfit : Fit s := fun {y c} hc i hi => by
    obtain ⟨ha, rfl⟩ := Array.getElem?_eq_some_iff.mp hc
    have q := List.all_eq_true.mp ((Array.all_eq_true_iff_forall_mem.mp hF) _ (Array.getElem_mem ha)) i (List.mem_range.mpr hi)
    simpa [Array.getElem?_eq_getElem hi] using q
  obtain ⟨i0, ei0⟩ := is_v g2
  obtain rfl : w0 = (.int i0) := Option.some.inj ei0
  obtain ⟨s_COUNT, ev_s_COUNT⟩ := exa_v g3
  have E_s_COUNT : Exa s s.heap s_COUNT "com/example/querent/querent/translation/Aggregation" := Exa.start ev_s_COUNT g3
  have S_s_COUNT : Sta s s.heap "com/example/querent/querent/translation/Aggregation" "COUNT" "Lcom/example/querent/querent/translation/Aggregation;" (.ref s_COUNT) := Sta.start ev_s_COUNT (Or.inr ⟨(hw _ (List.mem_of_getElem? (i := 5) rfl)), (hw _ (List.mem_of_getElem? (i := 6) rfl))⟩)
  obtain ⟨s_MIN, ev_s_MIN⟩ := exa_v g5
  have E_s_MIN : Exa s s.heap s_MIN "com/example/querent/querent/translation/Aggregation" := Exa.start ev_s_MIN g5
  have S_s_MIN : Sta s s.heap "com/example/querent/querent/translation/Aggregation" "MIN" "Lcom/example/querent/querent/translation/Aggregation;" (.ref s_MIN) := Sta.start ev_s_MIN (Or.inr ⟨(hw _ (List.mem_of_getElem? (i := 5) rfl)), (hw _ (List.mem_of_getElem? (i := 13) rfl))⟩)
  obtain ⟨s_MAX, ev_s_MAX⟩ := exa_v g11
  have E_s_MAX : Exa s s.heap s_MAX "com/example/querent/querent/translation/Aggregation" := Exa.start ev_s_MAX g11
  have S_s_MAX : Sta s s.heap "com/example/querent/querent/translation/Aggregation" "MAX" "Lcom/example/querent/querent/translation/Aggregation;" (.ref s_MAX) := Sta.start ev_s_MAX (Or.inr ⟨(hw _ (List.mem_of_getElem? (i := 5) rfl)), (hw _ (List.mem_of_getElem? (i := 15) rfl))⟩)
  obtain ⟨s_AVG, ev_s_AVG⟩ := exa_v g15
  have E_s_AVG : Exa s s.heap s_AVG "com/example/querent/querent/translation/Aggregation" := Exa.start ev_s_AVG g15
  have S_s_AVG : Sta s s.heap "com/example/querent/querent/translation/Aggregation" "AVG" "Lcom/example/querent/querent/translation/Aggregation;" (.ref s_AVG) := Sta.start ev_s_AVG (Or.inr ⟨(hw _ (List.mem_of_getElem? (i := 5) rfl)), (hw _ (List.mem_of_getElem? (i := 17) rfl))⟩)
  obtain ⟨s_SUM_DOUBLE, ev_s_SUM_DOUBLE⟩ := exa_v g19
  have E_s_SUM_DOUBLE : Exa s s.heap s_SUM_DOUBLE "com/example/querent/querent/translation/Aggregation" := Exa.start ev_s_SUM_DOUBLE g19
  have S_s_SUM_DOUBLE : Sta s s.heap "com/example/querent/querent/translation/Aggregation" "SUM_DOUBLE" "Lcom/example/querent/querent/translation/Aggregation;" (.ref s_SUM_DOUBLE) := Sta.start ev_s_SUM_DOUBLE (Or.inr ⟨(hw _ (List.mem_of_getElem? (i := 5) rfl)), (hw _ (List.mem_of_getElem? (i := 19) rfl))⟩)
  obtain ⟨s_SUM_LONG, ev_s_SUM_LONG⟩ := exa_v g23
  have E_s_SUM_LONG : Exa s s.heap s_SUM_LONG "com/example/querent/querent/translation/Aggregation" := Exa.start ev_s_SUM_LONG g23
  have S_s_SUM_LONG : Sta s s.heap "com/example/querent/querent/translation/Aggregation" "SUM_LONG" "Lcom/example/querent/querent/translation/Aggregation;" (.ref s_SUM_LONG) := Sta.start ev_s_SUM_LONG (Or.inr ⟨(hw _ (List.mem_of_getElem? (i := 5) rfl)), (hw _ (List.mem_of_getElem? (i := 23) rfl))⟩)
  obtain ⟨s_SUM_INTEGER, ev_s_SUM_INTEGER⟩ := exa_v g27
  have E_s_SUM_INTEGER : Exa s s.heap s_SUM_INTEGER "com/example/querent/querent/translation/Aggregation" := Exa.start ev_s_SUM_INTEGER g27
  have S_s_SUM_INTEGER : Sta s s.heap "com/example/querent/querent/translation/Aggregation" "SUM_INTEGER" "Lcom/example/querent/querent/translation/Aggregation;" (.ref s_SUM_INTEGER) := Sta.start ev_s_SUM_INTEGER (Or.inr ⟨(hw _ (List.mem_of_getElem? (i := 5) rfl)), (hw _ (List.mem_of_getElem? (i := 25) rfl))⟩)
  obtain ⟨s_SUM_BIG_DECIMAL, ev_s_SUM_BIG_DECIMAL⟩ := exa_v g31
  have E_s_SUM_BIG_DECIMAL : Exa s s.heap s_SUM_BIG_DECIMAL "com/example/querent/querent/translation/Aggregation" := Exa.start ev_s_SUM_BIG_DECIMAL g31
  have S_s_SUM_BIG_DECIMAL : Sta s s.heap "com/example/querent/querent/translation/Aggregation" "SUM_BIG_DECIMAL" "Lcom/example/querent/querent/translation/Aggregation;" (.ref s_SUM_BIG_DECIMAL) := Sta.start ev_s_SUM_BIG_DECIMAL (Or.inr ⟨(hw _ (List.mem_of_getElem? (i := 5) rfl)), (hw _ (List.mem_of_getElem? (i := 27) rfl))⟩)
  have F_ordinal_s_COUNT : Fld s s.heap s_COUNT "java/lang/Enum" "ordinal" "I" (.int (0 : Int32)) := Fld.start (own_fld ev_s_COUNT (by exact Term.int_eval (0)) g7)
  have F_ordinal_s_MIN : Fld s s.heap s_MIN "java/lang/Enum" "ordinal" "I" (.int (5 : Int32)) := Fld.start (own_fld ev_s_MIN (by exact Term.int_eval (5)) g9)
  have F_ordinal_s_MAX : Fld s s.heap s_MAX "java/lang/Enum" "ordinal" "I" (.int (6 : Int32)) := Fld.start (own_fld ev_s_MAX (by exact Term.int_eval (6)) g13)
  have F_ordinal_s_AVG : Fld s s.heap s_AVG "java/lang/Enum" "ordinal" "I" (.int (7 : Int32)) := Fld.start (own_fld ev_s_AVG (by exact Term.int_eval (7)) g17)
  have F_ordinal_s_SUM_DOUBLE : Fld s s.heap s_SUM_DOUBLE "java/lang/Enum" "ordinal" "I" (.int (3 : Int32)) := Fld.start (own_fld ev_s_SUM_DOUBLE (by exact Term.int_eval (3)) g21)
  have F_ordinal_s_SUM_LONG : Fld s s.heap s_SUM_LONG "java/lang/Enum" "ordinal" "I" (.int (2 : Int32)) := Fld.start (own_fld ev_s_SUM_LONG (by exact Term.int_eval (2)) g25)
  have F_ordinal_s_SUM_INTEGER : Fld s s.heap s_SUM_INTEGER "java/lang/Enum" "ordinal" "I" (.int (1 : Int32)) := Fld.start (own_fld ev_s_SUM_INTEGER (by exact Term.int_eval (1)) g29)
  have F_ordinal_s_SUM_BIG_DECIMAL : Fld s s.heap s_SUM_BIG_DECIMAL "java/lang/Enum" "ordinal" "I" (.int (4 : Int32)) := Fld.start (own_fld ev_s_SUM_BIG_DECIMAL (by exact Term.int_eval (4)) g32)
  have ne_COUNT_MIN := Fld.ne F_ordinal_s_COUNT F_ordinal_s_MIN (by decide)
  have ne_COUNT_MAX := Fld.ne F_ordinal_s_COUNT F_ordinal_s_MAX (by decide)
  have ne_COUNT_AVG := Fld.ne F_ordinal_s_COUNT F_ordinal_s_AVG (by decide)
  have ne_SUM_INTEGER_MIN := Fld.ne F_ordinal_s_SUM_INTEGER F_ordinal_s_MIN (by decide)
  have ne_SUM_INTEGER_MAX := Fld.ne F_ordinal_s_SUM_INTEGER F_ordinal_s_MAX (by decide)
  have ne_SUM_INTEGER_AVG := Fld.ne F_ordinal_s_SUM_INTEGER F_ordinal_s_AVG (by decide)
  have ne_SUM_LONG_MIN := Fld.ne F_ordinal_s_SUM_LONG F_ordinal_s_MIN (by decide)
  have ne_SUM_LONG_MAX := Fld.ne F_ordinal_s_SUM_LONG F_ordinal_s_MAX (by decide)
  have ne_SUM_LONG_AVG := Fld.ne F_ordinal_s_SUM_LONG F_ordinal_s_AVG (by decide)
  have ne_SUM_DOUBLE_MIN := Fld.ne F_ordinal_s_SUM_DOUBLE F_ordinal_s_MIN (by decide)
  have ne_SUM_DOUBLE_MAX := Fld.ne F_ordinal_s_SUM_DOUBLE F_ordinal_s_MAX (by decide)
  have ne_SUM_DOUBLE_AVG := Fld.ne F_ordinal_s_SUM_DOUBLE F_ordinal_s_AVG (by decide)
  have ne_SUM_BIG_DECIMAL_MIN := Fld.ne F_ordinal_s_SUM_BIG_DECIMAL F_ordinal_s_MIN (by decide)
  have ne_SUM_BIG_DECIMAL_MAX := Fld.ne F_ordinal_s_SUM_BIG_DECIMAL F_ordinal_s_MAX (by decide)
  have ne_SUM_BIG_DECIMAL_AVG := Fld.ne F_ordinal_s_SUM_BIG_DECIMAL F_ordinal_s_AVG (by decide)
  have ne_MIN_MAX := Fld.ne F_ordinal_s_MIN F_ordinal_s_MAX (by decide)
  have ne_MIN_AVG := Fld.ne F_ordinal_s_MIN F_ordinal_s_AVG (by decide)
  have ne_MAX_MIN := Fld.ne F_ordinal_s_MAX F_ordinal_s_MIN (by decide)
  have ne_MAX_AVG := Fld.ne F_ordinal_s_MAX F_ordinal_s_AVG (by decide)
  have ne_AVG_MIN := Fld.ne F_ordinal_s_AVG F_ordinal_s_MIN (by decide)
  have ne_AVG_MAX := Fld.ne F_ordinal_s_AVG F_ordinal_s_MAX (by decide)
  obtain ⟨n, o, h1, h2, h3, _, L, rfl, ⟨rfl, N, -⟩, hq⟩ := rm0 l s _ hw tables_1 i0 s_COUNT s_MIN s_MAX s_AVG s_SUM_INTEGER s_SUM_LONG s_SUM_DOUBLE s_SUM_BIG_DECIMAL s.heap s.heap.size (Old.start s) S_s_COUNT S_s_MIN S_s_MAX S_s_AVG S_s_SUM_INTEGER S_s_SUM_LONG S_s_SUM_DOUBLE S_s_SUM_BIG_DECIMAL E_s_COUNT E_s_SUM_INTEGER E_s_SUM_LONG E_s_SUM_DOUBLE E_s_SUM_BIG_DECIMAL E_s_MIN E_s_MAX E_s_AVG ne_COUNT_MIN ne_COUNT_MAX ne_COUNT_AVG ne_SUM_INTEGER_MIN ne_SUM_INTEGER_MAX ne_SUM_INTEGER_AVG ne_SUM_LONG_MIN ne_SUM_LONG_MAX ne_SUM_LONG_AVG ne_SUM_DOUBLE_MIN ne_SUM_DOUBLE_MAX ne_SUM_DOUBLE_AVG ne_SUM_BIG_DECIMAL_MIN ne_SUM_BIG_DECIMAL_MAX ne_SUM_BIG_DECIMAL_AVG ne_MIN_MAX ne_MIN_AVG ne_MAX_MIN ne_MAX_AVG ne_AVG_MIN ne_AVG_MAX p e ha hc hk s m _ below hf ((Spec.applies_iff_loose hf).mp happ).1 ⟨rfl, State.Warmed39.refl s, rfl⟩ trivial
  refine ⟨n, _, h1, h2, h3, hpost _ _ _ _ _ _ ⟨Cond.after_iff.mpr rfl, Cond.after_iff.mpr (eq_i res_at (Term.int_eval (1)) rfl), trivial⟩ ⟨hq.1, hq.2.1, (hq.2.2.sift fun y hy => Or.inr (N y hy)).mono (by decide) (by decide)⟩⟩
theorem main_1_1 : Claimed_1_1 := comes_1 fun _ _ _ _ _ _ h hF => ⟨h.1, hF⟩
theorem main_1_2 : Claimed_1_2 := comes_1 fun _ _ _ _ _ _ h hF => ⟨h.2.1, hF⟩
end Jvm.Pilot.@@N@@
namespace Jvm.Pilot.@@N@@
open Jvm Jvm.ClassFile Sem Op Lib Jvm.Free Jvm.Stand Jvm.Pilot.@@N@@.Jvm.D
/-! MADE BY PROGRAM (witnessworld.py) out of the Statement's table words and the real class files: 12 classes; the members and pool entries that the words name. The judged class is class 1, her method 1. -/
namespace start1
open Jvm.ClassFile
def u (s : String) : CpInfo := .utf8 (stringToUtf16 s)
/-- a pool by its gaps: so many unusable entries, then the entry; so many at the end -/
def gap : Nat → List CpInfo → List CpInfo
  | 0, r => r
  | n + 1, r => .unusable :: gap n r
def poolList (es : List (Nat × CpInfo)) (last : Nat) : List CpInfo := es.foldr (fun e r => gap e.1 (e.2 :: r)) (gap last [])
def pool (es : List (Nat × CpInfo)) (last : Nat) : Array CpInfo := ⟨poolList es last⟩
def fileOf (pool : Array CpInfo) (this : Nat) (attrs : Array Attribute := #[]) (ms : Array MethodInfo := #[]) (fl : Nat := 33) (sup : Nat := 0) (ifs : Array Nat := #[]) (fds : Array FieldInfo := #[]) : ClassFile where
  minorVersion := 0
  majorVersion := 65
  constantPool := pool
  accessFlags := fl
  thisClass := this
  superClass := sup
  interfaces := ifs
  fields := fds
  methods := ms
  attributes := attrs
def plain (name : String) (sup : Option ClassId) : Class where
  name := name
  kind := .ordinary
  loader := none
  accessFlags := 33
  super := sup
  interfaces := #[]
  cf := none
  fields := #[]
  methods := #[]
  instanceTypes := #[]
  staticTypes := #[]
  resolved := #[]
  callSites := []
  init := .initialized
  statics := none
  mirror := none

def pool0 : Array CpInfo := pool [(5, u "<init>"), (0, u "()V"), (1, .class_ 10), (1, u "java/lang/Object")] 113

def k0m0 : Method := { name := "<init>", desc := "()V", sig := { parameters := [], returnType := none }, accessFlags := 1, code := none }
/-- java/lang/Object -/
def k0 : Class := { plain "java/lang/Object" none with
  accessFlags := 33
  interfaces := #[]
  cf := some (fileOf pool0 8 #[] #[{ accessFlags := 1, nameIndex := 5, descriptorIndex := 6, attributes := #[] }] 33 0 #[] #[])
  fields := #[]
  methods := #[k0m0]
  instanceTypes := #[]
  staticTypes := #[]
  resolved := Array.replicate 124 none
  statics := none }

def pool1 : Array CpInfo := pool [(2, .class_ 4), (1, u "java/lang/Object"), (0, u "<init>"), (0, u "()V"), (0, .methodref 8 9), (0, .class_ 10), (0, .nameAndType 11 12), (0, u "com/example/querent/querent/translation/AggregationIsOptionalPinLaw"), (0, u "pick"), (0, u "(I)Lcom/example/querent/querent/translation/Aggregation;"), (0, .methodref 14 15), (0, .class_ 16), (0, .nameAndType 17 18), (0, u "com/example/querent/querent/translation/Aggregation"), (0, u "isOptional"), (0, u "()Z"), (0, .fieldref 14 20), (0, .nameAndType 21 22), (0, u "COUNT"), (0, u "Lcom/example/querent/querent/translation/Aggregation;"), (0, .fieldref 14 24), (0, .nameAndType 25 22), (0, u "SUM_INTEGER"), (0, .fieldref 14 27), (0, .nameAndType 28 22), (0, u "SUM_LONG"), (0, .fieldref 14 30), (0, .nameAndType 31 22), (0, u "SUM_DOUBLE"), (0, .fieldref 14 33), (0, .nameAndType 34 22), (0, u "SUM_BIG_DECIMAL"), (0, .fieldref 14 36), (0, .nameAndType 37 22), (0, u "MIN"), (0, .fieldref 14 39), (0, .nameAndType 40 22), (0, u "MAX"), (0, .fieldref 14 42), (0, .nameAndType 43 22), (0, u "AVG"), (2, u "law"), (0, u "(I)Z")] 3

def k1m0 : Method := { name := "<init>", desc := "()V", sig := { parameters := [], returnType := none }, accessFlags := 1, code := none }
def k1c1 : Code := { maxStack := 2, maxLocals := 4, code := code, exceptionTable := #[], attributes := #[] }
def k1m1 : Method := { name := "law", desc := "(I)Z", sig := { parameters := [.int], returnType := some .boolean }, accessFlags := 9, code := some k1c1 }
def k1c2 : Code := { maxStack := 2, maxLocals := 1, code := method_3_code, exceptionTable := #[], attributes := #[] }
def k1m2 : Method := { name := "pick", desc := "(I)Lcom/example/querent/querent/translation/Aggregation;", sig := { parameters := [.int], returnType := some (.object "com/example/querent/querent/translation/Aggregation") }, accessFlags := 10, code := some k1c2 }
/-- com/example/querent/querent/translation/AggregationIsOptionalPinLaw -/
def k1 : Class := { plain "com/example/querent/querent/translation/AggregationIsOptionalPinLaw" (some 0) with
  accessFlags := 49
  interfaces := #[]
  cf := some (fileOf pool1 8 #[] #[{ accessFlags := 1, nameIndex := 5, descriptorIndex := 6, attributes := #[] }, { accessFlags := 9, nameIndex := 46, descriptorIndex := 47, attributes := #[] }, { accessFlags := 10, nameIndex := 11, descriptorIndex := 12, attributes := #[] }] 49 2 #[] #[])
  fields := #[]
  methods := #[k1m0, k1m1, k1m2]
  instanceTypes := #[]
  staticTypes := #[]
  resolved := Array.replicate 51 none
  statics := none }

def pool2 : Array CpInfo := pool [(1, .class_ 2), (0, u "java/lang/constant/Constable"), (0, .class_ 4), (0, u "java/lang/Object")] 6

/-- java/lang/constant/Constable -/
def k2 : Class := { plain "java/lang/constant/Constable" (some 0) with
  accessFlags := 1537
  interfaces := #[]
  cf := some (fileOf pool2 1 #[] #[] 1537 3 #[] #[])
  fields := #[]
  methods := #[]
  instanceTypes := #[]
  staticTypes := #[]
  resolved := Array.replicate 11 none
  statics := none }

def pool3 : Array CpInfo := pool [(1, .class_ 2), (0, u "java/lang/Comparable"), (0, .class_ 4), (0, u "java/lang/Object")] 7

/-- java/lang/Comparable -/
def k3 : Class := { plain "java/lang/Comparable" (some 0) with
  accessFlags := 1537
  interfaces := #[]
  cf := some (fileOf pool3 1 #[] #[] 1537 3 #[] #[])
  fields := #[]
  methods := #[]
  instanceTypes := #[]
  staticTypes := #[]
  resolved := Array.replicate 12 none
  statics := none }

def pool4 : Array CpInfo := pool [(1, .class_ 2), (0, u "java/io/Serializable"), (0, .class_ 4), (0, u "java/lang/Object")] 2

/-- java/io/Serializable -/
def k4 : Class := { plain "java/io/Serializable" (some 0) with
  accessFlags := 1537
  interfaces := #[]
  cf := some (fileOf pool4 1 #[] #[] 1537 3 #[] #[])
  fields := #[]
  methods := #[]
  instanceTypes := #[]
  staticTypes := #[]
  resolved := Array.replicate 7 none
  statics := none }

def pool5 : Array CpInfo := pool [(2, .class_ 4), (1, u "java/lang/Enum"), (0, u "name"), (0, u "Ljava/lang/String;"), (2, u "ordinal"), (0, u "I"), (1, .class_ 14), (1, u "java/lang/Object"), (4, u "hash"), (86, .class_ 108), (1, u "java/lang/Enum$EnumDesc"), (2, .class_ 112), (0, u "java/lang/constant/Constable"), (0, .class_ 114), (0, u "java/lang/Comparable"), (0, .class_ 116), (0, u "java/io/Serializable")] 87

/-- java/lang/Enum -/
def k5 : Class := { plain "java/lang/Enum" (some 0) with
  accessFlags := 1057
  interfaces := #[2, 3, 4]
  cf := some (fileOf pool5 2 #[.nestMembers #[106]] #[] 1057 12 #[111, 113, 115] #[{ accessFlags := 18, nameIndex := 5, descriptorIndex := 6, attributes := #[] }, { accessFlags := 18, nameIndex := 9, descriptorIndex := 10, attributes := #[] }, { accessFlags := 2, nameIndex := 19, descriptorIndex := 10, attributes := #[] }])
  fields := #[{ name := "name", type := (.object "java/lang/String"), accessFlags := 18, slot := 0, constantValue := 0 }, { name := "ordinal", type := .int, accessFlags := 18, slot := 1, constantValue := 0 }, { name := "hash", type := .int, accessFlags := 2, slot := 2, constantValue := 0 }]
  methods := #[]
  instanceTypes := #[(.object "java/lang/String"), .int, .int]
  staticTypes := #[]
  resolved := Array.replicate 204 none
  statics := none }

def pool6 : Array CpInfo := pool [(1, .class_ 2), (0, u "com/example/querent/querent/translation/Aggregation"), (2, u "COUNT"), (0, u "Lcom/example/querent/querent/translation/Aggregation;"), (2, u "SUM_INTEGER"), (2, u "SUM_LONG"), (2, u "SUM_DOUBLE"), (2, u "SUM_BIG_DECIMAL"), (0, .fieldref 1 20), (0, .nameAndType 21 6), (0, u "MIN"), (0, .fieldref 1 23), (0, .nameAndType 24 6), (0, u "MAX"), (0, .fieldref 1 26), (0, .nameAndType 27 6), (0, u "AVG"), (2, u "$VALUES"), (0, u "[Lcom/example/querent/querent/translation/Aggregation;"), (6, .class_ 40), (1, u "java/lang/Enum"), (115, u "isOptional"), (0, u "()Z")] 34

def k6c0 : Code := { maxStack := 2, maxLocals := 1, code := prog_1_method_7_code, exceptionTable := #[], attributes := #[] }
def k6m0 : Method := { name := "isOptional", desc := "()Z", sig := { parameters := [], returnType := some .boolean }, accessFlags := 0, code := some k6c0 }
/-- com/example/querent/querent/translation/Aggregation -/
def k6 : Class := { plain "com/example/querent/querent/translation/Aggregation" (some 5) with
  accessFlags := 16433
  interfaces := #[]
  cf := some (fileOf pool6 1 #[] #[{ accessFlags := 0, nameIndex := 156, descriptorIndex := 157, attributes := #[] }] 16433 38 #[] #[{ accessFlags := 16409, nameIndex := 5, descriptorIndex := 6, attributes := #[] }, { accessFlags := 16409, nameIndex := 9, descriptorIndex := 6, attributes := #[] }, { accessFlags := 16409, nameIndex := 12, descriptorIndex := 6, attributes := #[] }, { accessFlags := 16409, nameIndex := 15, descriptorIndex := 6, attributes := #[] }, { accessFlags := 16409, nameIndex := 18, descriptorIndex := 6, attributes := #[] }, { accessFlags := 16409, nameIndex := 21, descriptorIndex := 6, attributes := #[] }, { accessFlags := 16409, nameIndex := 24, descriptorIndex := 6, attributes := #[] }, { accessFlags := 16409, nameIndex := 27, descriptorIndex := 6, attributes := #[] }, { accessFlags := 4122, nameIndex := 30, descriptorIndex := 31, attributes := #[] }])
  fields := #[{ name := "COUNT", type := (.object "com/example/querent/querent/translation/Aggregation"), accessFlags := 16409, slot := 0, constantValue := 0 }, { name := "SUM_INTEGER", type := (.object "com/example/querent/querent/translation/Aggregation"), accessFlags := 16409, slot := 1, constantValue := 0 }, { name := "SUM_LONG", type := (.object "com/example/querent/querent/translation/Aggregation"), accessFlags := 16409, slot := 2, constantValue := 0 }, { name := "SUM_DOUBLE", type := (.object "com/example/querent/querent/translation/Aggregation"), accessFlags := 16409, slot := 3, constantValue := 0 }, { name := "SUM_BIG_DECIMAL", type := (.object "com/example/querent/querent/translation/Aggregation"), accessFlags := 16409, slot := 4, constantValue := 0 }, { name := "MIN", type := (.object "com/example/querent/querent/translation/Aggregation"), accessFlags := 16409, slot := 5, constantValue := 0 }, { name := "MAX", type := (.object "com/example/querent/querent/translation/Aggregation"), accessFlags := 16409, slot := 6, constantValue := 0 }, { name := "AVG", type := (.object "com/example/querent/querent/translation/Aggregation"), accessFlags := 16409, slot := 7, constantValue := 0 }, { name := "$VALUES", type := (.array (.object "com/example/querent/querent/translation/Aggregation")), accessFlags := 4122, slot := 8, constantValue := 0 }]
  methods := #[k6m0]
  instanceTypes := #[(.object "java/lang/String"), .int, .int]
  staticTypes := #[(.object "com/example/querent/querent/translation/Aggregation"), (.object "com/example/querent/querent/translation/Aggregation"), (.object "com/example/querent/querent/translation/Aggregation"), (.object "com/example/querent/querent/translation/Aggregation"), (.object "com/example/querent/querent/translation/Aggregation"), (.object "com/example/querent/querent/translation/Aggregation"), (.object "com/example/querent/querent/translation/Aggregation"), (.object "com/example/querent/querent/translation/Aggregation"), (.array (.object "com/example/querent/querent/translation/Aggregation"))]
  resolved := Array.replicate 192 none
  statics := some 0 }

def pool7 : Array CpInfo := pool [(1, u "java/lang/Cloneable"), (0, .class_ 1), (0, u "java/lang/Object"), (0, .class_ 3)] 3

/-- java/lang/Cloneable -/
def k7 : Class := { plain "java/lang/Cloneable" (some 0) with
  accessFlags := 1537
  interfaces := #[]
  cf := some (fileOf pool7 2 #[] #[] 1537 4 #[] #[])
  fields := #[]
  methods := #[]
  instanceTypes := #[]
  staticTypes := #[]
  resolved := Array.replicate 8 none
  statics := none }

/-- the primitive byte -/
def k8 : Class := { plain "byte" none with kind := .primitive 'B', accessFlags := 0x411 }
/-- [B -/
def k9 : Class := { plain "[B" (some 0) with kind := .array 8 .byte, interfaces := #[7, 4], accessFlags := 1041 }

/-- the primitive int -/
def k10 : Class := { plain "int" none with kind := .primitive 'I', accessFlags := 0x411 }
/-- [I -/
def k11 : Class := { plain "[I" (some 0) with kind := .array 10 .int, interfaces := #[7, 4], accessFlags := 1041 }

def heap : Heap := #[{ cls := 6, slots := #[.ref 1, .ref 2, .ref 3, .ref 4, .ref 5, .ref 6, .ref 7, .ref 8, .null], vm := .statics 6 },
  { cls := 6, slots := #[.null, .int 0, .int 0], vm := .none },
  { cls := 6, slots := #[.null, .int 1, .int 0], vm := .none },
  { cls := 6, slots := #[.null, .int 2, .int 0], vm := .none },
  { cls := 6, slots := #[.null, .int 3, .int 0], vm := .none },
  { cls := 6, slots := #[.null, .int 4, .int 0], vm := .none },
  { cls := 6, slots := #[.null, .int 5, .int 0], vm := .none },
  { cls := 6, slots := #[.null, .int 6, .int 0], vm := .none },
  { cls := 6, slots := #[.null, .int 7, .int 0], vm := .none }]
def classes : Array Class := #[k0, k1, k2, k3, k4, k5, k6, k7, k8, k9, k10, k11]
def interned : List (Array UInt16 × Addr) := []
def slotsUsed : Nat := 33
def theMethod : MethodId := ⟨1, 1⟩
def args0 : Array Value := #[.int 5]
def aboutOver (below : List Frame) : State where
  vm := { classes := classes, interned := interned.toArray }
  heap := heap
  slotsUsed := slotsUsed
  threads := #[{ frames := .invoking theMethod args0 :: below }]
def below0 : List Frame := [.native { method := ⟨0, 0⟩, args := #[] }]
def about1 : State := aboutOver below0
def p0 : Program := .bare "" "" ""
def e0 : Env := launch0.env 0 0 0
theorem w_frames : about1.frames = Frame.invoking theMethod args0 :: below0 := rfl
set_option maxRecDepth 65536 in
theorem w_args : argsFit about1.vm theMethod args0 = true := by decide +kernel
set_option maxRecDepth 65536 in
theorem w_heap : heapFits about1 = true := by decide +kernel
set_option maxRecDepth 65536 in
theorem w_runnable : about1.curStatus? = some .runnable := by decide +kernel
set_option maxRecDepth 65536 in
theorem w_alone : about1.alone = true := by decide +kernel
set_option maxRecDepth 65536 in
theorem w_named : about1.methodNamed? x = some theMethod := by decide +kernel
set_option maxRecDepth 65536 in
theorem w_hears : about1.hears theMethod below0 = true := by decide +kernel
set_option maxRecDepth 65536 in
theorem w_ripe : about1.ripe theMethod args0 below0 = true := by decide +kernel
theorem w_running : about1.status = .running := rfl
set_option maxRecDepth 65536 in
theorem w_room : about1.hasRoom e0.platform room_1 = true :=
  launch0.hasRoom_least _ room_1 (by decide +kernel) (by decide +kernel) (by decide +kernel) (by decide +kernel) (by decide +kernel) (by decide +kernel)
theorem allAtoms_all (ts : List Jvm.Cond) (a : Array Jvm.Value) (st : Jvm.State) : (allAtoms ts).before a st = ts.all (fun c => c.before a st) := by
  induction ts with
  | nil => rfl
  | cons c t ih =>
    show (Jvm.Cond.and c (allAtoms t)).before a st = _
    rw [Jvm.Cond.before_and, ih, List.all_cons]
def words1 : List Jvm.Cond := Jvm.Cond.code x code maxLocals ret :: tables_1
/-- a 'code' word, met by the world's own term for the bytes: nothing is compared byte by byte -/
theorem code_word {y : MethodName} {bytes : ByteArray} {mx : Nat} {rt : Option FieldType} {a : Array Value} {s : State} {m : MethodId} {meth : Method} {c : Code} (h1 : s.methodNamed? y = some m) (h2 : s.vm.method? m = some meth) (h3 : meth.code = some c) (h4 : c.code = bytes)
    (h5 : (c.maxLocals == mx && c.exceptionTable.isEmpty && decide (c.maxStack ≤ mostOperands) && decide (meth.sig.returnType = rt) && !meth.locks && decide (parseMethodDescriptor y.desc = some meth.sig)) = true) : (Jvm.Cond.code y bytes mx rt).before a s = true := by
  simp only [Bool.and_eq_true, beq_iff_eq, Bool.not_eq_true', decide_eq_true_eq] at h5
  obtain ⟨⟨⟨⟨⟨g1, g2⟩, g3⟩, g4⟩, g5⟩, g6⟩ := h5
  simp [Cond.before, Cond.holds, Cond.value, h1, h2, h3, h4, g1, g2, g3, g4, g5, g6]
def isCode : Jvm.Cond → Bool
  | .code _ _ _ _ => true
  | _ => false
theorem all_split {L : List Jvm.Cond} {P : Jvm.Cond → Bool} (h1 : L.all (fun c => isCode c || P c) = true) (h2 : ∀ c ∈ L.filter isCode, P c = true) : L.all P = true := by
  refine List.all_eq_true.mpr fun c hc => ?_
  have h := List.all_eq_true.mp h1 c hc
  rcases Bool.eq_false_or_eq_true (isCode c) with hi | hi
  · exact h2 c (List.mem_filter.mpr ⟨hc, hi⟩)
  · simpa [hi] using h
set_option maxRecDepth 65536 in
theorem w_c0 : (Jvm.Cond.code x code maxLocals ret).before args0 about1 = true := code_word (m := ⟨1, 1⟩) (meth := k1m1) (c := k1c1) (by decide +kernel) rfl rfl rfl (by decide +kernel)
set_option maxRecDepth 65536 in
theorem w_c1 : (Jvm.Cond.code ({ cls := "com/example/querent/querent/translation/AggregationIsOptionalPinLaw", name := "pick", desc := "(I)Lcom/example/querent/querent/translation/Aggregation;" } : Jvm.MethodName) method_3_code (1 : Nat) (Option.some (Jvm.ClassFile.FieldType.object "com/example/querent/querent/translation/Aggregation"))).before args0 about1 = true := code_word (m := ⟨1, 2⟩) (meth := k1m2) (c := k1c2) (by decide +kernel) rfl rfl rfl (by decide +kernel)
set_option maxRecDepth 65536 in
theorem w_c2 : (Jvm.Cond.code ({ cls := "com/example/querent/querent/translation/Aggregation", name := "isOptional", desc := "()Z" } : Jvm.MethodName) prog_1_method_7_code (1 : Nat) (Option.some Jvm.ClassFile.FieldType.boolean)).before args0 about1 = true := code_word (m := ⟨6, 0⟩) (meth := k6m0) (c := k6c0) (by decide +kernel) rfl rfl rfl (by decide +kernel)
def codes1 : List Jvm.Cond := [Jvm.Cond.code x code maxLocals ret, Jvm.Cond.code ({ cls := "com/example/querent/querent/translation/AggregationIsOptionalPinLaw", name := "pick", desc := "(I)Lcom/example/querent/querent/translation/Aggregation;" } : Jvm.MethodName) method_3_code (1 : Nat) (Option.some (Jvm.ClassFile.FieldType.object "com/example/querent/querent/translation/Aggregation")), Jvm.Cond.code ({ cls := "com/example/querent/querent/translation/Aggregation", name := "isOptional", desc := "()Z" } : Jvm.MethodName) prog_1_method_7_code (1 : Nat) (Option.some Jvm.ClassFile.FieldType.boolean)]
set_option maxRecDepth 65536 in
theorem codes_eq : words1.filter isCode = codes1 := rfl
theorem w_codes : ∀ c ∈ words1.filter isCode, c.before args0 about1 = true := by
  rw [codes_eq]
  intro c hc
  simp only [codes1, List.mem_cons, List.not_mem_nil, or_false] at hc
  rcases hc with rfl | rfl | rfl
  · exact w_c0
  · exact w_c1
  · exact w_c2
set_option maxRecDepth 65536 in
theorem w_t1 : (words1.take 24).all (fun c => isCode c || c.before args0 about1) = true := by decide +kernel
set_option maxRecDepth 65536 in
theorem w_t2 : (words1.drop 24).all (fun c => isCode c || c.before args0 about1) = true := by decide +kernel
theorem w_tables : (allAtoms (Jvm.Cond.code x code maxLocals ret :: tables_1)).before args0 about1 = true := by
  rw [allAtoms_all]
  show words1.all (fun c => c.before args0 about1) = true
  refine all_split ?_ w_codes
  rw [← List.take_append_drop 24 words1, List.all_append, w_t1, w_t2]
  rfl
set_option maxRecDepth 65536 in
theorem w_case : (Jvm.Cond.and given_1 narrow_1).before args0 about1 = true := by decide +kernel
theorem w_applies : (headSpec (Jvm.Cond.code x code maxLocals ret :: tables_1) room_1).applies x e0.platform about1 = true :=
  (Spec.applies_iff w_frames).mpr ⟨w_running, w_runnable, w_alone, w_named, w_hears, w_ripe, w_room, w_tables⟩
theorem atStart : AtStart classFile x code maxLocals ret World_1 tables_1 room_1 Calls_1 rest_1 Pre_1 launch0 p0 e0 about1 theMethod args0 below0 :=
  ⟨lists_1, trivial, launch0.admits_env _ _ _, launch0.least_env, fairChoices_fair.cas, fairChoices_fair.clock, w_frames, w_args, w_heap, w_applies, trivial, trivial, w_case⟩
end start1
theorem witness_1 : WitnessClaimed_1 := ⟨start1.p0, start1.e0, start1.about1, start1.theMethod, start1.args0, start1.below0, start1.atStart⟩
end Jvm.Pilot.@@N@@
