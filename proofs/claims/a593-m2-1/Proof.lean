import JvmDerived
import JvmDerived.Pilot.@@N@@Statement
import JvmDerived.Pilot.@@N@@Code
set_option linter.unusedVariables false
set_option linter.unusedSimpArgs false
namespace Jvm.RoadKit
open Sem ClassFile Op Lib Jvm.Stand Jvm.Free Jvm.LawKit
section New
variable {p : Program} {l : Launch} {e : Env} {R : Room} {s : State} {m : MethodId} {args : Array Value} {below : List Frame} {meth : Method} {c : Code} {T : State} {locs : List Loc} {cells slots : Nat}
theorem retI (X : Stand p l e R s m args below meth c T locs cells slots) (hx : p.tables.exec = Jvm.exec) {pc : Nat} {Ls : Array Slot} {z : Int32} {rest : List Value} (hret : meth.sig.returnType = some .int) (hd : decode c.code pc = .ok (.ireturn, 1)) {fs : List Frame}
    (hl : ∀ (f : JFrame) (acts : List Action), f.method = m → f.locked = none → f.entered = [] → (doReturn e (T.setTop f) acts (some (.int z))).1 = T.setFrames fs) : Steps p.tables e below (T.setTop (mkF m pc Ls (.int z :: rest))) (T.setFrames fs) := by
  have hm' : T.vm.method? m = some meth := X.method'
  have hn : narrow .int (.int z) = .int z := rfl
  show Steps p.tables e below (T.setTop { method := m, pc := pc, locals := Ls, stack := _ :: rest, locked := none }) _
  jvm_step X.here [X.here.top, hx, hd, hm', hret, hn]
  first | (intro acts; rw [hl _ acts rfl rfl rfl]) | rw [hl _ _ rfl rfl rfl]
  exact Steps.refl _
end New
end Jvm.RoadKit
namespace Jvm.Pilot.@@N@@
open Jvm Jvm.ClassFile Sem Op Lib Jvm.Free Jvm.Stand Jvm.LawKit Jvm.RoadKit Bundle Jvm.Pilot.@@N@@.Jvm.D
theorem own_fld {args : Array Value} {s : State} {t r : Term} {C n d : String} {a : Addr} {v : Value} (ht : t.eval args s none [] s = some (.ref a)) (hr : r.eval args s none [] s = some v) (h : (Jvm.Cond.eq (.field t C n d) r).value args s none s [] = some true) : s.fieldOf? a C n d = some v := by
  obtain ⟨x, y, h1, h2, hk, -⟩ := cmp_v (Or.inl h)
  have e1 : s.fieldOf? a C n d = some x := (fld_at ht).symm.trans h1
  cases hr.symm.trans h2
  rw [e1]
  simp only [Cond.value, h1, hr] at h
  cases x <;> cases v <;> simp_all [Kin, Value.isRef]
def own_tier (q : Int32) (x y z : Addr) : Addr := if q < 12 then x else if q < 17 then y else z
theorem own_lt {q : Int32} (h : ¬ q < 17) : ¬ q < 12 := by
  simp only [Int32.lt_iff_toInt_lt, show (12 : Int32).toInt = 12 from rfl, show (17 : Int32).toInt = 17 from rfl] at *
  omega
theorem d1_0 : decode prog_74_method_5_code 0 = .ok (.iload_n 1, 1) := by decide +kernel
theorem d1_1 : decode prog_74_method_5_code 1 = .ok (.bipush 17, 2) := by decide +kernel
theorem d1_3 : decode prog_74_method_5_code 3 = .ok (.if_icmp .lt 8, 3) := by decide +kernel
theorem d1_11 : decode prog_74_method_5_code 11 = .ok (.iload_n 1, 1) := by decide +kernel
theorem d1_12 : decode prog_74_method_5_code 12 = .ok (.bipush 12, 2) := by decide +kernel
theorem d1_14 : decode prog_74_method_5_code 14 = .ok (.if_icmp .lt 10, 3) := by decide +kernel
theorem d1_24 : decode prog_74_method_5_code 24 = .ok (.aload_n 0, 1) := by decide +kernel
theorem d1_25 : decode prog_74_method_5_code 25 = .ok (.getfield 32, 3) := by decide +kernel
theorem d1_28 : decode prog_74_method_5_code 28 = .ok (.areturn, 1) := by decide +kernel
theorem d1_17 : decode prog_74_method_5_code 17 = .ok (.aload_n 0, 1) := by decide +kernel
theorem d1_18 : decode prog_74_method_5_code 18 = .ok (.getfield 36, 3) := by decide +kernel
theorem d1_21 : decode prog_74_method_5_code 21 = .ok (.goto 7, 3) := by decide +kernel
theorem d1_6 : decode prog_74_method_5_code 6 = .ok (.aload_n 0, 1) := by decide +kernel
theorem d1_7 : decode prog_74_method_5_code 7 = .ok (.getfield 39, 3) := by decide +kernel
theorem d1_10 : decode prog_74_method_5_code 10 = .ok (.areturn, 1) := by decide +kernel
theorem pn_com_example_hantei_hantei_packs_powerroll_Difficulty : plainName "com/example/hantei/hantei/packs/powerroll/Difficulty" = true := by first | (simp [plainName, overriddenIn]; done) | decide +kernel
theorem ef_1 (m : MethodId) (x0 : Addr) (x1 : Int32) : entryFrame m #[(.ref x0), (.int x1)] 2 = mkF m 0 #[.val (.ref x0), .val (.int x1)] [] := by first | (simp [entryFrame, mkF, argsToLocals, Value.category]; done) | rfl
def Q1 (Z : State) (a : Addr) (i : Int32) (x1 : Addr) (x2 : Addr) (x3 : Addr) (h0 : Heap) (n0 : Nat) (v : Option Value) (h : Heap) (L : List Loc) : Prop := v = some (.ref (own_tier i x1 x2 x3)) ∧ Fr n0 L ∧ h = h0
set_option maxRecDepth 65536 in
set_option maxHeartbeats 40000000 in
theorem rm1 (l : Launch) (Z : State) (a0 : Array Value) (hw : ∀ d ∈ tables_1, d.before a0 Z = true) (ws : List Jvm.Cond) (a : Addr) (i : Int32) (x1 : Addr) (x2 : Addr) (x3 : Addr) (h0 : Heap) (n0 : Nat) (O0 : Old Z n0 h0) (F1 : Fld Z h0 a "com/example/hantei/hantei/packs/powerroll/Difficulty" "tierOne" "Lcom/example/hantei/hantei/packs/powerroll/Outcome;" (.ref x1)) (F2 : Fld Z h0 a "com/example/hantei/hantei/packs/powerroll/Difficulty" "tierTwo" "Lcom/example/hantei/hantei/packs/powerroll/Outcome;" (.ref x2)) (F3 : Fld Z h0 a "com/example/hantei/hantei/packs/powerroll/Difficulty" "tierThree" "Lcom/example/hantei/hantei/packs/powerroll/Outcome;" (.ref x3)) :
    MetFree l (⟨"com/example/hantei/hantei/packs/powerroll/Difficulty", "outcome", "(I)Lcom/example/hantei/hantei/packs/powerroll/Outcome;"⟩ : MethodName) (head1 (Jvm.Cond.code (⟨"com/example/hantei/hantei/packs/powerroll/Difficulty", "outcome", "(I)Lcom/example/hantei/hantei/packs/powerroll/Outcome;"⟩ : MethodName) prog_74_method_5_code 2 (some (.object "com/example/hantei/hantei/packs/powerroll/Outcome")) :: ws) ({ frames := 0, cells := 0, slots := 0, locals := 0 } : Room)) (fun aA uU => aA = #[(.ref a), (.int i)] ∧ Z.Warmed39 uU.vm ∧ uU.heap = h0) (fun _ _ _ _ _ => True) (fun _ uU oO uU' => ∃ vV lL, oO = .returned vV ∧ Q1 Z a i x1 x2 x3  h0 n0 vV uU'.heap lL ∧ FrameEnd uU oO uU' lL ({ frames := 0, cells := 0, slots := 0, locals := 0 } : Room).cells ({ frames := 0, cells := 0, slots := 0, locals := 0 } : Room).slots) := by
  refine MetFree.of_bodySF (plainFor_of_name pn_com_example_hantei_hantei_packs_powerroll_Difficulty) hisR ?_
  intro p e s m args below meth c s₁ Bd hml0 hP hK
  obtain ⟨rfl, hZ, hh⟩ := hP
  have hx := Bd.exec
  have hby := Bd.bytes
  have hml : c.maxLocals = 2 := hml0
  have hown : s.vm.findClass "com/example/hantei/hantei/packs/powerroll/Difficulty" = some m.cls := findClass_of_methodNamed Bd.named
  have hnm := (name_of_methodNamed Bd.named Bd.method).1
  have X0 : Stand p l e ({ frames := 0, cells := 0, slots := 0, locals := 0 } : Room) s m #[(.ref a), (.int i)] below meth c s₁ [] 0 0 := Stand.of_body Bd
  have e0 : s₁.heap = h0 := by rw [← hh, Bd.state]; rfl
  have N0 := Fr.nil n0
  have O := O0
  have pre0 : ∀ t, Steps p.tables e below (s₁.setTop (mkF m 0 #[.val (.ref a), .val (.int i)] [])) t → Steps p.tables e below (s₁.setTop (entryFrame m #[(.ref a), (.int i)] 2)) t := fun t k => castTop (ef_1 m a i) k
  have w1 : ∀ t, Steps p.tables e below (s₁.setTop (mkF m 3 #[.val (.ref a), .val (.int i)] [(.int (17 : Int32)), (.int i)])) t → Steps p.tables e below (s₁.setTop (entryFrame m #[(.ref a), (.int i)] 2)) t := fun t k => by
    refine pre0 t ?_
    refine XS.iloadN X0.here hx rfl (hb hby d1_0) rfl ?_
    show Steps p.tables e below (s₁.setTop (mkF m 1 #[.val (.ref a), .val (.int i)] [(.int i)])) _
    refine XS.bipush X0.here hx rfl (hb hby d1_1) ?_
    show Steps p.tables e below (s₁.setTop (mkF m 3 #[.val (.ref a), .val (.int i)] [(.int (17 : Int32)), (.int i)])) _
    exact k
  by_cases hc3_2 : i < (17 : Int32)
  · have w3 : ∀ t, Steps p.tables e below (s₁.setTop (mkF m 14 #[.val (.ref a), .val (.int i)] [(.int (12 : Int32)), (.int i)])) t → Steps p.tables e below (s₁.setTop (entryFrame m #[(.ref a), (.int i)] 2)) t := fun t k => by
      refine w1 t ?_
      refine XS.icmpYes X0.here hx rfl (pc0 := 3) (pc' := 11) rfl (hb hby d1_3) rfl (tlt hc3_2).1 (by decide) (by decide) ?_
      show Steps p.tables e below (s₁.setTop (mkF m 11 #[.val (.ref a), .val (.int i)] [])) _
      refine XS.iloadN X0.here hx rfl (hb hby d1_11) rfl ?_
      show Steps p.tables e below (s₁.setTop (mkF m 12 #[.val (.ref a), .val (.int i)] [(.int i)])) _
      refine XS.bipush X0.here hx rfl (hb hby d1_12) ?_
      show Steps p.tables e below (s₁.setTop (mkF m 14 #[.val (.ref a), .val (.int i)] [(.int (12 : Int32)), (.int i)])) _
      exact k
    by_cases hc14_4 : i < (12 : Int32)
    · obtain ⟨T5, X5, e5, st5⟩ := getF X0 hx hZ hown (host := "") (Or.inl (hw _ (List.mem_of_getElem? (i := 9) rfl))) Via.refl e0 F1 (g := (mkF m 25 #[.val (.ref a), .val (.int i)] [(.ref a)])) rfl rfl (hb hby d1_25)
      have w6 : ∀ t, Steps p.tables e below (T5.setTop (mkF m 28 #[.val (.ref a), .val (.int i)] [(.ref x1)])) t → Steps p.tables e below (s₁.setTop (entryFrame m #[(.ref a), (.int i)] 2)) t := fun t k => by
        refine w3 t ?_
        refine XS.icmpYes X0.here hx rfl (pc0 := 14) (pc' := 24) rfl (hb hby d1_14) rfl (tlt hc14_4).1 (by decide) (by decide) ?_
        show Steps p.tables e below (s₁.setTop (mkF m 24 #[.val (.ref a), .val (.int i)] [])) _
        refine XS.aloadN X0.here hx rfl (hb hby d1_24) rfl rfl ?_
        show Steps p.tables e below (s₁.setTop (mkF m 25 #[.val (.ref a), .val (.int i)] [(.ref a)])) _
        refine st5 _ ?_
        show Steps p.tables e below (T5.setTop (mkF m 28 #[.val (.ref a), .val (.int i)] [(.ref x1)])) _
        exact k
      obtain ⟨fs, hr, hrun, hended, hW, hsame⟩ := X5.leave (v := some (.ref x1)) (fun h => by rw [Bd.returns] at h; cases h)
      refine ⟨_, _, w6 _ ?_, hrun, hended, _, _, rfl, ?_, ⟨_, rfl⟩, hW, hsame.mono (by decide) (by decide)⟩
      · jvm_step X5.here [X5.here.top, hx, (hb hby d1_28), X5.method', Bd.returns, Value.isRef, FieldType.isReference]
        first | (intro acts; rw [hr _ acts rfl rfl rfl]) | rw [hr _ _ rfl rfl rfl]
        exact Steps.refl _
      · show Q1 Z a i x1 x2 x3  h0 n0 _ T5.heap _
        rw [e5]
        exact ⟨(by simp [own_tier, hc3_2, hc14_4]), N0, rfl⟩
    · obtain ⟨T7, X7, e7, st7⟩ := getF X0 hx hZ hown (host := "") (Or.inl (hw _ (List.mem_of_getElem? (i := 13) rfl))) Via.refl e0 F2 (g := (mkF m 18 #[.val (.ref a), .val (.int i)] [(.ref a)])) rfl rfl (hb hby d1_18)
      have w8 : ∀ t, Steps p.tables e below (T7.setTop (mkF m 28 #[.val (.ref a), .val (.int i)] [(.ref x2)])) t → Steps p.tables e below (s₁.setTop (entryFrame m #[(.ref a), (.int i)] 2)) t := fun t k => by
        refine w3 t ?_
        refine XS.icmpNo X0.here hx rfl (hb hby d1_14) rfl (flt hc14_4).1 ?_
        show Steps p.tables e below (s₁.setTop (mkF m 17 #[.val (.ref a), .val (.int i)] [])) _
        refine XS.aloadN X0.here hx rfl (hb hby d1_17) rfl rfl ?_
        show Steps p.tables e below (s₁.setTop (mkF m 18 #[.val (.ref a), .val (.int i)] [(.ref a)])) _
        refine st7 _ ?_
        show Steps p.tables e below (T7.setTop (mkF m 21 #[.val (.ref a), .val (.int i)] [(.ref x2)])) _
        refine XS.goto X7.here hx rfl (pc0 := 21) (pc' := 28) rfl (hb hby d1_21) (by decide) (by decide) ?_
        show Steps p.tables e below (T7.setTop (mkF m 28 #[.val (.ref a), .val (.int i)] [(.ref x2)])) _
        exact k
      obtain ⟨fs, hr, hrun, hended, hW, hsame⟩ := X7.leave (v := some (.ref x2)) (fun h => by rw [Bd.returns] at h; cases h)
      refine ⟨_, _, w8 _ ?_, hrun, hended, _, _, rfl, ?_, ⟨_, rfl⟩, hW, hsame.mono (by decide) (by decide)⟩
      · jvm_step X7.here [X7.here.top, hx, (hb hby d1_28), X7.method', Bd.returns, Value.isRef, FieldType.isReference]
        first | (intro acts; rw [hr _ acts rfl rfl rfl]) | rw [hr _ _ rfl rfl rfl]
        exact Steps.refl _
      · show Q1 Z a i x1 x2 x3  h0 n0 _ T7.heap _
        rw [e7]
        exact ⟨(by simp [own_tier, hc3_2, hc14_4]), N0, rfl⟩
  · obtain ⟨T9, X9, e9, st9⟩ := getF X0 hx hZ hown (host := "") (Or.inl (hw _ (List.mem_of_getElem? (i := 26) rfl))) Via.refl e0 F3 (g := (mkF m 7 #[.val (.ref a), .val (.int i)] [(.ref a)])) rfl rfl (hb hby d1_7)
    have w10 : ∀ t, Steps p.tables e below (T9.setTop (mkF m 10 #[.val (.ref a), .val (.int i)] [(.ref x3)])) t → Steps p.tables e below (s₁.setTop (entryFrame m #[(.ref a), (.int i)] 2)) t := fun t k => by
      refine w1 t ?_
      refine XS.icmpNo X0.here hx rfl (hb hby d1_3) rfl (flt hc3_2).1 ?_
      show Steps p.tables e below (s₁.setTop (mkF m 6 #[.val (.ref a), .val (.int i)] [])) _
      refine XS.aloadN X0.here hx rfl (hb hby d1_6) rfl rfl ?_
      show Steps p.tables e below (s₁.setTop (mkF m 7 #[.val (.ref a), .val (.int i)] [(.ref a)])) _
      refine st9 _ ?_
      show Steps p.tables e below (T9.setTop (mkF m 10 #[.val (.ref a), .val (.int i)] [(.ref x3)])) _
      exact k
    obtain ⟨fs, hr, hrun, hended, hW, hsame⟩ := X9.leave (v := some (.ref x3)) (fun h => by rw [Bd.returns] at h; cases h)
    refine ⟨_, _, w10 _ ?_, hrun, hended, _, _, rfl, ?_, ⟨_, rfl⟩, hW, hsame.mono (by decide) (by decide)⟩
    · jvm_step X9.here [X9.here.top, hx, (hb hby d1_10), X9.method', Bd.returns, Value.isRef, FieldType.isReference]
      first | (intro acts; rw [hr _ acts rfl rfl rfl]) | rw [hr _ _ rfl rfl rfl]
      exact Steps.refl _
    · show Q1 Z a i x1 x2 x3  h0 n0 _ T9.heap _
      rw [e9]
      exact ⟨(by simp [own_tier, hc3_2, own_lt hc3_2]), N0, rfl⟩
theorem d2_0 : decode method_3_code 0 = .ok (.iload_n 1, 1) := by decide +kernel
theorem d2_1 : decode method_3_code 1 = .ok (.bipush 12, 2) := by decide +kernel
theorem d2_3 : decode method_3_code 3 = .ok (.if_icmp .ge 8, 3) := by decide +kernel
theorem d2_6 : decode method_3_code 6 = .ok (.iconst 1, 1) := by decide +kernel
theorem d2_7 : decode method_3_code 7 = .ok (.istore_n 2, 1) := by decide +kernel
theorem d2_8 : decode method_3_code 8 = .ok (.goto 16, 3) := by decide +kernel
theorem d2_24 : decode method_3_code 24 = .ok (.iload_n 0, 1) := by decide +kernel
theorem d2_25 : decode method_3_code 25 = .ok (.ifCond .ne 25, 3) := by decide +kernel
theorem d2_28 : decode method_3_code 28 = .ok (.iload_n 2, 1) := by decide +kernel
theorem d2_29 : decode method_3_code 29 = .ok (.iconst 1, 1) := by decide +kernel
theorem d2_30 : decode method_3_code 30 = .ok (.if_icmp .ne 7, 3) := by decide +kernel
theorem d2_33 : decode method_3_code 33 = .ok (.getstatic 30, 3) := by decide +kernel
theorem d2_36 : decode method_3_code 36 = .ok (.areturn, 1) := by decide +kernel
theorem d2_11 : decode method_3_code 11 = .ok (.iload_n 1, 1) := by decide +kernel
theorem d2_12 : decode method_3_code 12 = .ok (.bipush 17, 2) := by decide +kernel
theorem d2_14 : decode method_3_code 14 = .ok (.if_icmp .ge 8, 3) := by decide +kernel
theorem d2_17 : decode method_3_code 17 = .ok (.iconst 2, 1) := by decide +kernel
theorem d2_18 : decode method_3_code 18 = .ok (.istore_n 2, 1) := by decide +kernel
theorem d2_19 : decode method_3_code 19 = .ok (.goto 5, 3) := by decide +kernel
theorem d2_37 : decode method_3_code 37 = .ok (.iload_n 2, 1) := by decide +kernel
theorem d2_38 : decode method_3_code 38 = .ok (.iconst 2, 1) := by decide +kernel
theorem d2_39 : decode method_3_code 39 = .ok (.if_icmp .ne 7, 3) := by decide +kernel
theorem d2_42 : decode method_3_code 42 = .ok (.getstatic 36, 3) := by decide +kernel
theorem d2_45 : decode method_3_code 45 = .ok (.areturn, 1) := by decide +kernel
theorem d2_22 : decode method_3_code 22 = .ok (.iconst 3, 1) := by decide +kernel
theorem d2_23 : decode method_3_code 23 = .ok (.istore_n 2, 1) := by decide +kernel
theorem d2_46 : decode method_3_code 46 = .ok (.getstatic 39, 3) := by decide +kernel
theorem d2_49 : decode method_3_code 49 = .ok (.areturn, 1) := by decide +kernel
theorem pn_com_example_hantei_hantei_packs_powerroll_DifficultyOutcomePinLaw : plainName "com/example/hantei/hantei/packs/powerroll/DifficultyOutcomePinLaw" = true := by first | (simp [plainName, overriddenIn]; done) | decide +kernel
theorem ef_2_0 (m : MethodId) (x0 : Int32) (x1 : Int32) : entryFrame m #[(.int x0), (.int x1)] 3 = mkF m 0 #[.val (.int x0), .val (.int x1), .unset] [] := by first | (simp [entryFrame, mkF, argsToLocals, Value.category]; done) | rfl
def Q2_0 (Z : State) (j : Int32) (i : Int32) (s_SUCCESS_WITH_CONSEQUENCE : Addr) (s_SUCCESS : Addr) (s_SUCCESS_WITH_REWARD : Addr) (h0 : Heap) (n0 : Nat) (v : Option Value) (h : Heap) (L : List Loc) : Prop := v = some (.ref (own_tier i s_SUCCESS_WITH_CONSEQUENCE s_SUCCESS s_SUCCESS_WITH_REWARD)) ∧ Fr n0 L ∧ h = h0
set_option maxRecDepth 65536 in
set_option maxHeartbeats 40000000 in
theorem rm2_0 (l : Launch) (Z : State) (a0 : Array Value) (hw : ∀ d ∈ tables_1, d.before a0 Z = true) (ws : List Jvm.Cond) (j : Int32) (i : Int32) (s_SUCCESS_WITH_CONSEQUENCE : Addr) (s_SUCCESS : Addr) (s_SUCCESS_WITH_REWARD : Addr) (h0 : Heap) (n0 : Nat) (O0 : Old Z n0 h0) (S_s_SUCCESS_WITH_CONSEQUENCE : Sta Z Z.heap "com/example/hantei/hantei/packs/powerroll/Outcome" "SUCCESS_WITH_CONSEQUENCE" "Lcom/example/hantei/hantei/packs/powerroll/Outcome;" (.ref s_SUCCESS_WITH_CONSEQUENCE)) (S_s_SUCCESS : Sta Z Z.heap "com/example/hantei/hantei/packs/powerroll/Outcome" "SUCCESS" "Lcom/example/hantei/hantei/packs/powerroll/Outcome;" (.ref s_SUCCESS)) (S_s_SUCCESS_WITH_REWARD : Sta Z Z.heap "com/example/hantei/hantei/packs/powerroll/Outcome" "SUCCESS_WITH_REWARD" "Lcom/example/hantei/hantei/packs/powerroll/Outcome;" (.ref s_SUCCESS_WITH_REWARD)) (hk : j = (0 : Int32)) :
    MetFree l (⟨"com/example/hantei/hantei/packs/powerroll/DifficultyOutcomePinLaw", "expected", "(II)Lcom/example/hantei/hantei/packs/powerroll/Outcome;"⟩ : MethodName) (head1 (Jvm.Cond.code (⟨"com/example/hantei/hantei/packs/powerroll/DifficultyOutcomePinLaw", "expected", "(II)Lcom/example/hantei/hantei/packs/powerroll/Outcome;"⟩ : MethodName) method_3_code 3 (some (.object "com/example/hantei/hantei/packs/powerroll/Outcome")) :: ws) ({ frames := 0, cells := 0, slots := 0, locals := 0 } : Room)) (fun aA uU => aA = #[(.int j), (.int i)] ∧ Z.Warmed39 uU.vm ∧ uU.heap = h0) (fun _ _ _ _ _ => True) (fun _ uU oO uU' => ∃ vV lL, oO = .returned vV ∧ Q2_0 Z j i s_SUCCESS_WITH_CONSEQUENCE s_SUCCESS s_SUCCESS_WITH_REWARD h0 n0 vV uU'.heap lL ∧ FrameEnd uU oO uU' lL ({ frames := 0, cells := 0, slots := 0, locals := 0 } : Room).cells ({ frames := 0, cells := 0, slots := 0, locals := 0 } : Room).slots) := by
  refine MetFree.of_bodySF (plainFor_of_name pn_com_example_hantei_hantei_packs_powerroll_DifficultyOutcomePinLaw) hisR ?_
  intro p e s m args below meth c s₁ Bd hml0 hP hK
  obtain ⟨rfl, hZ, hh⟩ := hP
  have hx := Bd.exec
  have hby := Bd.bytes
  have hml : c.maxLocals = 3 := hml0
  have hown : s.vm.findClass "com/example/hantei/hantei/packs/powerroll/DifficultyOutcomePinLaw" = some m.cls := findClass_of_methodNamed Bd.named
  have hnm := (name_of_methodNamed Bd.named Bd.method).1
  have X0 : Stand p l e ({ frames := 0, cells := 0, slots := 0, locals := 0 } : Room) s m #[(.int j), (.int i)] below meth c s₁ [] 0 0 := Stand.of_body Bd
  have e0 : s₁.heap = h0 := by rw [← hh, Bd.state]; rfl
  have N0 := Fr.nil n0
  have O := O0
  have pre0 : ∀ t, Steps p.tables e below (s₁.setTop (mkF m 0 #[.val (.int j), .val (.int i), .unset] [])) t → Steps p.tables e below (s₁.setTop (entryFrame m #[(.int j), (.int i)] 3)) t := fun t k => castTop (ef_2_0 m j i) k
  have w1 : ∀ t, Steps p.tables e below (s₁.setTop (mkF m 3 #[.val (.int j), .val (.int i), .unset] [(.int (12 : Int32)), (.int i)])) t → Steps p.tables e below (s₁.setTop (entryFrame m #[(.int j), (.int i)] 3)) t := fun t k => by
    refine pre0 t ?_
    refine XS.iloadN X0.here hx rfl (hb hby d2_0) rfl ?_
    show Steps p.tables e below (s₁.setTop (mkF m 1 #[.val (.int j), .val (.int i), .unset] [(.int i)])) _
    refine XS.bipush X0.here hx rfl (hb hby d2_1) ?_
    show Steps p.tables e below (s₁.setTop (mkF m 3 #[.val (.int j), .val (.int i), .unset] [(.int (12 : Int32)), (.int i)])) _
    exact k
  by_cases hc3_2 : i < (12 : Int32)
  · obtain ⟨T3, X3, e3, st3⟩ := getS2 X0 hx hZ hown (host := "") (Or.inl (hw _ (List.mem_of_getElem? (i := 20) rfl))) Via.refl e0 (S_s_SUCCESS_WITH_CONSEQUENCE.ext O.2) (g := (mkF m 33 #[.val (.int j), .val (.int i), .val (.int (1 : Int32))] [])) rfl (hb hby d2_33)
    have w4 : ∀ t, Steps p.tables e below (T3.setTop (mkF m 36 #[.val (.int j), .val (.int i), .val (.int (1 : Int32))] [(.ref s_SUCCESS_WITH_CONSEQUENCE)])) t → Steps p.tables e below (s₁.setTop (entryFrame m #[(.int j), (.int i)] 3)) t := fun t k => by
      refine w1 t ?_
      refine XS.icmpNo X0.here hx rfl (hb hby d2_3) rfl (tlt hc3_2).2.1 ?_
      show Steps p.tables e below (s₁.setTop (mkF m 6 #[.val (.int j), .val (.int i), .unset] [])) _
      refine XS.iconst X0.here hx rfl (hb hby d2_6) ?_
      show Steps p.tables e below (s₁.setTop (mkF m 7 #[.val (.int j), .val (.int i), .unset] [(.int (1 : Int32))])) _
      refine XS.istoreN X0.here hx rfl (hb hby d2_7) rfl (l' := #[.val (.int j), .val (.int i), .val (.int (1 : Int32))]) rfl ?_
      show Steps p.tables e below (s₁.setTop (mkF m 8 #[.val (.int j), .val (.int i), .val (.int (1 : Int32))] [])) _
      refine XS.goto X0.here hx rfl (pc0 := 8) (pc' := 24) rfl (hb hby d2_8) (by decide) (by decide) ?_
      show Steps p.tables e below (s₁.setTop (mkF m 24 #[.val (.int j), .val (.int i), .val (.int (1 : Int32))] [])) _
      refine XS.iloadN X0.here hx rfl (hb hby d2_24) rfl ?_
      show Steps p.tables e below (s₁.setTop (mkF m 25 #[.val (.int j), .val (.int i), .val (.int (1 : Int32))] [(.int j)])) _
      refine XS.ifNo X0.here hx rfl (hb hby d2_25) rfl ((if0 _ _).trans (teq (hk : j = (0 : Int32))).2) ?_
      show Steps p.tables e below (s₁.setTop (mkF m 28 #[.val (.int j), .val (.int i), .val (.int (1 : Int32))] [])) _
      refine XS.iloadN X0.here hx rfl (hb hby d2_28) rfl ?_
      show Steps p.tables e below (s₁.setTop (mkF m 29 #[.val (.int j), .val (.int i), .val (.int (1 : Int32))] [(.int (1 : Int32))])) _
      refine XS.iconst X0.here hx rfl (hb hby d2_29) ?_
      show Steps p.tables e below (s₁.setTop (mkF m 30 #[.val (.int j), .val (.int i), .val (.int (1 : Int32))] [(.int (1 : Int32)), (.int (1 : Int32))])) _
      refine XS.icmpNo X0.here hx rfl (hb hby d2_30) rfl (teq (rfl : (1 : Int32) = (1 : Int32))).2 ?_
      show Steps p.tables e below (s₁.setTop (mkF m 33 #[.val (.int j), .val (.int i), .val (.int (1 : Int32))] [])) _
      refine st3 _ ?_
      show Steps p.tables e below (T3.setTop (mkF m 36 #[.val (.int j), .val (.int i), .val (.int (1 : Int32))] [(.ref s_SUCCESS_WITH_CONSEQUENCE)])) _
      exact k
    obtain ⟨fs, hr, hrun, hended, hW, hsame⟩ := X3.leave (v := some (.ref s_SUCCESS_WITH_CONSEQUENCE)) (fun h => by rw [Bd.returns] at h; cases h)
    refine ⟨_, _, w4 _ ?_, hrun, hended, _, _, rfl, ?_, ⟨_, rfl⟩, hW, hsame.mono (by decide) (by decide)⟩
    · jvm_step X3.here [X3.here.top, hx, (hb hby d2_36), X3.method', Bd.returns, Value.isRef, FieldType.isReference]
      first | (intro acts; rw [hr _ acts rfl rfl rfl]) | rw [hr _ _ rfl rfl rfl]
      exact Steps.refl _
    · show Q2_0 Z j i s_SUCCESS_WITH_CONSEQUENCE s_SUCCESS s_SUCCESS_WITH_REWARD h0 n0 _ T3.heap _
      rw [e3]
      exact ⟨(by simp [own_tier, hc3_2]), N0, rfl⟩
  · have w5 : ∀ t, Steps p.tables e below (s₁.setTop (mkF m 14 #[.val (.int j), .val (.int i), .unset] [(.int (17 : Int32)), (.int i)])) t → Steps p.tables e below (s₁.setTop (entryFrame m #[(.int j), (.int i)] 3)) t := fun t k => by
      refine w1 t ?_
      refine XS.icmpYes X0.here hx rfl (pc0 := 3) (pc' := 11) rfl (hb hby d2_3) rfl (flt hc3_2).2.1 (by decide) (by decide) ?_
      show Steps p.tables e below (s₁.setTop (mkF m 11 #[.val (.int j), .val (.int i), .unset] [])) _
      refine XS.iloadN X0.here hx rfl (hb hby d2_11) rfl ?_
      show Steps p.tables e below (s₁.setTop (mkF m 12 #[.val (.int j), .val (.int i), .unset] [(.int i)])) _
      refine XS.bipush X0.here hx rfl (hb hby d2_12) ?_
      show Steps p.tables e below (s₁.setTop (mkF m 14 #[.val (.int j), .val (.int i), .unset] [(.int (17 : Int32)), (.int i)])) _
      exact k
    by_cases hc14_6 : i < (17 : Int32)
    · obtain ⟨T7, X7, e7, st7⟩ := getS2 X0 hx hZ hown (host := "") (Or.inl (hw _ (List.mem_of_getElem? (i := 21) rfl))) Via.refl e0 (S_s_SUCCESS.ext O.2) (g := (mkF m 42 #[.val (.int j), .val (.int i), .val (.int (2 : Int32))] [])) rfl (hb hby d2_42)
      have w8 : ∀ t, Steps p.tables e below (T7.setTop (mkF m 45 #[.val (.int j), .val (.int i), .val (.int (2 : Int32))] [(.ref s_SUCCESS)])) t → Steps p.tables e below (s₁.setTop (entryFrame m #[(.int j), (.int i)] 3)) t := fun t k => by
        refine w5 t ?_
        refine XS.icmpNo X0.here hx rfl (hb hby d2_14) rfl (tlt hc14_6).2.1 ?_
        show Steps p.tables e below (s₁.setTop (mkF m 17 #[.val (.int j), .val (.int i), .unset] [])) _
        refine XS.iconst X0.here hx rfl (hb hby d2_17) ?_
        show Steps p.tables e below (s₁.setTop (mkF m 18 #[.val (.int j), .val (.int i), .unset] [(.int (2 : Int32))])) _
        refine XS.istoreN X0.here hx rfl (hb hby d2_18) rfl (l' := #[.val (.int j), .val (.int i), .val (.int (2 : Int32))]) rfl ?_
        show Steps p.tables e below (s₁.setTop (mkF m 19 #[.val (.int j), .val (.int i), .val (.int (2 : Int32))] [])) _
        refine XS.goto X0.here hx rfl (pc0 := 19) (pc' := 24) rfl (hb hby d2_19) (by decide) (by decide) ?_
        show Steps p.tables e below (s₁.setTop (mkF m 24 #[.val (.int j), .val (.int i), .val (.int (2 : Int32))] [])) _
        refine XS.iloadN X0.here hx rfl (hb hby d2_24) rfl ?_
        show Steps p.tables e below (s₁.setTop (mkF m 25 #[.val (.int j), .val (.int i), .val (.int (2 : Int32))] [(.int j)])) _
        refine XS.ifNo X0.here hx rfl (hb hby d2_25) rfl ((if0 _ _).trans (teq (hk : j = (0 : Int32))).2) ?_
        show Steps p.tables e below (s₁.setTop (mkF m 28 #[.val (.int j), .val (.int i), .val (.int (2 : Int32))] [])) _
        refine XS.iloadN X0.here hx rfl (hb hby d2_28) rfl ?_
        show Steps p.tables e below (s₁.setTop (mkF m 29 #[.val (.int j), .val (.int i), .val (.int (2 : Int32))] [(.int (2 : Int32))])) _
        refine XS.iconst X0.here hx rfl (hb hby d2_29) ?_
        show Steps p.tables e below (s₁.setTop (mkF m 30 #[.val (.int j), .val (.int i), .val (.int (2 : Int32))] [(.int (1 : Int32)), (.int (2 : Int32))])) _
        refine XS.icmpYes X0.here hx rfl (pc0 := 30) (pc' := 37) rfl (hb hby d2_30) rfl (feq ((by decide) : ¬ ((2 : Int32) = (1 : Int32)))).2 (by decide) (by decide) ?_
        show Steps p.tables e below (s₁.setTop (mkF m 37 #[.val (.int j), .val (.int i), .val (.int (2 : Int32))] [])) _
        refine XS.iloadN X0.here hx rfl (hb hby d2_37) rfl ?_
        show Steps p.tables e below (s₁.setTop (mkF m 38 #[.val (.int j), .val (.int i), .val (.int (2 : Int32))] [(.int (2 : Int32))])) _
        refine XS.iconst X0.here hx rfl (hb hby d2_38) ?_
        show Steps p.tables e below (s₁.setTop (mkF m 39 #[.val (.int j), .val (.int i), .val (.int (2 : Int32))] [(.int (2 : Int32)), (.int (2 : Int32))])) _
        refine XS.icmpNo X0.here hx rfl (hb hby d2_39) rfl (teq (rfl : (2 : Int32) = (2 : Int32))).2 ?_
        show Steps p.tables e below (s₁.setTop (mkF m 42 #[.val (.int j), .val (.int i), .val (.int (2 : Int32))] [])) _
        refine st7 _ ?_
        show Steps p.tables e below (T7.setTop (mkF m 45 #[.val (.int j), .val (.int i), .val (.int (2 : Int32))] [(.ref s_SUCCESS)])) _
        exact k
      obtain ⟨fs, hr, hrun, hended, hW, hsame⟩ := X7.leave (v := some (.ref s_SUCCESS)) (fun h => by rw [Bd.returns] at h; cases h)
      refine ⟨_, _, w8 _ ?_, hrun, hended, _, _, rfl, ?_, ⟨_, rfl⟩, hW, hsame.mono (by decide) (by decide)⟩
      · jvm_step X7.here [X7.here.top, hx, (hb hby d2_45), X7.method', Bd.returns, Value.isRef, FieldType.isReference]
        first | (intro acts; rw [hr _ acts rfl rfl rfl]) | rw [hr _ _ rfl rfl rfl]
        exact Steps.refl _
      · show Q2_0 Z j i s_SUCCESS_WITH_CONSEQUENCE s_SUCCESS s_SUCCESS_WITH_REWARD h0 n0 _ T7.heap _
        rw [e7]
        exact ⟨(by simp [own_tier, hc3_2, hc14_6]), N0, rfl⟩
    · obtain ⟨T9, X9, e9, st9⟩ := getS2 X0 hx hZ hown (host := "") (Or.inl (hw _ (List.mem_of_getElem? (i := 33) rfl))) Via.refl e0 (S_s_SUCCESS_WITH_REWARD.ext O.2) (g := (mkF m 46 #[.val (.int j), .val (.int i), .val (.int (3 : Int32))] [])) rfl (hb hby d2_46)
      have w10 : ∀ t, Steps p.tables e below (T9.setTop (mkF m 49 #[.val (.int j), .val (.int i), .val (.int (3 : Int32))] [(.ref s_SUCCESS_WITH_REWARD)])) t → Steps p.tables e below (s₁.setTop (entryFrame m #[(.int j), (.int i)] 3)) t := fun t k => by
        refine w5 t ?_
        refine XS.icmpYes X0.here hx rfl (pc0 := 14) (pc' := 22) rfl (hb hby d2_14) rfl (flt hc14_6).2.1 (by decide) (by decide) ?_
        show Steps p.tables e below (s₁.setTop (mkF m 22 #[.val (.int j), .val (.int i), .unset] [])) _
        refine XS.iconst X0.here hx rfl (hb hby d2_22) ?_
        show Steps p.tables e below (s₁.setTop (mkF m 23 #[.val (.int j), .val (.int i), .unset] [(.int (3 : Int32))])) _
        refine XS.istoreN X0.here hx rfl (hb hby d2_23) rfl (l' := #[.val (.int j), .val (.int i), .val (.int (3 : Int32))]) rfl ?_
        show Steps p.tables e below (s₁.setTop (mkF m 24 #[.val (.int j), .val (.int i), .val (.int (3 : Int32))] [])) _
        refine XS.iloadN X0.here hx rfl (hb hby d2_24) rfl ?_
        show Steps p.tables e below (s₁.setTop (mkF m 25 #[.val (.int j), .val (.int i), .val (.int (3 : Int32))] [(.int j)])) _
        refine XS.ifNo X0.here hx rfl (hb hby d2_25) rfl ((if0 _ _).trans (teq (hk : j = (0 : Int32))).2) ?_
        show Steps p.tables e below (s₁.setTop (mkF m 28 #[.val (.int j), .val (.int i), .val (.int (3 : Int32))] [])) _
        refine XS.iloadN X0.here hx rfl (hb hby d2_28) rfl ?_
        show Steps p.tables e below (s₁.setTop (mkF m 29 #[.val (.int j), .val (.int i), .val (.int (3 : Int32))] [(.int (3 : Int32))])) _
        refine XS.iconst X0.here hx rfl (hb hby d2_29) ?_
        show Steps p.tables e below (s₁.setTop (mkF m 30 #[.val (.int j), .val (.int i), .val (.int (3 : Int32))] [(.int (1 : Int32)), (.int (3 : Int32))])) _
        refine XS.icmpYes X0.here hx rfl (pc0 := 30) (pc' := 37) rfl (hb hby d2_30) rfl (feq ((by decide) : ¬ ((3 : Int32) = (1 : Int32)))).2 (by decide) (by decide) ?_
        show Steps p.tables e below (s₁.setTop (mkF m 37 #[.val (.int j), .val (.int i), .val (.int (3 : Int32))] [])) _
        refine XS.iloadN X0.here hx rfl (hb hby d2_37) rfl ?_
        show Steps p.tables e below (s₁.setTop (mkF m 38 #[.val (.int j), .val (.int i), .val (.int (3 : Int32))] [(.int (3 : Int32))])) _
        refine XS.iconst X0.here hx rfl (hb hby d2_38) ?_
        show Steps p.tables e below (s₁.setTop (mkF m 39 #[.val (.int j), .val (.int i), .val (.int (3 : Int32))] [(.int (2 : Int32)), (.int (3 : Int32))])) _
        refine XS.icmpYes X0.here hx rfl (pc0 := 39) (pc' := 46) rfl (hb hby d2_39) rfl (feq ((by decide) : ¬ ((3 : Int32) = (2 : Int32)))).2 (by decide) (by decide) ?_
        show Steps p.tables e below (s₁.setTop (mkF m 46 #[.val (.int j), .val (.int i), .val (.int (3 : Int32))] [])) _
        refine st9 _ ?_
        show Steps p.tables e below (T9.setTop (mkF m 49 #[.val (.int j), .val (.int i), .val (.int (3 : Int32))] [(.ref s_SUCCESS_WITH_REWARD)])) _
        exact k
      obtain ⟨fs, hr, hrun, hended, hW, hsame⟩ := X9.leave (v := some (.ref s_SUCCESS_WITH_REWARD)) (fun h => by rw [Bd.returns] at h; cases h)
      refine ⟨_, _, w10 _ ?_, hrun, hended, _, _, rfl, ?_, ⟨_, rfl⟩, hW, hsame.mono (by decide) (by decide)⟩
      · jvm_step X9.here [X9.here.top, hx, (hb hby d2_49), X9.method', Bd.returns, Value.isRef, FieldType.isReference]
        first | (intro acts; rw [hr _ acts rfl rfl rfl]) | rw [hr _ _ rfl rfl rfl]
        exact Steps.refl _
      · show Q2_0 Z j i s_SUCCESS_WITH_CONSEQUENCE s_SUCCESS s_SUCCESS_WITH_REWARD h0 n0 _ T9.heap _
        rw [e9]
        exact ⟨(by simp [own_tier, hc3_2, hc14_6, own_lt hc14_6]), N0, rfl⟩
theorem d2_50 : decode method_3_code 50 = .ok (.iload_n 0, 1) := by decide +kernel
theorem d2_51 : decode method_3_code 51 = .ok (.iconst 1, 1) := by decide +kernel
theorem d2_52 : decode method_3_code 52 = .ok (.if_icmp .ne 25, 3) := by decide +kernel
theorem d2_55 : decode method_3_code 55 = .ok (.iload_n 2, 1) := by decide +kernel
theorem d2_56 : decode method_3_code 56 = .ok (.iconst 1, 1) := by decide +kernel
theorem d2_57 : decode method_3_code 57 = .ok (.if_icmp .ne 7, 3) := by decide +kernel
theorem d2_60 : decode method_3_code 60 = .ok (.getstatic 42, 3) := by decide +kernel
theorem d2_63 : decode method_3_code 63 = .ok (.areturn, 1) := by decide +kernel
theorem d2_64 : decode method_3_code 64 = .ok (.iload_n 2, 1) := by decide +kernel
theorem d2_65 : decode method_3_code 65 = .ok (.iconst 2, 1) := by decide +kernel
theorem d2_66 : decode method_3_code 66 = .ok (.if_icmp .ne 7, 3) := by decide +kernel
theorem d2_69 : decode method_3_code 69 = .ok (.getstatic 30, 3) := by decide +kernel
theorem d2_72 : decode method_3_code 72 = .ok (.areturn, 1) := by decide +kernel
theorem d2_73 : decode method_3_code 73 = .ok (.getstatic 36, 3) := by decide +kernel
theorem d2_76 : decode method_3_code 76 = .ok (.areturn, 1) := by decide +kernel
theorem ef_2_1 (m : MethodId) (x0 : Int32) (x1 : Int32) : entryFrame m #[(.int x0), (.int x1)] 3 = mkF m 0 #[.val (.int x0), .val (.int x1), .unset] [] := by first | (simp [entryFrame, mkF, argsToLocals, Value.category]; done) | rfl
def Q2_1 (Z : State) (j : Int32) (i : Int32) (s_FAILURE : Addr) (s_SUCCESS_WITH_CONSEQUENCE : Addr) (s_SUCCESS : Addr) (h0 : Heap) (n0 : Nat) (v : Option Value) (h : Heap) (L : List Loc) : Prop := v = some (.ref (own_tier i s_FAILURE s_SUCCESS_WITH_CONSEQUENCE s_SUCCESS)) ∧ Fr n0 L ∧ h = h0
set_option maxRecDepth 65536 in
set_option maxHeartbeats 40000000 in
theorem rm2_1 (l : Launch) (Z : State) (a0 : Array Value) (hw : ∀ d ∈ tables_1, d.before a0 Z = true) (ws : List Jvm.Cond) (j : Int32) (i : Int32) (s_FAILURE : Addr) (s_SUCCESS_WITH_CONSEQUENCE : Addr) (s_SUCCESS : Addr) (h0 : Heap) (n0 : Nat) (O0 : Old Z n0 h0) (S_s_FAILURE : Sta Z Z.heap "com/example/hantei/hantei/packs/powerroll/Outcome" "FAILURE" "Lcom/example/hantei/hantei/packs/powerroll/Outcome;" (.ref s_FAILURE)) (S_s_SUCCESS_WITH_CONSEQUENCE : Sta Z Z.heap "com/example/hantei/hantei/packs/powerroll/Outcome" "SUCCESS_WITH_CONSEQUENCE" "Lcom/example/hantei/hantei/packs/powerroll/Outcome;" (.ref s_SUCCESS_WITH_CONSEQUENCE)) (S_s_SUCCESS : Sta Z Z.heap "com/example/hantei/hantei/packs/powerroll/Outcome" "SUCCESS" "Lcom/example/hantei/hantei/packs/powerroll/Outcome;" (.ref s_SUCCESS)) (hk0 : ¬ (j = (0 : Int32))) (hk : j = (1 : Int32)) :
    MetFree l (⟨"com/example/hantei/hantei/packs/powerroll/DifficultyOutcomePinLaw", "expected", "(II)Lcom/example/hantei/hantei/packs/powerroll/Outcome;"⟩ : MethodName) (head1 (Jvm.Cond.code (⟨"com/example/hantei/hantei/packs/powerroll/DifficultyOutcomePinLaw", "expected", "(II)Lcom/example/hantei/hantei/packs/powerroll/Outcome;"⟩ : MethodName) method_3_code 3 (some (.object "com/example/hantei/hantei/packs/powerroll/Outcome")) :: ws) ({ frames := 0, cells := 0, slots := 0, locals := 0 } : Room)) (fun aA uU => aA = #[(.int j), (.int i)] ∧ Z.Warmed39 uU.vm ∧ uU.heap = h0) (fun _ _ _ _ _ => True) (fun _ uU oO uU' => ∃ vV lL, oO = .returned vV ∧ Q2_1 Z j i s_FAILURE s_SUCCESS_WITH_CONSEQUENCE s_SUCCESS h0 n0 vV uU'.heap lL ∧ FrameEnd uU oO uU' lL ({ frames := 0, cells := 0, slots := 0, locals := 0 } : Room).cells ({ frames := 0, cells := 0, slots := 0, locals := 0 } : Room).slots) := by
  refine MetFree.of_bodySF (plainFor_of_name pn_com_example_hantei_hantei_packs_powerroll_DifficultyOutcomePinLaw) hisR ?_
  intro p e s m args below meth c s₁ Bd hml0 hP hK
  obtain ⟨rfl, hZ, hh⟩ := hP
  have hx := Bd.exec
  have hby := Bd.bytes
  have hml : c.maxLocals = 3 := hml0
  have hown : s.vm.findClass "com/example/hantei/hantei/packs/powerroll/DifficultyOutcomePinLaw" = some m.cls := findClass_of_methodNamed Bd.named
  have hnm := (name_of_methodNamed Bd.named Bd.method).1
  have X0 : Stand p l e ({ frames := 0, cells := 0, slots := 0, locals := 0 } : Room) s m #[(.int j), (.int i)] below meth c s₁ [] 0 0 := Stand.of_body Bd
  have e0 : s₁.heap = h0 := by rw [← hh, Bd.state]; rfl
  have N0 := Fr.nil n0
  have O := O0
  have pre0 : ∀ t, Steps p.tables e below (s₁.setTop (mkF m 0 #[.val (.int j), .val (.int i), .unset] [])) t → Steps p.tables e below (s₁.setTop (entryFrame m #[(.int j), (.int i)] 3)) t := fun t k => castTop (ef_2_1 m j i) k
  have w1 : ∀ t, Steps p.tables e below (s₁.setTop (mkF m 3 #[.val (.int j), .val (.int i), .unset] [(.int (12 : Int32)), (.int i)])) t → Steps p.tables e below (s₁.setTop (entryFrame m #[(.int j), (.int i)] 3)) t := fun t k => by
    refine pre0 t ?_
    refine XS.iloadN X0.here hx rfl (hb hby d2_0) rfl ?_
    show Steps p.tables e below (s₁.setTop (mkF m 1 #[.val (.int j), .val (.int i), .unset] [(.int i)])) _
    refine XS.bipush X0.here hx rfl (hb hby d2_1) ?_
    show Steps p.tables e below (s₁.setTop (mkF m 3 #[.val (.int j), .val (.int i), .unset] [(.int (12 : Int32)), (.int i)])) _
    exact k
  by_cases hc3_2 : i < (12 : Int32)
  · obtain ⟨T3, X3, e3, st3⟩ := getS2 X0 hx hZ hown (host := "") (Or.inl (hw _ (List.mem_of_getElem? (i := 31) rfl))) Via.refl e0 (S_s_FAILURE.ext O.2) (g := (mkF m 60 #[.val (.int j), .val (.int i), .val (.int (1 : Int32))] [])) rfl (hb hby d2_60)
    have w4 : ∀ t, Steps p.tables e below (T3.setTop (mkF m 63 #[.val (.int j), .val (.int i), .val (.int (1 : Int32))] [(.ref s_FAILURE)])) t → Steps p.tables e below (s₁.setTop (entryFrame m #[(.int j), (.int i)] 3)) t := fun t k => by
      refine w1 t ?_
      refine XS.icmpNo X0.here hx rfl (hb hby d2_3) rfl (tlt hc3_2).2.1 ?_
      show Steps p.tables e below (s₁.setTop (mkF m 6 #[.val (.int j), .val (.int i), .unset] [])) _
      refine XS.iconst X0.here hx rfl (hb hby d2_6) ?_
      show Steps p.tables e below (s₁.setTop (mkF m 7 #[.val (.int j), .val (.int i), .unset] [(.int (1 : Int32))])) _
      refine XS.istoreN X0.here hx rfl (hb hby d2_7) rfl (l' := #[.val (.int j), .val (.int i), .val (.int (1 : Int32))]) rfl ?_
      show Steps p.tables e below (s₁.setTop (mkF m 8 #[.val (.int j), .val (.int i), .val (.int (1 : Int32))] [])) _
      refine XS.goto X0.here hx rfl (pc0 := 8) (pc' := 24) rfl (hb hby d2_8) (by decide) (by decide) ?_
      show Steps p.tables e below (s₁.setTop (mkF m 24 #[.val (.int j), .val (.int i), .val (.int (1 : Int32))] [])) _
      refine XS.iloadN X0.here hx rfl (hb hby d2_24) rfl ?_
      show Steps p.tables e below (s₁.setTop (mkF m 25 #[.val (.int j), .val (.int i), .val (.int (1 : Int32))] [(.int j)])) _
      refine XS.ifYes X0.here hx rfl (pc0 := 25) (pc' := 50) rfl (hb hby d2_25) rfl ((if0 _ _).trans (feq (hk0 : ¬ (j = (0 : Int32)))).2) (by decide) (by decide) ?_
      show Steps p.tables e below (s₁.setTop (mkF m 50 #[.val (.int j), .val (.int i), .val (.int (1 : Int32))] [])) _
      refine XS.iloadN X0.here hx rfl (hb hby d2_50) rfl ?_
      show Steps p.tables e below (s₁.setTop (mkF m 51 #[.val (.int j), .val (.int i), .val (.int (1 : Int32))] [(.int j)])) _
      refine XS.iconst X0.here hx rfl (hb hby d2_51) ?_
      show Steps p.tables e below (s₁.setTop (mkF m 52 #[.val (.int j), .val (.int i), .val (.int (1 : Int32))] [(.int (1 : Int32)), (.int j)])) _
      refine XS.icmpNo X0.here hx rfl (hb hby d2_52) rfl (teq (hk : j = (1 : Int32))).2 ?_
      show Steps p.tables e below (s₁.setTop (mkF m 55 #[.val (.int j), .val (.int i), .val (.int (1 : Int32))] [])) _
      refine XS.iloadN X0.here hx rfl (hb hby d2_55) rfl ?_
      show Steps p.tables e below (s₁.setTop (mkF m 56 #[.val (.int j), .val (.int i), .val (.int (1 : Int32))] [(.int (1 : Int32))])) _
      refine XS.iconst X0.here hx rfl (hb hby d2_56) ?_
      show Steps p.tables e below (s₁.setTop (mkF m 57 #[.val (.int j), .val (.int i), .val (.int (1 : Int32))] [(.int (1 : Int32)), (.int (1 : Int32))])) _
      refine XS.icmpNo X0.here hx rfl (hb hby d2_57) rfl (teq (rfl : (1 : Int32) = (1 : Int32))).2 ?_
      show Steps p.tables e below (s₁.setTop (mkF m 60 #[.val (.int j), .val (.int i), .val (.int (1 : Int32))] [])) _
      refine st3 _ ?_
      show Steps p.tables e below (T3.setTop (mkF m 63 #[.val (.int j), .val (.int i), .val (.int (1 : Int32))] [(.ref s_FAILURE)])) _
      exact k
    obtain ⟨fs, hr, hrun, hended, hW, hsame⟩ := X3.leave (v := some (.ref s_FAILURE)) (fun h => by rw [Bd.returns] at h; cases h)
    refine ⟨_, _, w4 _ ?_, hrun, hended, _, _, rfl, ?_, ⟨_, rfl⟩, hW, hsame.mono (by decide) (by decide)⟩
    · jvm_step X3.here [X3.here.top, hx, (hb hby d2_63), X3.method', Bd.returns, Value.isRef, FieldType.isReference]
      first | (intro acts; rw [hr _ acts rfl rfl rfl]) | rw [hr _ _ rfl rfl rfl]
      exact Steps.refl _
    · show Q2_1 Z j i s_FAILURE s_SUCCESS_WITH_CONSEQUENCE s_SUCCESS h0 n0 _ T3.heap _
      rw [e3]
      exact ⟨(by simp [own_tier, hc3_2]), N0, rfl⟩
  · have w5 : ∀ t, Steps p.tables e below (s₁.setTop (mkF m 14 #[.val (.int j), .val (.int i), .unset] [(.int (17 : Int32)), (.int i)])) t → Steps p.tables e below (s₁.setTop (entryFrame m #[(.int j), (.int i)] 3)) t := fun t k => by
      refine w1 t ?_
      refine XS.icmpYes X0.here hx rfl (pc0 := 3) (pc' := 11) rfl (hb hby d2_3) rfl (flt hc3_2).2.1 (by decide) (by decide) ?_
      show Steps p.tables e below (s₁.setTop (mkF m 11 #[.val (.int j), .val (.int i), .unset] [])) _
      refine XS.iloadN X0.here hx rfl (hb hby d2_11) rfl ?_
      show Steps p.tables e below (s₁.setTop (mkF m 12 #[.val (.int j), .val (.int i), .unset] [(.int i)])) _
      refine XS.bipush X0.here hx rfl (hb hby d2_12) ?_
      show Steps p.tables e below (s₁.setTop (mkF m 14 #[.val (.int j), .val (.int i), .unset] [(.int (17 : Int32)), (.int i)])) _
      exact k
    by_cases hc14_6 : i < (17 : Int32)
    · obtain ⟨T7, X7, e7, st7⟩ := getS2 X0 hx hZ hown (host := "") (Or.inl (hw _ (List.mem_of_getElem? (i := 20) rfl))) Via.refl e0 (S_s_SUCCESS_WITH_CONSEQUENCE.ext O.2) (g := (mkF m 69 #[.val (.int j), .val (.int i), .val (.int (2 : Int32))] [])) rfl (hb hby d2_69)
      have w8 : ∀ t, Steps p.tables e below (T7.setTop (mkF m 72 #[.val (.int j), .val (.int i), .val (.int (2 : Int32))] [(.ref s_SUCCESS_WITH_CONSEQUENCE)])) t → Steps p.tables e below (s₁.setTop (entryFrame m #[(.int j), (.int i)] 3)) t := fun t k => by
        refine w5 t ?_
        refine XS.icmpNo X0.here hx rfl (hb hby d2_14) rfl (tlt hc14_6).2.1 ?_
        show Steps p.tables e below (s₁.setTop (mkF m 17 #[.val (.int j), .val (.int i), .unset] [])) _
        refine XS.iconst X0.here hx rfl (hb hby d2_17) ?_
        show Steps p.tables e below (s₁.setTop (mkF m 18 #[.val (.int j), .val (.int i), .unset] [(.int (2 : Int32))])) _
        refine XS.istoreN X0.here hx rfl (hb hby d2_18) rfl (l' := #[.val (.int j), .val (.int i), .val (.int (2 : Int32))]) rfl ?_
        show Steps p.tables e below (s₁.setTop (mkF m 19 #[.val (.int j), .val (.int i), .val (.int (2 : Int32))] [])) _
        refine XS.goto X0.here hx rfl (pc0 := 19) (pc' := 24) rfl (hb hby d2_19) (by decide) (by decide) ?_
        show Steps p.tables e below (s₁.setTop (mkF m 24 #[.val (.int j), .val (.int i), .val (.int (2 : Int32))] [])) _
        refine XS.iloadN X0.here hx rfl (hb hby d2_24) rfl ?_
        show Steps p.tables e below (s₁.setTop (mkF m 25 #[.val (.int j), .val (.int i), .val (.int (2 : Int32))] [(.int j)])) _
        refine XS.ifYes X0.here hx rfl (pc0 := 25) (pc' := 50) rfl (hb hby d2_25) rfl ((if0 _ _).trans (feq (hk0 : ¬ (j = (0 : Int32)))).2) (by decide) (by decide) ?_
        show Steps p.tables e below (s₁.setTop (mkF m 50 #[.val (.int j), .val (.int i), .val (.int (2 : Int32))] [])) _
        refine XS.iloadN X0.here hx rfl (hb hby d2_50) rfl ?_
        show Steps p.tables e below (s₁.setTop (mkF m 51 #[.val (.int j), .val (.int i), .val (.int (2 : Int32))] [(.int j)])) _
        refine XS.iconst X0.here hx rfl (hb hby d2_51) ?_
        show Steps p.tables e below (s₁.setTop (mkF m 52 #[.val (.int j), .val (.int i), .val (.int (2 : Int32))] [(.int (1 : Int32)), (.int j)])) _
        refine XS.icmpNo X0.here hx rfl (hb hby d2_52) rfl (teq (hk : j = (1 : Int32))).2 ?_
        show Steps p.tables e below (s₁.setTop (mkF m 55 #[.val (.int j), .val (.int i), .val (.int (2 : Int32))] [])) _
        refine XS.iloadN X0.here hx rfl (hb hby d2_55) rfl ?_
        show Steps p.tables e below (s₁.setTop (mkF m 56 #[.val (.int j), .val (.int i), .val (.int (2 : Int32))] [(.int (2 : Int32))])) _
        refine XS.iconst X0.here hx rfl (hb hby d2_56) ?_
        show Steps p.tables e below (s₁.setTop (mkF m 57 #[.val (.int j), .val (.int i), .val (.int (2 : Int32))] [(.int (1 : Int32)), (.int (2 : Int32))])) _
        refine XS.icmpYes X0.here hx rfl (pc0 := 57) (pc' := 64) rfl (hb hby d2_57) rfl (feq ((by decide) : ¬ ((2 : Int32) = (1 : Int32)))).2 (by decide) (by decide) ?_
        show Steps p.tables e below (s₁.setTop (mkF m 64 #[.val (.int j), .val (.int i), .val (.int (2 : Int32))] [])) _
        refine XS.iloadN X0.here hx rfl (hb hby d2_64) rfl ?_
        show Steps p.tables e below (s₁.setTop (mkF m 65 #[.val (.int j), .val (.int i), .val (.int (2 : Int32))] [(.int (2 : Int32))])) _
        refine XS.iconst X0.here hx rfl (hb hby d2_65) ?_
        show Steps p.tables e below (s₁.setTop (mkF m 66 #[.val (.int j), .val (.int i), .val (.int (2 : Int32))] [(.int (2 : Int32)), (.int (2 : Int32))])) _
        refine XS.icmpNo X0.here hx rfl (hb hby d2_66) rfl (teq (rfl : (2 : Int32) = (2 : Int32))).2 ?_
        show Steps p.tables e below (s₁.setTop (mkF m 69 #[.val (.int j), .val (.int i), .val (.int (2 : Int32))] [])) _
        refine st7 _ ?_
        show Steps p.tables e below (T7.setTop (mkF m 72 #[.val (.int j), .val (.int i), .val (.int (2 : Int32))] [(.ref s_SUCCESS_WITH_CONSEQUENCE)])) _
        exact k
      obtain ⟨fs, hr, hrun, hended, hW, hsame⟩ := X7.leave (v := some (.ref s_SUCCESS_WITH_CONSEQUENCE)) (fun h => by rw [Bd.returns] at h; cases h)
      refine ⟨_, _, w8 _ ?_, hrun, hended, _, _, rfl, ?_, ⟨_, rfl⟩, hW, hsame.mono (by decide) (by decide)⟩
      · jvm_step X7.here [X7.here.top, hx, (hb hby d2_72), X7.method', Bd.returns, Value.isRef, FieldType.isReference]
        first | (intro acts; rw [hr _ acts rfl rfl rfl]) | rw [hr _ _ rfl rfl rfl]
        exact Steps.refl _
      · show Q2_1 Z j i s_FAILURE s_SUCCESS_WITH_CONSEQUENCE s_SUCCESS h0 n0 _ T7.heap _
        rw [e7]
        exact ⟨(by simp [own_tier, hc3_2, hc14_6]), N0, rfl⟩
    · obtain ⟨T9, X9, e9, st9⟩ := getS2 X0 hx hZ hown (host := "") (Or.inl (hw _ (List.mem_of_getElem? (i := 21) rfl))) Via.refl e0 (S_s_SUCCESS.ext O.2) (g := (mkF m 73 #[.val (.int j), .val (.int i), .val (.int (3 : Int32))] [])) rfl (hb hby d2_73)
      have w10 : ∀ t, Steps p.tables e below (T9.setTop (mkF m 76 #[.val (.int j), .val (.int i), .val (.int (3 : Int32))] [(.ref s_SUCCESS)])) t → Steps p.tables e below (s₁.setTop (entryFrame m #[(.int j), (.int i)] 3)) t := fun t k => by
        refine w5 t ?_
        refine XS.icmpYes X0.here hx rfl (pc0 := 14) (pc' := 22) rfl (hb hby d2_14) rfl (flt hc14_6).2.1 (by decide) (by decide) ?_
        show Steps p.tables e below (s₁.setTop (mkF m 22 #[.val (.int j), .val (.int i), .unset] [])) _
        refine XS.iconst X0.here hx rfl (hb hby d2_22) ?_
        show Steps p.tables e below (s₁.setTop (mkF m 23 #[.val (.int j), .val (.int i), .unset] [(.int (3 : Int32))])) _
        refine XS.istoreN X0.here hx rfl (hb hby d2_23) rfl (l' := #[.val (.int j), .val (.int i), .val (.int (3 : Int32))]) rfl ?_
        show Steps p.tables e below (s₁.setTop (mkF m 24 #[.val (.int j), .val (.int i), .val (.int (3 : Int32))] [])) _
        refine XS.iloadN X0.here hx rfl (hb hby d2_24) rfl ?_
        show Steps p.tables e below (s₁.setTop (mkF m 25 #[.val (.int j), .val (.int i), .val (.int (3 : Int32))] [(.int j)])) _
        refine XS.ifYes X0.here hx rfl (pc0 := 25) (pc' := 50) rfl (hb hby d2_25) rfl ((if0 _ _).trans (feq (hk0 : ¬ (j = (0 : Int32)))).2) (by decide) (by decide) ?_
        show Steps p.tables e below (s₁.setTop (mkF m 50 #[.val (.int j), .val (.int i), .val (.int (3 : Int32))] [])) _
        refine XS.iloadN X0.here hx rfl (hb hby d2_50) rfl ?_
        show Steps p.tables e below (s₁.setTop (mkF m 51 #[.val (.int j), .val (.int i), .val (.int (3 : Int32))] [(.int j)])) _
        refine XS.iconst X0.here hx rfl (hb hby d2_51) ?_
        show Steps p.tables e below (s₁.setTop (mkF m 52 #[.val (.int j), .val (.int i), .val (.int (3 : Int32))] [(.int (1 : Int32)), (.int j)])) _
        refine XS.icmpNo X0.here hx rfl (hb hby d2_52) rfl (teq (hk : j = (1 : Int32))).2 ?_
        show Steps p.tables e below (s₁.setTop (mkF m 55 #[.val (.int j), .val (.int i), .val (.int (3 : Int32))] [])) _
        refine XS.iloadN X0.here hx rfl (hb hby d2_55) rfl ?_
        show Steps p.tables e below (s₁.setTop (mkF m 56 #[.val (.int j), .val (.int i), .val (.int (3 : Int32))] [(.int (3 : Int32))])) _
        refine XS.iconst X0.here hx rfl (hb hby d2_56) ?_
        show Steps p.tables e below (s₁.setTop (mkF m 57 #[.val (.int j), .val (.int i), .val (.int (3 : Int32))] [(.int (1 : Int32)), (.int (3 : Int32))])) _
        refine XS.icmpYes X0.here hx rfl (pc0 := 57) (pc' := 64) rfl (hb hby d2_57) rfl (feq ((by decide) : ¬ ((3 : Int32) = (1 : Int32)))).2 (by decide) (by decide) ?_
        show Steps p.tables e below (s₁.setTop (mkF m 64 #[.val (.int j), .val (.int i), .val (.int (3 : Int32))] [])) _
        refine XS.iloadN X0.here hx rfl (hb hby d2_64) rfl ?_
        show Steps p.tables e below (s₁.setTop (mkF m 65 #[.val (.int j), .val (.int i), .val (.int (3 : Int32))] [(.int (3 : Int32))])) _
        refine XS.iconst X0.here hx rfl (hb hby d2_65) ?_
        show Steps p.tables e below (s₁.setTop (mkF m 66 #[.val (.int j), .val (.int i), .val (.int (3 : Int32))] [(.int (2 : Int32)), (.int (3 : Int32))])) _
        refine XS.icmpYes X0.here hx rfl (pc0 := 66) (pc' := 73) rfl (hb hby d2_66) rfl (feq ((by decide) : ¬ ((3 : Int32) = (2 : Int32)))).2 (by decide) (by decide) ?_
        show Steps p.tables e below (s₁.setTop (mkF m 73 #[.val (.int j), .val (.int i), .val (.int (3 : Int32))] [])) _
        refine st9 _ ?_
        show Steps p.tables e below (T9.setTop (mkF m 76 #[.val (.int j), .val (.int i), .val (.int (3 : Int32))] [(.ref s_SUCCESS)])) _
        exact k
      obtain ⟨fs, hr, hrun, hended, hW, hsame⟩ := X9.leave (v := some (.ref s_SUCCESS)) (fun h => by rw [Bd.returns] at h; cases h)
      refine ⟨_, _, w10 _ ?_, hrun, hended, _, _, rfl, ?_, ⟨_, rfl⟩, hW, hsame.mono (by decide) (by decide)⟩
      · jvm_step X9.here [X9.here.top, hx, (hb hby d2_76), X9.method', Bd.returns, Value.isRef, FieldType.isReference]
        first | (intro acts; rw [hr _ acts rfl rfl rfl]) | rw [hr _ _ rfl rfl rfl]
        exact Steps.refl _
      · show Q2_1 Z j i s_FAILURE s_SUCCESS_WITH_CONSEQUENCE s_SUCCESS h0 n0 _ T9.heap _
        rw [e9]
        exact ⟨(by simp [own_tier, hc3_2, hc14_6, own_lt hc14_6]), N0, rfl⟩
theorem d2_77 : decode method_3_code 77 = .ok (.iload_n 2, 1) := by decide +kernel
theorem d2_78 : decode method_3_code 78 = .ok (.iconst 1, 1) := by decide +kernel
theorem d2_79 : decode method_3_code 79 = .ok (.if_icmp .ne 7, 3) := by decide +kernel
theorem d2_82 : decode method_3_code 82 = .ok (.getstatic 45, 3) := by decide +kernel
theorem d2_85 : decode method_3_code 85 = .ok (.areturn, 1) := by decide +kernel
theorem d2_86 : decode method_3_code 86 = .ok (.iload_n 2, 1) := by decide +kernel
theorem d2_87 : decode method_3_code 87 = .ok (.iconst 2, 1) := by decide +kernel
theorem d2_88 : decode method_3_code 88 = .ok (.if_icmp .ne 7, 3) := by decide +kernel
theorem d2_91 : decode method_3_code 91 = .ok (.getstatic 42, 3) := by decide +kernel
theorem d2_94 : decode method_3_code 94 = .ok (.areturn, 1) := by decide +kernel
theorem d2_95 : decode method_3_code 95 = .ok (.getstatic 36, 3) := by decide +kernel
theorem d2_98 : decode method_3_code 98 = .ok (.areturn, 1) := by decide +kernel
theorem ef_2_2 (m : MethodId) (x0 : Int32) (x1 : Int32) : entryFrame m #[(.int x0), (.int x1)] 3 = mkF m 0 #[.val (.int x0), .val (.int x1), .unset] [] := by first | (simp [entryFrame, mkF, argsToLocals, Value.category]; done) | rfl
def Q2_2 (Z : State) (j : Int32) (i : Int32) (s_FAILURE_WITH_CONSEQUENCE : Addr) (s_FAILURE : Addr) (s_SUCCESS : Addr) (h0 : Heap) (n0 : Nat) (v : Option Value) (h : Heap) (L : List Loc) : Prop := v = some (.ref (own_tier i s_FAILURE_WITH_CONSEQUENCE s_FAILURE s_SUCCESS)) ∧ Fr n0 L ∧ h = h0
set_option maxRecDepth 65536 in
set_option maxHeartbeats 40000000 in
theorem rm2_2 (l : Launch) (Z : State) (a0 : Array Value) (hw : ∀ d ∈ tables_1, d.before a0 Z = true) (ws : List Jvm.Cond) (j : Int32) (i : Int32) (s_FAILURE_WITH_CONSEQUENCE : Addr) (s_FAILURE : Addr) (s_SUCCESS : Addr) (h0 : Heap) (n0 : Nat) (O0 : Old Z n0 h0) (S_s_FAILURE_WITH_CONSEQUENCE : Sta Z Z.heap "com/example/hantei/hantei/packs/powerroll/Outcome" "FAILURE_WITH_CONSEQUENCE" "Lcom/example/hantei/hantei/packs/powerroll/Outcome;" (.ref s_FAILURE_WITH_CONSEQUENCE)) (S_s_FAILURE : Sta Z Z.heap "com/example/hantei/hantei/packs/powerroll/Outcome" "FAILURE" "Lcom/example/hantei/hantei/packs/powerroll/Outcome;" (.ref s_FAILURE)) (S_s_SUCCESS : Sta Z Z.heap "com/example/hantei/hantei/packs/powerroll/Outcome" "SUCCESS" "Lcom/example/hantei/hantei/packs/powerroll/Outcome;" (.ref s_SUCCESS)) (hk0 : ¬ (j = (0 : Int32))) (hk1 : ¬ (j = (1 : Int32))) :
    MetFree l (⟨"com/example/hantei/hantei/packs/powerroll/DifficultyOutcomePinLaw", "expected", "(II)Lcom/example/hantei/hantei/packs/powerroll/Outcome;"⟩ : MethodName) (head1 (Jvm.Cond.code (⟨"com/example/hantei/hantei/packs/powerroll/DifficultyOutcomePinLaw", "expected", "(II)Lcom/example/hantei/hantei/packs/powerroll/Outcome;"⟩ : MethodName) method_3_code 3 (some (.object "com/example/hantei/hantei/packs/powerroll/Outcome")) :: ws) ({ frames := 0, cells := 0, slots := 0, locals := 0 } : Room)) (fun aA uU => aA = #[(.int j), (.int i)] ∧ Z.Warmed39 uU.vm ∧ uU.heap = h0) (fun _ _ _ _ _ => True) (fun _ uU oO uU' => ∃ vV lL, oO = .returned vV ∧ Q2_2 Z j i s_FAILURE_WITH_CONSEQUENCE s_FAILURE s_SUCCESS h0 n0 vV uU'.heap lL ∧ FrameEnd uU oO uU' lL ({ frames := 0, cells := 0, slots := 0, locals := 0 } : Room).cells ({ frames := 0, cells := 0, slots := 0, locals := 0 } : Room).slots) := by
  refine MetFree.of_bodySF (plainFor_of_name pn_com_example_hantei_hantei_packs_powerroll_DifficultyOutcomePinLaw) hisR ?_
  intro p e s m args below meth c s₁ Bd hml0 hP hK
  obtain ⟨rfl, hZ, hh⟩ := hP
  have hx := Bd.exec
  have hby := Bd.bytes
  have hml : c.maxLocals = 3 := hml0
  have hown : s.vm.findClass "com/example/hantei/hantei/packs/powerroll/DifficultyOutcomePinLaw" = some m.cls := findClass_of_methodNamed Bd.named
  have hnm := (name_of_methodNamed Bd.named Bd.method).1
  have X0 : Stand p l e ({ frames := 0, cells := 0, slots := 0, locals := 0 } : Room) s m #[(.int j), (.int i)] below meth c s₁ [] 0 0 := Stand.of_body Bd
  have e0 : s₁.heap = h0 := by rw [← hh, Bd.state]; rfl
  have N0 := Fr.nil n0
  have O := O0
  have pre0 : ∀ t, Steps p.tables e below (s₁.setTop (mkF m 0 #[.val (.int j), .val (.int i), .unset] [])) t → Steps p.tables e below (s₁.setTop (entryFrame m #[(.int j), (.int i)] 3)) t := fun t k => castTop (ef_2_2 m j i) k
  have w1 : ∀ t, Steps p.tables e below (s₁.setTop (mkF m 3 #[.val (.int j), .val (.int i), .unset] [(.int (12 : Int32)), (.int i)])) t → Steps p.tables e below (s₁.setTop (entryFrame m #[(.int j), (.int i)] 3)) t := fun t k => by
    refine pre0 t ?_
    refine XS.iloadN X0.here hx rfl (hb hby d2_0) rfl ?_
    show Steps p.tables e below (s₁.setTop (mkF m 1 #[.val (.int j), .val (.int i), .unset] [(.int i)])) _
    refine XS.bipush X0.here hx rfl (hb hby d2_1) ?_
    show Steps p.tables e below (s₁.setTop (mkF m 3 #[.val (.int j), .val (.int i), .unset] [(.int (12 : Int32)), (.int i)])) _
    exact k
  by_cases hc3_2 : i < (12 : Int32)
  · obtain ⟨T3, X3, e3, st3⟩ := getS2 X0 hx hZ hown (host := "") (Or.inl (hw _ (List.mem_of_getElem? (i := 30) rfl))) Via.refl e0 (S_s_FAILURE_WITH_CONSEQUENCE.ext O.2) (g := (mkF m 82 #[.val (.int j), .val (.int i), .val (.int (1 : Int32))] [])) rfl (hb hby d2_82)
    have w4 : ∀ t, Steps p.tables e below (T3.setTop (mkF m 85 #[.val (.int j), .val (.int i), .val (.int (1 : Int32))] [(.ref s_FAILURE_WITH_CONSEQUENCE)])) t → Steps p.tables e below (s₁.setTop (entryFrame m #[(.int j), (.int i)] 3)) t := fun t k => by
      refine w1 t ?_
      refine XS.icmpNo X0.here hx rfl (hb hby d2_3) rfl (tlt hc3_2).2.1 ?_
      show Steps p.tables e below (s₁.setTop (mkF m 6 #[.val (.int j), .val (.int i), .unset] [])) _
      refine XS.iconst X0.here hx rfl (hb hby d2_6) ?_
      show Steps p.tables e below (s₁.setTop (mkF m 7 #[.val (.int j), .val (.int i), .unset] [(.int (1 : Int32))])) _
      refine XS.istoreN X0.here hx rfl (hb hby d2_7) rfl (l' := #[.val (.int j), .val (.int i), .val (.int (1 : Int32))]) rfl ?_
      show Steps p.tables e below (s₁.setTop (mkF m 8 #[.val (.int j), .val (.int i), .val (.int (1 : Int32))] [])) _
      refine XS.goto X0.here hx rfl (pc0 := 8) (pc' := 24) rfl (hb hby d2_8) (by decide) (by decide) ?_
      show Steps p.tables e below (s₁.setTop (mkF m 24 #[.val (.int j), .val (.int i), .val (.int (1 : Int32))] [])) _
      refine XS.iloadN X0.here hx rfl (hb hby d2_24) rfl ?_
      show Steps p.tables e below (s₁.setTop (mkF m 25 #[.val (.int j), .val (.int i), .val (.int (1 : Int32))] [(.int j)])) _
      refine XS.ifYes X0.here hx rfl (pc0 := 25) (pc' := 50) rfl (hb hby d2_25) rfl ((if0 _ _).trans (feq (hk0 : ¬ (j = (0 : Int32)))).2) (by decide) (by decide) ?_
      show Steps p.tables e below (s₁.setTop (mkF m 50 #[.val (.int j), .val (.int i), .val (.int (1 : Int32))] [])) _
      refine XS.iloadN X0.here hx rfl (hb hby d2_50) rfl ?_
      show Steps p.tables e below (s₁.setTop (mkF m 51 #[.val (.int j), .val (.int i), .val (.int (1 : Int32))] [(.int j)])) _
      refine XS.iconst X0.here hx rfl (hb hby d2_51) ?_
      show Steps p.tables e below (s₁.setTop (mkF m 52 #[.val (.int j), .val (.int i), .val (.int (1 : Int32))] [(.int (1 : Int32)), (.int j)])) _
      refine XS.icmpYes X0.here hx rfl (pc0 := 52) (pc' := 77) rfl (hb hby d2_52) rfl (feq (hk1 : ¬ (j = (1 : Int32)))).2 (by decide) (by decide) ?_
      show Steps p.tables e below (s₁.setTop (mkF m 77 #[.val (.int j), .val (.int i), .val (.int (1 : Int32))] [])) _
      refine XS.iloadN X0.here hx rfl (hb hby d2_77) rfl ?_
      show Steps p.tables e below (s₁.setTop (mkF m 78 #[.val (.int j), .val (.int i), .val (.int (1 : Int32))] [(.int (1 : Int32))])) _
      refine XS.iconst X0.here hx rfl (hb hby d2_78) ?_
      show Steps p.tables e below (s₁.setTop (mkF m 79 #[.val (.int j), .val (.int i), .val (.int (1 : Int32))] [(.int (1 : Int32)), (.int (1 : Int32))])) _
      refine XS.icmpNo X0.here hx rfl (hb hby d2_79) rfl (teq (rfl : (1 : Int32) = (1 : Int32))).2 ?_
      show Steps p.tables e below (s₁.setTop (mkF m 82 #[.val (.int j), .val (.int i), .val (.int (1 : Int32))] [])) _
      refine st3 _ ?_
      show Steps p.tables e below (T3.setTop (mkF m 85 #[.val (.int j), .val (.int i), .val (.int (1 : Int32))] [(.ref s_FAILURE_WITH_CONSEQUENCE)])) _
      exact k
    obtain ⟨fs, hr, hrun, hended, hW, hsame⟩ := X3.leave (v := some (.ref s_FAILURE_WITH_CONSEQUENCE)) (fun h => by rw [Bd.returns] at h; cases h)
    refine ⟨_, _, w4 _ ?_, hrun, hended, _, _, rfl, ?_, ⟨_, rfl⟩, hW, hsame.mono (by decide) (by decide)⟩
    · jvm_step X3.here [X3.here.top, hx, (hb hby d2_85), X3.method', Bd.returns, Value.isRef, FieldType.isReference]
      first | (intro acts; rw [hr _ acts rfl rfl rfl]) | rw [hr _ _ rfl rfl rfl]
      exact Steps.refl _
    · show Q2_2 Z j i s_FAILURE_WITH_CONSEQUENCE s_FAILURE s_SUCCESS h0 n0 _ T3.heap _
      rw [e3]
      exact ⟨(by simp [own_tier, hc3_2]), N0, rfl⟩
  · have w5 : ∀ t, Steps p.tables e below (s₁.setTop (mkF m 14 #[.val (.int j), .val (.int i), .unset] [(.int (17 : Int32)), (.int i)])) t → Steps p.tables e below (s₁.setTop (entryFrame m #[(.int j), (.int i)] 3)) t := fun t k => by
      refine w1 t ?_
      refine XS.icmpYes X0.here hx rfl (pc0 := 3) (pc' := 11) rfl (hb hby d2_3) rfl (flt hc3_2).2.1 (by decide) (by decide) ?_
      show Steps p.tables e below (s₁.setTop (mkF m 11 #[.val (.int j), .val (.int i), .unset] [])) _
      refine XS.iloadN X0.here hx rfl (hb hby d2_11) rfl ?_
      show Steps p.tables e below (s₁.setTop (mkF m 12 #[.val (.int j), .val (.int i), .unset] [(.int i)])) _
      refine XS.bipush X0.here hx rfl (hb hby d2_12) ?_
      show Steps p.tables e below (s₁.setTop (mkF m 14 #[.val (.int j), .val (.int i), .unset] [(.int (17 : Int32)), (.int i)])) _
      exact k
    by_cases hc14_6 : i < (17 : Int32)
    · obtain ⟨T7, X7, e7, st7⟩ := getS2 X0 hx hZ hown (host := "") (Or.inl (hw _ (List.mem_of_getElem? (i := 31) rfl))) Via.refl e0 (S_s_FAILURE.ext O.2) (g := (mkF m 91 #[.val (.int j), .val (.int i), .val (.int (2 : Int32))] [])) rfl (hb hby d2_91)
      have w8 : ∀ t, Steps p.tables e below (T7.setTop (mkF m 94 #[.val (.int j), .val (.int i), .val (.int (2 : Int32))] [(.ref s_FAILURE)])) t → Steps p.tables e below (s₁.setTop (entryFrame m #[(.int j), (.int i)] 3)) t := fun t k => by
        refine w5 t ?_
        refine XS.icmpNo X0.here hx rfl (hb hby d2_14) rfl (tlt hc14_6).2.1 ?_
        show Steps p.tables e below (s₁.setTop (mkF m 17 #[.val (.int j), .val (.int i), .unset] [])) _
        refine XS.iconst X0.here hx rfl (hb hby d2_17) ?_
        show Steps p.tables e below (s₁.setTop (mkF m 18 #[.val (.int j), .val (.int i), .unset] [(.int (2 : Int32))])) _
        refine XS.istoreN X0.here hx rfl (hb hby d2_18) rfl (l' := #[.val (.int j), .val (.int i), .val (.int (2 : Int32))]) rfl ?_
        show Steps p.tables e below (s₁.setTop (mkF m 19 #[.val (.int j), .val (.int i), .val (.int (2 : Int32))] [])) _
        refine XS.goto X0.here hx rfl (pc0 := 19) (pc' := 24) rfl (hb hby d2_19) (by decide) (by decide) ?_
        show Steps p.tables e below (s₁.setTop (mkF m 24 #[.val (.int j), .val (.int i), .val (.int (2 : Int32))] [])) _
        refine XS.iloadN X0.here hx rfl (hb hby d2_24) rfl ?_
        show Steps p.tables e below (s₁.setTop (mkF m 25 #[.val (.int j), .val (.int i), .val (.int (2 : Int32))] [(.int j)])) _
        refine XS.ifYes X0.here hx rfl (pc0 := 25) (pc' := 50) rfl (hb hby d2_25) rfl ((if0 _ _).trans (feq (hk0 : ¬ (j = (0 : Int32)))).2) (by decide) (by decide) ?_
        show Steps p.tables e below (s₁.setTop (mkF m 50 #[.val (.int j), .val (.int i), .val (.int (2 : Int32))] [])) _
        refine XS.iloadN X0.here hx rfl (hb hby d2_50) rfl ?_
        show Steps p.tables e below (s₁.setTop (mkF m 51 #[.val (.int j), .val (.int i), .val (.int (2 : Int32))] [(.int j)])) _
        refine XS.iconst X0.here hx rfl (hb hby d2_51) ?_
        show Steps p.tables e below (s₁.setTop (mkF m 52 #[.val (.int j), .val (.int i), .val (.int (2 : Int32))] [(.int (1 : Int32)), (.int j)])) _
        refine XS.icmpYes X0.here hx rfl (pc0 := 52) (pc' := 77) rfl (hb hby d2_52) rfl (feq (hk1 : ¬ (j = (1 : Int32)))).2 (by decide) (by decide) ?_
        show Steps p.tables e below (s₁.setTop (mkF m 77 #[.val (.int j), .val (.int i), .val (.int (2 : Int32))] [])) _
        refine XS.iloadN X0.here hx rfl (hb hby d2_77) rfl ?_
        show Steps p.tables e below (s₁.setTop (mkF m 78 #[.val (.int j), .val (.int i), .val (.int (2 : Int32))] [(.int (2 : Int32))])) _
        refine XS.iconst X0.here hx rfl (hb hby d2_78) ?_
        show Steps p.tables e below (s₁.setTop (mkF m 79 #[.val (.int j), .val (.int i), .val (.int (2 : Int32))] [(.int (1 : Int32)), (.int (2 : Int32))])) _
        refine XS.icmpYes X0.here hx rfl (pc0 := 79) (pc' := 86) rfl (hb hby d2_79) rfl (feq ((by decide) : ¬ ((2 : Int32) = (1 : Int32)))).2 (by decide) (by decide) ?_
        show Steps p.tables e below (s₁.setTop (mkF m 86 #[.val (.int j), .val (.int i), .val (.int (2 : Int32))] [])) _
        refine XS.iloadN X0.here hx rfl (hb hby d2_86) rfl ?_
        show Steps p.tables e below (s₁.setTop (mkF m 87 #[.val (.int j), .val (.int i), .val (.int (2 : Int32))] [(.int (2 : Int32))])) _
        refine XS.iconst X0.here hx rfl (hb hby d2_87) ?_
        show Steps p.tables e below (s₁.setTop (mkF m 88 #[.val (.int j), .val (.int i), .val (.int (2 : Int32))] [(.int (2 : Int32)), (.int (2 : Int32))])) _
        refine XS.icmpNo X0.here hx rfl (hb hby d2_88) rfl (teq (rfl : (2 : Int32) = (2 : Int32))).2 ?_
        show Steps p.tables e below (s₁.setTop (mkF m 91 #[.val (.int j), .val (.int i), .val (.int (2 : Int32))] [])) _
        refine st7 _ ?_
        show Steps p.tables e below (T7.setTop (mkF m 94 #[.val (.int j), .val (.int i), .val (.int (2 : Int32))] [(.ref s_FAILURE)])) _
        exact k
      obtain ⟨fs, hr, hrun, hended, hW, hsame⟩ := X7.leave (v := some (.ref s_FAILURE)) (fun h => by rw [Bd.returns] at h; cases h)
      refine ⟨_, _, w8 _ ?_, hrun, hended, _, _, rfl, ?_, ⟨_, rfl⟩, hW, hsame.mono (by decide) (by decide)⟩
      · jvm_step X7.here [X7.here.top, hx, (hb hby d2_94), X7.method', Bd.returns, Value.isRef, FieldType.isReference]
        first | (intro acts; rw [hr _ acts rfl rfl rfl]) | rw [hr _ _ rfl rfl rfl]
        exact Steps.refl _
      · show Q2_2 Z j i s_FAILURE_WITH_CONSEQUENCE s_FAILURE s_SUCCESS h0 n0 _ T7.heap _
        rw [e7]
        exact ⟨(by simp [own_tier, hc3_2, hc14_6]), N0, rfl⟩
    · obtain ⟨T9, X9, e9, st9⟩ := getS2 X0 hx hZ hown (host := "") (Or.inl (hw _ (List.mem_of_getElem? (i := 21) rfl))) Via.refl e0 (S_s_SUCCESS.ext O.2) (g := (mkF m 95 #[.val (.int j), .val (.int i), .val (.int (3 : Int32))] [])) rfl (hb hby d2_95)
      have w10 : ∀ t, Steps p.tables e below (T9.setTop (mkF m 98 #[.val (.int j), .val (.int i), .val (.int (3 : Int32))] [(.ref s_SUCCESS)])) t → Steps p.tables e below (s₁.setTop (entryFrame m #[(.int j), (.int i)] 3)) t := fun t k => by
        refine w5 t ?_
        refine XS.icmpYes X0.here hx rfl (pc0 := 14) (pc' := 22) rfl (hb hby d2_14) rfl (flt hc14_6).2.1 (by decide) (by decide) ?_
        show Steps p.tables e below (s₁.setTop (mkF m 22 #[.val (.int j), .val (.int i), .unset] [])) _
        refine XS.iconst X0.here hx rfl (hb hby d2_22) ?_
        show Steps p.tables e below (s₁.setTop (mkF m 23 #[.val (.int j), .val (.int i), .unset] [(.int (3 : Int32))])) _
        refine XS.istoreN X0.here hx rfl (hb hby d2_23) rfl (l' := #[.val (.int j), .val (.int i), .val (.int (3 : Int32))]) rfl ?_
        show Steps p.tables e below (s₁.setTop (mkF m 24 #[.val (.int j), .val (.int i), .val (.int (3 : Int32))] [])) _
        refine XS.iloadN X0.here hx rfl (hb hby d2_24) rfl ?_
        show Steps p.tables e below (s₁.setTop (mkF m 25 #[.val (.int j), .val (.int i), .val (.int (3 : Int32))] [(.int j)])) _
        refine XS.ifYes X0.here hx rfl (pc0 := 25) (pc' := 50) rfl (hb hby d2_25) rfl ((if0 _ _).trans (feq (hk0 : ¬ (j = (0 : Int32)))).2) (by decide) (by decide) ?_
        show Steps p.tables e below (s₁.setTop (mkF m 50 #[.val (.int j), .val (.int i), .val (.int (3 : Int32))] [])) _
        refine XS.iloadN X0.here hx rfl (hb hby d2_50) rfl ?_
        show Steps p.tables e below (s₁.setTop (mkF m 51 #[.val (.int j), .val (.int i), .val (.int (3 : Int32))] [(.int j)])) _
        refine XS.iconst X0.here hx rfl (hb hby d2_51) ?_
        show Steps p.tables e below (s₁.setTop (mkF m 52 #[.val (.int j), .val (.int i), .val (.int (3 : Int32))] [(.int (1 : Int32)), (.int j)])) _
        refine XS.icmpYes X0.here hx rfl (pc0 := 52) (pc' := 77) rfl (hb hby d2_52) rfl (feq (hk1 : ¬ (j = (1 : Int32)))).2 (by decide) (by decide) ?_
        show Steps p.tables e below (s₁.setTop (mkF m 77 #[.val (.int j), .val (.int i), .val (.int (3 : Int32))] [])) _
        refine XS.iloadN X0.here hx rfl (hb hby d2_77) rfl ?_
        show Steps p.tables e below (s₁.setTop (mkF m 78 #[.val (.int j), .val (.int i), .val (.int (3 : Int32))] [(.int (3 : Int32))])) _
        refine XS.iconst X0.here hx rfl (hb hby d2_78) ?_
        show Steps p.tables e below (s₁.setTop (mkF m 79 #[.val (.int j), .val (.int i), .val (.int (3 : Int32))] [(.int (1 : Int32)), (.int (3 : Int32))])) _
        refine XS.icmpYes X0.here hx rfl (pc0 := 79) (pc' := 86) rfl (hb hby d2_79) rfl (feq ((by decide) : ¬ ((3 : Int32) = (1 : Int32)))).2 (by decide) (by decide) ?_
        show Steps p.tables e below (s₁.setTop (mkF m 86 #[.val (.int j), .val (.int i), .val (.int (3 : Int32))] [])) _
        refine XS.iloadN X0.here hx rfl (hb hby d2_86) rfl ?_
        show Steps p.tables e below (s₁.setTop (mkF m 87 #[.val (.int j), .val (.int i), .val (.int (3 : Int32))] [(.int (3 : Int32))])) _
        refine XS.iconst X0.here hx rfl (hb hby d2_87) ?_
        show Steps p.tables e below (s₁.setTop (mkF m 88 #[.val (.int j), .val (.int i), .val (.int (3 : Int32))] [(.int (2 : Int32)), (.int (3 : Int32))])) _
        refine XS.icmpYes X0.here hx rfl (pc0 := 88) (pc' := 95) rfl (hb hby d2_88) rfl (feq ((by decide) : ¬ ((3 : Int32) = (2 : Int32)))).2 (by decide) (by decide) ?_
        show Steps p.tables e below (s₁.setTop (mkF m 95 #[.val (.int j), .val (.int i), .val (.int (3 : Int32))] [])) _
        refine st9 _ ?_
        show Steps p.tables e below (T9.setTop (mkF m 98 #[.val (.int j), .val (.int i), .val (.int (3 : Int32))] [(.ref s_SUCCESS)])) _
        exact k
      obtain ⟨fs, hr, hrun, hended, hW, hsame⟩ := X9.leave (v := some (.ref s_SUCCESS)) (fun h => by rw [Bd.returns] at h; cases h)
      refine ⟨_, _, w10 _ ?_, hrun, hended, _, _, rfl, ?_, ⟨_, rfl⟩, hW, hsame.mono (by decide) (by decide)⟩
      · jvm_step X9.here [X9.here.top, hx, (hb hby d2_98), X9.method', Bd.returns, Value.isRef, FieldType.isReference]
        first | (intro acts; rw [hr _ acts rfl rfl rfl]) | rw [hr _ _ rfl rfl rfl]
        exact Steps.refl _
      · show Q2_2 Z j i s_FAILURE_WITH_CONSEQUENCE s_FAILURE s_SUCCESS h0 n0 _ T9.heap _
        rw [e9]
        exact ⟨(by simp [own_tier, hc3_2, hc14_6, own_lt hc14_6]), N0, rfl⟩
def own_F0 (x0 : Int32) (x1 : Int32) (x2 : Int32) : Array Slot := #[.val (.int x0), .val (.int x1), .val (.int x2), .unset, .unset, .unset, .unset, .unset]
def own_F1 (x0 : Int32) (x1 : Int32) (x2 : Int32) (x3 : Int32) : Array Slot := #[.val (.int x0), .val (.int x1), .val (.int x2), .val (.int x3), .unset, .unset, .unset, .unset]
def own_F2 (x0 : Int32) (x1 : Int32) (x2 : Int32) (x3 : Int32) (x4 : Addr) : Array Slot := #[.val (.int x0), .val (.int x1), .val (.int x2), .val (.int x3), .val (.ref x4), .unset, .unset, .unset]
def own_F3 (x0 : Int32) (x1 : Int32) (x2 : Int32) (x3 : Int32) (x4 : Addr) (x5 : Int32) : Array Slot := #[.val (.int x0), .val (.int x1), .val (.int x2), .val (.int x3), .val (.ref x4), .val (.int x5), .unset, .unset]
theorem pd__40I_41Lcom_47example_47hantei_47hantei_47packs_47powerroll_47Outcome_59 : parseMethodDescriptor "(I)Lcom/example/hantei/hantei/packs/powerroll/Outcome;" = some ⟨[.int], some (.object "com/example/hantei/hantei/packs/powerroll/Outcome")⟩ := by decide +kernel
def own_F4 (x0 : Int32) (x1 : Int32) (x2 : Int32) (x3 : Int32) (x4 : Addr) (x5 : Int32) (x6 : Addr) : Array Slot := #[.val (.int x0), .val (.int x1), .val (.int x2), .val (.int x3), .val (.ref x4), .val (.int x5), .val (.ref x6), .unset]
def own_F5 (x0 : Int32) (x1 : Int32) (x2 : Int32) (x3 : Int32) (x4 : Addr) (x5 : Int32) (x6 : Addr) (x7 : Addr) : Array Slot := #[.val (.int x0), .val (.int x1), .val (.int x2), .val (.int x3), .val (.ref x4), .val (.int x5), .val (.ref x6), .val (.ref x7)]
theorem pd__40II_41Lcom_47example_47hantei_47hantei_47packs_47powerroll_47Outcome_59 : parseMethodDescriptor "(II)Lcom/example/hantei/hantei/packs/powerroll/Outcome;" = some ⟨[.int, .int], some (.object "com/example/hantei/hantei/packs/powerroll/Outcome")⟩ := by decide +kernel
theorem ef_0 (m : MethodId) (x0 : Int32) (x1 : Int32) (x2 : Int32) : entryFrame m #[(.int x0), (.int x1), (.int x2)] maxLocals = mkF m 0 #[.val (.int x0), .val (.int x1), .val (.int x2), .unset, .unset, .unset, .unset, .unset] [] := by first | (simp [entryFrame, mkF, argsToLocals, Value.category, maxLocals]; done) | rfl
def Q0 (Z : State) (w : Int32) (i : Int32) (q : Int32) (s_EASY : Addr) (s_SUCCESS_WITH_CONSEQUENCE : Addr) (s_SUCCESS : Addr) (s_SUCCESS_WITH_REWARD : Addr) (s_MEDIUM : Addr) (s_FAILURE : Addr) (s_HARD : Addr) (s_FAILURE_WITH_CONSEQUENCE : Addr) (h0 : Heap) (n0 : Nat) (v : Option Value) (h : Heap) (L : List Loc) : Prop := v = some (.int (1 : Int32)) ∧ Fr n0 L ∧ h = h0
set_option maxRecDepth 65536 in
set_option maxHeartbeats 40000000 in
theorem rm0 (l : Launch) (Z : State) (a0 : Array Value) (hw : ∀ d ∈ tables_1, d.before a0 Z = true) (ws : List Jvm.Cond) (w : Int32) (i : Int32) (q : Int32) (s_EASY : Addr) (s_SUCCESS_WITH_CONSEQUENCE : Addr) (s_SUCCESS : Addr) (s_SUCCESS_WITH_REWARD : Addr) (s_MEDIUM : Addr) (s_FAILURE : Addr) (s_HARD : Addr) (s_FAILURE_WITH_CONSEQUENCE : Addr) (h0 : Heap) (n0 : Nat) (O0 : Old Z n0 h0) (S_s_EASY : Sta Z Z.heap "com/example/hantei/hantei/packs/powerroll/Difficulty" "EASY" "Lcom/example/hantei/hantei/packs/powerroll/Difficulty;" (.ref s_EASY)) (S_s_SUCCESS_WITH_CONSEQUENCE : Sta Z Z.heap "com/example/hantei/hantei/packs/powerroll/Outcome" "SUCCESS_WITH_CONSEQUENCE" "Lcom/example/hantei/hantei/packs/powerroll/Outcome;" (.ref s_SUCCESS_WITH_CONSEQUENCE)) (S_s_SUCCESS : Sta Z Z.heap "com/example/hantei/hantei/packs/powerroll/Outcome" "SUCCESS" "Lcom/example/hantei/hantei/packs/powerroll/Outcome;" (.ref s_SUCCESS)) (S_s_SUCCESS_WITH_REWARD : Sta Z Z.heap "com/example/hantei/hantei/packs/powerroll/Outcome" "SUCCESS_WITH_REWARD" "Lcom/example/hantei/hantei/packs/powerroll/Outcome;" (.ref s_SUCCESS_WITH_REWARD)) (S_s_MEDIUM : Sta Z Z.heap "com/example/hantei/hantei/packs/powerroll/Difficulty" "MEDIUM" "Lcom/example/hantei/hantei/packs/powerroll/Difficulty;" (.ref s_MEDIUM)) (S_s_FAILURE : Sta Z Z.heap "com/example/hantei/hantei/packs/powerroll/Outcome" "FAILURE" "Lcom/example/hantei/hantei/packs/powerroll/Outcome;" (.ref s_FAILURE)) (S_s_HARD : Sta Z Z.heap "com/example/hantei/hantei/packs/powerroll/Difficulty" "HARD" "Lcom/example/hantei/hantei/packs/powerroll/Difficulty;" (.ref s_HARD)) (S_s_FAILURE_WITH_CONSEQUENCE : Sta Z Z.heap "com/example/hantei/hantei/packs/powerroll/Outcome" "FAILURE_WITH_CONSEQUENCE" "Lcom/example/hantei/hantei/packs/powerroll/Outcome;" (.ref s_FAILURE_WITH_CONSEQUENCE)) (E_s_EASY : Exa Z h0 s_EASY "com/example/hantei/hantei/packs/powerroll/Difficulty") (E_s_MEDIUM : Exa Z h0 s_MEDIUM "com/example/hantei/hantei/packs/powerroll/Difficulty") (E_s_HARD : Exa Z h0 s_HARD "com/example/hantei/hantei/packs/powerroll/Difficulty") (F_tierOne_s_EASY : Fld Z h0 s_EASY "com/example/hantei/hantei/packs/powerroll/Difficulty" "tierOne" "Lcom/example/hantei/hantei/packs/powerroll/Outcome;" (.ref s_SUCCESS_WITH_CONSEQUENCE)) (F_tierTwo_s_EASY : Fld Z h0 s_EASY "com/example/hantei/hantei/packs/powerroll/Difficulty" "tierTwo" "Lcom/example/hantei/hantei/packs/powerroll/Outcome;" (.ref s_SUCCESS)) (F_tierThree_s_EASY : Fld Z h0 s_EASY "com/example/hantei/hantei/packs/powerroll/Difficulty" "tierThree" "Lcom/example/hantei/hantei/packs/powerroll/Outcome;" (.ref s_SUCCESS_WITH_REWARD)) (F_tierOne_s_MEDIUM : Fld Z h0 s_MEDIUM "com/example/hantei/hantei/packs/powerroll/Difficulty" "tierOne" "Lcom/example/hantei/hantei/packs/powerroll/Outcome;" (.ref s_FAILURE)) (F_tierTwo_s_MEDIUM : Fld Z h0 s_MEDIUM "com/example/hantei/hantei/packs/powerroll/Difficulty" "tierTwo" "Lcom/example/hantei/hantei/packs/powerroll/Outcome;" (.ref s_SUCCESS_WITH_CONSEQUENCE)) (F_tierThree_s_MEDIUM : Fld Z h0 s_MEDIUM "com/example/hantei/hantei/packs/powerroll/Difficulty" "tierThree" "Lcom/example/hantei/hantei/packs/powerroll/Outcome;" (.ref s_SUCCESS)) (F_tierOne_s_HARD : Fld Z h0 s_HARD "com/example/hantei/hantei/packs/powerroll/Difficulty" "tierOne" "Lcom/example/hantei/hantei/packs/powerroll/Outcome;" (.ref s_FAILURE_WITH_CONSEQUENCE)) (F_tierTwo_s_HARD : Fld Z h0 s_HARD "com/example/hantei/hantei/packs/powerroll/Difficulty" "tierTwo" "Lcom/example/hantei/hantei/packs/powerroll/Outcome;" (.ref s_FAILURE)) (F_tierThree_s_HARD : Fld Z h0 s_HARD "com/example/hantei/hantei/packs/powerroll/Difficulty" "tierThree" "Lcom/example/hantei/hantei/packs/powerroll/Outcome;" (.ref s_SUCCESS)) :
    MetFree l x (head1 (Jvm.Cond.code x code maxLocals ret :: ws) room_1) (fun aA uU => aA = #[(.int w), (.int i), (.int q)] ∧ Z.Warmed39 uU.vm ∧ uU.heap = h0) (fun _ _ _ _ _ => True) (fun _ uU oO uU' => ∃ vV lL, oO = .returned vV ∧ Q0 Z w i q s_EASY s_SUCCESS_WITH_CONSEQUENCE s_SUCCESS s_SUCCESS_WITH_REWARD s_MEDIUM s_FAILURE s_HARD s_FAILURE_WITH_CONSEQUENCE h0 n0 vV uU'.heap lL ∧ FrameEnd uU oO uU' lL room_1.cells room_1.slots) := by
  refine MetFree.of_bodySF (plainFor_of_name pn_com_example_hantei_hantei_packs_powerroll_DifficultyOutcomePinLaw) hisR ?_
  intro p e s m args below meth c s₁ Bd hml0 hP hK
  obtain ⟨rfl, hZ, hh⟩ := hP
  have hx := Bd.exec
  have hby := Bd.bytes
  have hml : c.maxLocals = 8 := hml0
  have hown : s.vm.findClass "com/example/hantei/hantei/packs/powerroll/DifficultyOutcomePinLaw" = some m.cls := findClass_of_methodNamed Bd.named
  have hnm := (name_of_methodNamed Bd.named Bd.method).1
  have X0 : Stand p l e room_1 s m #[(.int w), (.int i), (.int q)] below meth c s₁ [] 0 0 := Stand.of_body Bd
  have e0 : s₁.heap = h0 := by rw [← hh, Bd.state]; rfl
  have N0 := Fr.nil n0
  have O := O0
  have pre0 : ∀ t, Steps p.tables e below (s₁.setTop (mkF m 0 #[.val (.int w), .val (.int i), .val (.int q), .unset, .unset, .unset, .unset, .unset] [])) t → Steps p.tables e below (s₁.setTop (entryFrame m #[(.int w), (.int i), (.int q)] maxLocals)) t := fun t k => castTop (ef_0 m w i q) k
  have w1 : ∀ t, Steps p.tables e below (s₁.setTop (mkF m 8 (own_F1 w i q ((w &&& (2147483647 : Int32)) - (w &&& (2147483647 : Int32)) / (3 : Int32) * (3 : Int32))) [(.int ((w &&& (2147483647 : Int32)) - (w &&& (2147483647 : Int32)) / (3 : Int32) * (3 : Int32)))])) t → Steps p.tables e below (s₁.setTop (entryFrame m #[(.int w), (.int i), (.int q)] maxLocals)) t := fun t k => by
    refine pre0 t ?_
    refine XS.iloadN X0.here hx rfl (hb hby at_0) rfl ?_
    show Steps p.tables e below (s₁.setTop (mkF m 1 (own_F0 w i q) [(.int w)])) _
    refine X0.ldcInt hx hown (mvT hZ (hw _ (List.mem_of_getElem? (i := 0) rfl))) (g := (mkF m 1 (own_F0 w i q) [(.int w)])) rfl (hb hby at_1) _ ?_
    show Steps p.tables e below (s₁.setTop (mkF m 3 (own_F0 w i q) [(.int (2147483647 : Int32)), (.int w)])) _
    refine XS.iand X0.here hx rfl (hb hby at_3) rfl ?_
    show Steps p.tables e below (s₁.setTop (mkF m 4 (own_F0 w i q) [(.int (w &&& (2147483647 : Int32)))])) _
    refine XS.iconst X0.here hx rfl (hb hby at_4) ?_
    show Steps p.tables e below (s₁.setTop (mkF m 5 (own_F0 w i q) [(.int (3 : Int32)), (.int (w &&& (2147483647 : Int32)))])) _
    refine XS.irem X0.here hx rfl (hb hby at_5) rfl (by decide) ?_
    show Steps p.tables e below (s₁.setTop (mkF m 6 (own_F0 w i q) [(.int ((w &&& (2147483647 : Int32)) - (w &&& (2147483647 : Int32)) / (3 : Int32) * (3 : Int32)))])) _
    refine XS.istoreN X0.here hx rfl (hb hby at_6) rfl (l' := (own_F1 w i q ((w &&& (2147483647 : Int32)) - (w &&& (2147483647 : Int32)) / (3 : Int32) * (3 : Int32)))) rfl ?_
    show Steps p.tables e below (s₁.setTop (mkF m 7 (own_F1 w i q ((w &&& (2147483647 : Int32)) - (w &&& (2147483647 : Int32)) / (3 : Int32) * (3 : Int32))) [])) _
    refine XS.iloadN X0.here hx rfl (hb hby at_7) rfl ?_
    show Steps p.tables e below (s₁.setTop (mkF m 8 (own_F1 w i q ((w &&& (2147483647 : Int32)) - (w &&& (2147483647 : Int32)) / (3 : Int32) * (3 : Int32))) [(.int ((w &&& (2147483647 : Int32)) - (w &&& (2147483647 : Int32)) / (3 : Int32) * (3 : Int32)))])) _
    exact k
  by_cases hc8_2 : ((w &&& (2147483647 : Int32)) - (w &&& (2147483647 : Int32)) / (3 : Int32) * (3 : Int32)) = (0 : Int32)
  · obtain ⟨T3, X3, e3, st3⟩ := getS2 X0 hx hZ hown (host := "") (Or.inl (hw _ (List.mem_of_getElem? (i := 1) rfl))) Via.refl e0 (S_s_EASY.ext O.2) (g := (mkF m 11 (own_F1 w i q ((w &&& (2147483647 : Int32)) - (w &&& (2147483647 : Int32)) / (3 : Int32) * (3 : Int32))) [])) rfl (hb hby at_11)
    obtain ⟨cq4, kq4, q4a, q4b, q4c⟩ := isOf hZ e3 E_s_EASY
    obtain ⟨_, _, ⟨T4, L4, k4, n4⟩, -, X4, ⟨Lc4, hQ4, l4, y4, z4⟩, st4⟩ := X3.virtualBack hx (y := (⟨"com/example/hantei/hantei/packs/powerroll/Difficulty", "outcome", "(I)Lcom/example/hantei/hantei/packs/powerroll/Outcome;"⟩ : MethodName)) (z := (⟨"com/example/hantei/hantei/packs/powerroll/Difficulty", "outcome", "(I)Lcom/example/hantei/hantei/packs/powerroll/Outcome;"⟩ : MethodName)) hown (mvT hZ (hw _ (List.mem_of_getElem? (i := 4) rfl))) (mvT hZ (hw _ (List.mem_of_getElem? (i := 5) rfl))) (notFace_of_selects (args := #[]) (mvT hZ (hw _ (List.mem_of_getElem? (i := 7) rfl)))) (mvT hZ (hw _ (List.mem_of_getElem? (i := 7) rfl))) (mvT hZ (hw _ (List.mem_of_getElem? (i := 6) rfl))) (by decide) (backOf (W := 0) (rm1 l Z a0 hw [] s_EASY i s_SUCCESS_WITH_CONSEQUENCE s_SUCCESS s_SUCCESS_WITH_REWARD h0 n0 O F_tierOne_s_EASY F_tierTwo_s_EASY F_tierThree_s_EASY) hZ (hw _ (List.mem_of_getElem? (i := 8) rfl)) (hw _ (List.mem_of_getElem? (i := 2) rfl)) (by decide) (by decide)) q4a q4c (g := (mkF m 45 (own_F3 w i q ((w &&& (2147483647 : Int32)) - (w &&& (2147483647 : Int32)) / (3 : Int32) * (3 : Int32)) s_EASY ((10 : Int32) + (q &&& (15 : Int32)))) [(.int i), (.ref s_EASY)])) rfl (by rw [hml]; rfl) (Steps.refl _) (argsL := [(.int i)]) (rest := []) (lenOf pd__40I_41Lcom_47example_47hantei_47hantei_47packs_47powerroll_47Outcome_59 rfl) rfl (by show 2 * 0 + _ ≤ _; exact Nat.le_of_eq rfl) (hb hby at_45) (fun _ _ => ⟨rfl, e3, (by decide : 0 + 0 ≤ _), (by decide : 0 + 0 ≤ _)⟩)
    dsimp only [Pt.U, Pt.locs, Pt.cells, Pt.slots] at X4 l4 y4 z4 st4 hQ4
    subst l4 y4 z4
    obtain ⟨rfl, N4q, eh4⟩ := hQ4
    have N4 := Fr.app N0 N4q
    obtain ⟨cq5, kq5, q5a, q5b, q5c⟩ := isOf hZ eh4 E_s_EASY
    obtain ⟨_, _, ⟨T5, L5, k5, n5⟩, -, X5, ⟨Lc5, hQ5, l5, y5, z5⟩, st5⟩ := X4.virtualBack hx (y := (⟨"com/example/hantei/hantei/packs/powerroll/Difficulty", "outcome", "(I)Lcom/example/hantei/hantei/packs/powerroll/Outcome;"⟩ : MethodName)) (z := (⟨"com/example/hantei/hantei/packs/powerroll/Difficulty", "outcome", "(I)Lcom/example/hantei/hantei/packs/powerroll/Outcome;"⟩ : MethodName)) hown (mvT hZ (hw _ (List.mem_of_getElem? (i := 4) rfl))) (mvT hZ (hw _ (List.mem_of_getElem? (i := 5) rfl))) (notFace_of_selects (args := #[]) (mvT hZ (hw _ (List.mem_of_getElem? (i := 7) rfl)))) (mvT hZ (hw _ (List.mem_of_getElem? (i := 7) rfl))) (mvT hZ (hw _ (List.mem_of_getElem? (i := 6) rfl))) (by decide) (backOf (W := 0) (rm1 l Z a0 hw [] s_EASY ((10 : Int32) + (q &&& (15 : Int32))) s_SUCCESS_WITH_CONSEQUENCE s_SUCCESS s_SUCCESS_WITH_REWARD h0 n0 O F_tierOne_s_EASY F_tierTwo_s_EASY F_tierThree_s_EASY) hZ (hw _ (List.mem_of_getElem? (i := 8) rfl)) (hw _ (List.mem_of_getElem? (i := 2) rfl)) (by decide) (by decide)) q5a q5c (g := (mkF m 54 (own_F4 w i q ((w &&& (2147483647 : Int32)) - (w &&& (2147483647 : Int32)) / (3 : Int32) * (3 : Int32)) s_EASY ((10 : Int32) + (q &&& (15 : Int32))) (own_tier i s_SUCCESS_WITH_CONSEQUENCE s_SUCCESS s_SUCCESS_WITH_REWARD)) [(.int ((10 : Int32) + (q &&& (15 : Int32)))), (.ref s_EASY)])) rfl (by rw [hml]; rfl) (Steps.refl _) (argsL := [(.int ((10 : Int32) + (q &&& (15 : Int32))))]) (rest := []) (lenOf pd__40I_41Lcom_47example_47hantei_47hantei_47packs_47powerroll_47Outcome_59 rfl) rfl (by show 2 * 0 + _ ≤ _; exact Nat.le_of_eq rfl) (hb hby at_54) (fun _ _ => ⟨rfl, eh4, (by decide : 0 + 0 ≤ _), (by decide : 0 + 0 ≤ _)⟩)
    dsimp only [Pt.U, Pt.locs, Pt.cells, Pt.slots] at X5 l5 y5 z5 st5 hQ5
    subst l5 y5 z5
    obtain ⟨rfl, N5q, eh5⟩ := hQ5
    have N5 := Fr.app N4 N5q
    obtain ⟨_, _, ⟨T6, L6, k6, n6⟩, -, X6, ⟨Lc6, hQ6, l6, y6, z6⟩, st6⟩ := Jvm.LawKit.callS X5 hx (y := (⟨"com/example/hantei/hantei/packs/powerroll/DifficultyOutcomePinLaw", "expected", "(II)Lcom/example/hantei/hantei/packs/powerroll/Outcome;"⟩ : MethodName)) hown (mvT hZ (hw _ (List.mem_of_getElem? (i := 16) rfl))) (mvT hZ (hw _ (List.mem_of_getElem? (i := 17) rfl))) (mvT hZ (hw _ (List.mem_of_getElem? (i := 18) rfl))) (mvT hZ (hw _ (List.mem_of_getElem? (i := 19) rfl))) (by decide) (backOf (W := 1) (rm2_0 l Z a0 hw [] ((w &&& (2147483647 : Int32)) - (w &&& (2147483647 : Int32)) / (3 : Int32) * (3 : Int32)) i s_SUCCESS_WITH_CONSEQUENCE s_SUCCESS s_SUCCESS_WITH_REWARD h0 n0 O S_s_SUCCESS_WITH_CONSEQUENCE S_s_SUCCESS S_s_SUCCESS_WITH_REWARD hc8_2) hZ (hw _ (List.mem_of_getElem? (i := 19) rfl)) (hw _ (List.mem_of_getElem? (i := 18) rfl)) (by decide) (by decide)) (g := (mkF m 63 (own_F5 w i q ((w &&& (2147483647 : Int32)) - (w &&& (2147483647 : Int32)) / (3 : Int32) * (3 : Int32)) s_EASY ((10 : Int32) + (q &&& (15 : Int32))) (own_tier i s_SUCCESS_WITH_CONSEQUENCE s_SUCCESS s_SUCCESS_WITH_REWARD) (own_tier ((10 : Int32) + (q &&& (15 : Int32))) s_SUCCESS_WITH_CONSEQUENCE s_SUCCESS s_SUCCESS_WITH_REWARD)) [(.int i), (.int ((w &&& (2147483647 : Int32)) - (w &&& (2147483647 : Int32)) / (3 : Int32) * (3 : Int32))), (.ref (own_tier i s_SUCCESS_WITH_CONSEQUENCE s_SUCCESS s_SUCCESS_WITH_REWARD))])) rfl (by rw [hml]; rfl) (argsL := [(.int ((w &&& (2147483647 : Int32)) - (w &&& (2147483647 : Int32)) / (3 : Int32) * (3 : Int32))), (.int i)]) (rest := [(.ref (own_tier i s_SUCCESS_WITH_CONSEQUENCE s_SUCCESS s_SUCCESS_WITH_REWARD))]) (lenOf pd__40II_41Lcom_47example_47hantei_47hantei_47packs_47powerroll_47Outcome_59 rfl) rfl (by show 2 * 0 + _ ≤ _; exact Nat.le_of_eq rfl) (hb hby at_63) (fun _ _ => ⟨rfl, eh5, (by decide : 0 + 0 ≤ _), (by decide : 0 + 0 ≤ _)⟩)
    dsimp only [Pt.U, Pt.locs, Pt.cells, Pt.slots] at X6 l6 y6 z6 st6 hQ6
    subst l6 y6 z6
    obtain ⟨rfl, N6q, eh6⟩ := hQ6
    have N6 := Fr.app N5 N6q
    obtain ⟨_, _, ⟨T7, L7, k7, n7⟩, -, X7, ⟨Lc7, hQ7, l7, y7, z7⟩, st7⟩ := Jvm.LawKit.callS X6 hx (y := (⟨"com/example/hantei/hantei/packs/powerroll/DifficultyOutcomePinLaw", "expected", "(II)Lcom/example/hantei/hantei/packs/powerroll/Outcome;"⟩ : MethodName)) hown (mvT hZ (hw _ (List.mem_of_getElem? (i := 16) rfl))) (mvT hZ (hw _ (List.mem_of_getElem? (i := 17) rfl))) (mvT hZ (hw _ (List.mem_of_getElem? (i := 18) rfl))) (mvT hZ (hw _ (List.mem_of_getElem? (i := 19) rfl))) (by decide) (backOf (W := 1) (rm2_0 l Z a0 hw [] ((w &&& (2147483647 : Int32)) - (w &&& (2147483647 : Int32)) / (3 : Int32) * (3 : Int32)) ((10 : Int32) + (q &&& (15 : Int32))) s_SUCCESS_WITH_CONSEQUENCE s_SUCCESS s_SUCCESS_WITH_REWARD h0 n0 O S_s_SUCCESS_WITH_CONSEQUENCE S_s_SUCCESS S_s_SUCCESS_WITH_REWARD hc8_2) hZ (hw _ (List.mem_of_getElem? (i := 19) rfl)) (hw _ (List.mem_of_getElem? (i := 18) rfl)) (by decide) (by decide)) (g := (mkF m 74 (own_F5 w i q ((w &&& (2147483647 : Int32)) - (w &&& (2147483647 : Int32)) / (3 : Int32) * (3 : Int32)) s_EASY ((10 : Int32) + (q &&& (15 : Int32))) (own_tier i s_SUCCESS_WITH_CONSEQUENCE s_SUCCESS s_SUCCESS_WITH_REWARD) (own_tier ((10 : Int32) + (q &&& (15 : Int32))) s_SUCCESS_WITH_CONSEQUENCE s_SUCCESS s_SUCCESS_WITH_REWARD)) [(.int ((10 : Int32) + (q &&& (15 : Int32)))), (.int ((w &&& (2147483647 : Int32)) - (w &&& (2147483647 : Int32)) / (3 : Int32) * (3 : Int32))), (.ref (own_tier ((10 : Int32) + (q &&& (15 : Int32))) s_SUCCESS_WITH_CONSEQUENCE s_SUCCESS s_SUCCESS_WITH_REWARD))])) rfl (by rw [hml]; rfl) (argsL := [(.int ((w &&& (2147483647 : Int32)) - (w &&& (2147483647 : Int32)) / (3 : Int32) * (3 : Int32))), (.int ((10 : Int32) + (q &&& (15 : Int32))))]) (rest := [(.ref (own_tier ((10 : Int32) + (q &&& (15 : Int32))) s_SUCCESS_WITH_CONSEQUENCE s_SUCCESS s_SUCCESS_WITH_REWARD))]) (lenOf pd__40II_41Lcom_47example_47hantei_47hantei_47packs_47powerroll_47Outcome_59 rfl) rfl (by show 2 * 0 + _ ≤ _; exact Nat.le_of_eq rfl) (hb hby at_74) (fun _ _ => ⟨rfl, eh6, (by decide : 0 + 0 ≤ _), (by decide : 0 + 0 ≤ _)⟩)
    dsimp only [Pt.U, Pt.locs, Pt.cells, Pt.slots] at X7 l7 y7 z7 st7 hQ7
    subst l7 y7 z7
    obtain ⟨rfl, N7q, eh7⟩ := hQ7
    have N7 := Fr.app N6 N7q
    have w8 : ∀ t, Steps p.tables e below (T7.setTop (mkF m 85 (own_F5 w i q ((w &&& (2147483647 : Int32)) - (w &&& (2147483647 : Int32)) / (3 : Int32) * (3 : Int32)) s_EASY ((10 : Int32) + (q &&& (15 : Int32))) (own_tier i s_SUCCESS_WITH_CONSEQUENCE s_SUCCESS s_SUCCESS_WITH_REWARD) (own_tier ((10 : Int32) + (q &&& (15 : Int32))) s_SUCCESS_WITH_CONSEQUENCE s_SUCCESS s_SUCCESS_WITH_REWARD)) [(.int (1 : Int32))])) t → Steps p.tables e below (s₁.setTop (entryFrame m #[(.int w), (.int i), (.int q)] maxLocals)) t := fun t k => by
      refine w1 t ?_
      refine XS.ifNo X0.here hx rfl (hb hby at_8) rfl ((if0 _ _).trans (teq hc8_2).2) ?_
      show Steps p.tables e below (s₁.setTop (mkF m 11 (own_F1 w i q ((w &&& (2147483647 : Int32)) - (w &&& (2147483647 : Int32)) / (3 : Int32) * (3 : Int32))) [])) _
      refine st3 _ ?_
      show Steps p.tables e below (T3.setTop (mkF m 14 (own_F1 w i q ((w &&& (2147483647 : Int32)) - (w &&& (2147483647 : Int32)) / (3 : Int32) * (3 : Int32))) [(.ref s_EASY)])) _
      refine XS.goto X3.here hx rfl (pc0 := 14) (pc' := 31) rfl (hb hby at_14) (by decide) (by decide) ?_
      show Steps p.tables e below (T3.setTop (mkF m 31 (own_F1 w i q ((w &&& (2147483647 : Int32)) - (w &&& (2147483647 : Int32)) / (3 : Int32) * (3 : Int32))) [(.ref s_EASY)])) _
      refine XS.astore X3.here hx rfl (hb hby at_31) rfl rfl (l' := (own_F2 w i q ((w &&& (2147483647 : Int32)) - (w &&& (2147483647 : Int32)) / (3 : Int32) * (3 : Int32)) s_EASY)) rfl ?_
      show Steps p.tables e below (T3.setTop (mkF m 33 (own_F2 w i q ((w &&& (2147483647 : Int32)) - (w &&& (2147483647 : Int32)) / (3 : Int32) * (3 : Int32)) s_EASY) [])) _
      refine XS.bipush X3.here hx rfl (hb hby at_33) ?_
      show Steps p.tables e below (T3.setTop (mkF m 35 (own_F2 w i q ((w &&& (2147483647 : Int32)) - (w &&& (2147483647 : Int32)) / (3 : Int32) * (3 : Int32)) s_EASY) [(.int (10 : Int32))])) _
      refine XS.iloadN X3.here hx rfl (hb hby at_35) rfl ?_
      show Steps p.tables e below (T3.setTop (mkF m 36 (own_F2 w i q ((w &&& (2147483647 : Int32)) - (w &&& (2147483647 : Int32)) / (3 : Int32) * (3 : Int32)) s_EASY) [(.int q), (.int (10 : Int32))])) _
      refine XS.bipush X3.here hx rfl (hb hby at_36) ?_
      show Steps p.tables e below (T3.setTop (mkF m 38 (own_F2 w i q ((w &&& (2147483647 : Int32)) - (w &&& (2147483647 : Int32)) / (3 : Int32) * (3 : Int32)) s_EASY) [(.int (15 : Int32)), (.int q), (.int (10 : Int32))])) _
      refine XS.iand X3.here hx rfl (hb hby at_38) rfl ?_
      show Steps p.tables e below (T3.setTop (mkF m 39 (own_F2 w i q ((w &&& (2147483647 : Int32)) - (w &&& (2147483647 : Int32)) / (3 : Int32) * (3 : Int32)) s_EASY) [(.int (q &&& (15 : Int32))), (.int (10 : Int32))])) _
      refine XS.iadd X3.here hx rfl (hb hby at_39) rfl ?_
      show Steps p.tables e below (T3.setTop (mkF m 40 (own_F2 w i q ((w &&& (2147483647 : Int32)) - (w &&& (2147483647 : Int32)) / (3 : Int32) * (3 : Int32)) s_EASY) [(.int ((10 : Int32) + (q &&& (15 : Int32))))])) _
      refine XS.istore X3.here hx rfl (hb hby at_40) rfl (l' := (own_F3 w i q ((w &&& (2147483647 : Int32)) - (w &&& (2147483647 : Int32)) / (3 : Int32) * (3 : Int32)) s_EASY ((10 : Int32) + (q &&& (15 : Int32))))) rfl ?_
      show Steps p.tables e below (T3.setTop (mkF m 42 (own_F3 w i q ((w &&& (2147483647 : Int32)) - (w &&& (2147483647 : Int32)) / (3 : Int32) * (3 : Int32)) s_EASY ((10 : Int32) + (q &&& (15 : Int32)))) [])) _
      refine XS.aload X3.here hx rfl (hb hby at_42) rfl rfl ?_
      show Steps p.tables e below (T3.setTop (mkF m 44 (own_F3 w i q ((w &&& (2147483647 : Int32)) - (w &&& (2147483647 : Int32)) / (3 : Int32) * (3 : Int32)) s_EASY ((10 : Int32) + (q &&& (15 : Int32)))) [(.ref s_EASY)])) _
      refine XS.iloadN X3.here hx rfl (hb hby at_44) rfl ?_
      show Steps p.tables e below (T3.setTop (mkF m 45 (own_F3 w i q ((w &&& (2147483647 : Int32)) - (w &&& (2147483647 : Int32)) / (3 : Int32) * (3 : Int32)) s_EASY ((10 : Int32) + (q &&& (15 : Int32)))) [(.int i), (.ref s_EASY)])) _
      refine st4.trans ?_
      show Steps p.tables e below (T4.setTop (mkF m 48 (own_F3 w i q ((w &&& (2147483647 : Int32)) - (w &&& (2147483647 : Int32)) / (3 : Int32) * (3 : Int32)) s_EASY ((10 : Int32) + (q &&& (15 : Int32)))) [(.ref (own_tier i s_SUCCESS_WITH_CONSEQUENCE s_SUCCESS s_SUCCESS_WITH_REWARD))])) _
      refine XS.astore X4.here hx rfl (hb hby at_48) rfl rfl (l' := (own_F4 w i q ((w &&& (2147483647 : Int32)) - (w &&& (2147483647 : Int32)) / (3 : Int32) * (3 : Int32)) s_EASY ((10 : Int32) + (q &&& (15 : Int32))) (own_tier i s_SUCCESS_WITH_CONSEQUENCE s_SUCCESS s_SUCCESS_WITH_REWARD))) rfl ?_
      show Steps p.tables e below (T4.setTop (mkF m 50 (own_F4 w i q ((w &&& (2147483647 : Int32)) - (w &&& (2147483647 : Int32)) / (3 : Int32) * (3 : Int32)) s_EASY ((10 : Int32) + (q &&& (15 : Int32))) (own_tier i s_SUCCESS_WITH_CONSEQUENCE s_SUCCESS s_SUCCESS_WITH_REWARD)) [])) _
      refine XS.aload X4.here hx rfl (hb hby at_50) rfl rfl ?_
      show Steps p.tables e below (T4.setTop (mkF m 52 (own_F4 w i q ((w &&& (2147483647 : Int32)) - (w &&& (2147483647 : Int32)) / (3 : Int32) * (3 : Int32)) s_EASY ((10 : Int32) + (q &&& (15 : Int32))) (own_tier i s_SUCCESS_WITH_CONSEQUENCE s_SUCCESS s_SUCCESS_WITH_REWARD)) [(.ref s_EASY)])) _
      refine XS.iload X4.here hx rfl (hb hby at_52) rfl ?_
      show Steps p.tables e below (T4.setTop (mkF m 54 (own_F4 w i q ((w &&& (2147483647 : Int32)) - (w &&& (2147483647 : Int32)) / (3 : Int32) * (3 : Int32)) s_EASY ((10 : Int32) + (q &&& (15 : Int32))) (own_tier i s_SUCCESS_WITH_CONSEQUENCE s_SUCCESS s_SUCCESS_WITH_REWARD)) [(.int ((10 : Int32) + (q &&& (15 : Int32)))), (.ref s_EASY)])) _
      refine st5.trans ?_
      show Steps p.tables e below (T5.setTop (mkF m 57 (own_F4 w i q ((w &&& (2147483647 : Int32)) - (w &&& (2147483647 : Int32)) / (3 : Int32) * (3 : Int32)) s_EASY ((10 : Int32) + (q &&& (15 : Int32))) (own_tier i s_SUCCESS_WITH_CONSEQUENCE s_SUCCESS s_SUCCESS_WITH_REWARD)) [(.ref (own_tier ((10 : Int32) + (q &&& (15 : Int32))) s_SUCCESS_WITH_CONSEQUENCE s_SUCCESS s_SUCCESS_WITH_REWARD))])) _
      refine XS.astore X5.here hx rfl (hb hby at_57) rfl rfl (l' := (own_F5 w i q ((w &&& (2147483647 : Int32)) - (w &&& (2147483647 : Int32)) / (3 : Int32) * (3 : Int32)) s_EASY ((10 : Int32) + (q &&& (15 : Int32))) (own_tier i s_SUCCESS_WITH_CONSEQUENCE s_SUCCESS s_SUCCESS_WITH_REWARD) (own_tier ((10 : Int32) + (q &&& (15 : Int32))) s_SUCCESS_WITH_CONSEQUENCE s_SUCCESS s_SUCCESS_WITH_REWARD))) rfl ?_
      show Steps p.tables e below (T5.setTop (mkF m 59 (own_F5 w i q ((w &&& (2147483647 : Int32)) - (w &&& (2147483647 : Int32)) / (3 : Int32) * (3 : Int32)) s_EASY ((10 : Int32) + (q &&& (15 : Int32))) (own_tier i s_SUCCESS_WITH_CONSEQUENCE s_SUCCESS s_SUCCESS_WITH_REWARD) (own_tier ((10 : Int32) + (q &&& (15 : Int32))) s_SUCCESS_WITH_CONSEQUENCE s_SUCCESS s_SUCCESS_WITH_REWARD)) [])) _
      refine XS.aload X5.here hx rfl (hb hby at_59) rfl rfl ?_
      show Steps p.tables e below (T5.setTop (mkF m 61 (own_F5 w i q ((w &&& (2147483647 : Int32)) - (w &&& (2147483647 : Int32)) / (3 : Int32) * (3 : Int32)) s_EASY ((10 : Int32) + (q &&& (15 : Int32))) (own_tier i s_SUCCESS_WITH_CONSEQUENCE s_SUCCESS s_SUCCESS_WITH_REWARD) (own_tier ((10 : Int32) + (q &&& (15 : Int32))) s_SUCCESS_WITH_CONSEQUENCE s_SUCCESS s_SUCCESS_WITH_REWARD)) [(.ref (own_tier i s_SUCCESS_WITH_CONSEQUENCE s_SUCCESS s_SUCCESS_WITH_REWARD))])) _
      refine XS.iloadN X5.here hx rfl (hb hby at_61) rfl ?_
      show Steps p.tables e below (T5.setTop (mkF m 62 (own_F5 w i q ((w &&& (2147483647 : Int32)) - (w &&& (2147483647 : Int32)) / (3 : Int32) * (3 : Int32)) s_EASY ((10 : Int32) + (q &&& (15 : Int32))) (own_tier i s_SUCCESS_WITH_CONSEQUENCE s_SUCCESS s_SUCCESS_WITH_REWARD) (own_tier ((10 : Int32) + (q &&& (15 : Int32))) s_SUCCESS_WITH_CONSEQUENCE s_SUCCESS s_SUCCESS_WITH_REWARD)) [(.int ((w &&& (2147483647 : Int32)) - (w &&& (2147483647 : Int32)) / (3 : Int32) * (3 : Int32))), (.ref (own_tier i s_SUCCESS_WITH_CONSEQUENCE s_SUCCESS s_SUCCESS_WITH_REWARD))])) _
      refine XS.iloadN X5.here hx rfl (hb hby at_62) rfl ?_
      show Steps p.tables e below (T5.setTop (mkF m 63 (own_F5 w i q ((w &&& (2147483647 : Int32)) - (w &&& (2147483647 : Int32)) / (3 : Int32) * (3 : Int32)) s_EASY ((10 : Int32) + (q &&& (15 : Int32))) (own_tier i s_SUCCESS_WITH_CONSEQUENCE s_SUCCESS s_SUCCESS_WITH_REWARD) (own_tier ((10 : Int32) + (q &&& (15 : Int32))) s_SUCCESS_WITH_CONSEQUENCE s_SUCCESS s_SUCCESS_WITH_REWARD)) [(.int i), (.int ((w &&& (2147483647 : Int32)) - (w &&& (2147483647 : Int32)) / (3 : Int32) * (3 : Int32))), (.ref (own_tier i s_SUCCESS_WITH_CONSEQUENCE s_SUCCESS s_SUCCESS_WITH_REWARD))])) _
      refine st6 _ ?_
      show Steps p.tables e below (T6.setTop (mkF m 66 (own_F5 w i q ((w &&& (2147483647 : Int32)) - (w &&& (2147483647 : Int32)) / (3 : Int32) * (3 : Int32)) s_EASY ((10 : Int32) + (q &&& (15 : Int32))) (own_tier i s_SUCCESS_WITH_CONSEQUENCE s_SUCCESS s_SUCCESS_WITH_REWARD) (own_tier ((10 : Int32) + (q &&& (15 : Int32))) s_SUCCESS_WITH_CONSEQUENCE s_SUCCESS s_SUCCESS_WITH_REWARD)) [(.ref (own_tier i s_SUCCESS_WITH_CONSEQUENCE s_SUCCESS s_SUCCESS_WITH_REWARD)), (.ref (own_tier i s_SUCCESS_WITH_CONSEQUENCE s_SUCCESS s_SUCCESS_WITH_REWARD))])) _
      refine Jvm.RoadKit.acmp (g := (mkF m 66 (own_F5 w i q ((w &&& (2147483647 : Int32)) - (w &&& (2147483647 : Int32)) / (3 : Int32) * (3 : Int32)) s_EASY ((10 : Int32) + (q &&& (15 : Int32))) (own_tier i s_SUCCESS_WITH_CONSEQUENCE s_SUCCESS s_SUCCESS_WITH_REWARD) (own_tier ((10 : Int32) + (q &&& (15 : Int32))) s_SUCCESS_WITH_CONSEQUENCE s_SUCCESS s_SUCCESS_WITH_REWARD)) [(.ref (own_tier i s_SUCCESS_WITH_CONSEQUENCE s_SUCCESS s_SUCCESS_WITH_REWARD)), (.ref (own_tier i s_SUCCESS_WITH_CONSEQUENCE s_SUCCESS s_SUCCESS_WITH_REWARD))])) X6 hx rfl rfl rfl (pc0 := 66) (pc' := 69) (same := true) rfl (hb hby at_66) rfl (decide_eq_true rfl) (by decide) (by decide) ?_
      show Steps p.tables e below (T6.setTop (mkF m 69 (own_F5 w i q ((w &&& (2147483647 : Int32)) - (w &&& (2147483647 : Int32)) / (3 : Int32) * (3 : Int32)) s_EASY ((10 : Int32) + (q &&& (15 : Int32))) (own_tier i s_SUCCESS_WITH_CONSEQUENCE s_SUCCESS s_SUCCESS_WITH_REWARD) (own_tier ((10 : Int32) + (q &&& (15 : Int32))) s_SUCCESS_WITH_CONSEQUENCE s_SUCCESS s_SUCCESS_WITH_REWARD)) [])) _
      refine XS.aload X6.here hx rfl (hb hby at_69) rfl rfl ?_
      show Steps p.tables e below (T6.setTop (mkF m 71 (own_F5 w i q ((w &&& (2147483647 : Int32)) - (w &&& (2147483647 : Int32)) / (3 : Int32) * (3 : Int32)) s_EASY ((10 : Int32) + (q &&& (15 : Int32))) (own_tier i s_SUCCESS_WITH_CONSEQUENCE s_SUCCESS s_SUCCESS_WITH_REWARD) (own_tier ((10 : Int32) + (q &&& (15 : Int32))) s_SUCCESS_WITH_CONSEQUENCE s_SUCCESS s_SUCCESS_WITH_REWARD)) [(.ref (own_tier ((10 : Int32) + (q &&& (15 : Int32))) s_SUCCESS_WITH_CONSEQUENCE s_SUCCESS s_SUCCESS_WITH_REWARD))])) _
      refine XS.iloadN X6.here hx rfl (hb hby at_71) rfl ?_
      show Steps p.tables e below (T6.setTop (mkF m 72 (own_F5 w i q ((w &&& (2147483647 : Int32)) - (w &&& (2147483647 : Int32)) / (3 : Int32) * (3 : Int32)) s_EASY ((10 : Int32) + (q &&& (15 : Int32))) (own_tier i s_SUCCESS_WITH_CONSEQUENCE s_SUCCESS s_SUCCESS_WITH_REWARD) (own_tier ((10 : Int32) + (q &&& (15 : Int32))) s_SUCCESS_WITH_CONSEQUENCE s_SUCCESS s_SUCCESS_WITH_REWARD)) [(.int ((w &&& (2147483647 : Int32)) - (w &&& (2147483647 : Int32)) / (3 : Int32) * (3 : Int32))), (.ref (own_tier ((10 : Int32) + (q &&& (15 : Int32))) s_SUCCESS_WITH_CONSEQUENCE s_SUCCESS s_SUCCESS_WITH_REWARD))])) _
      refine XS.iload X6.here hx rfl (hb hby at_72) rfl ?_
      show Steps p.tables e below (T6.setTop (mkF m 74 (own_F5 w i q ((w &&& (2147483647 : Int32)) - (w &&& (2147483647 : Int32)) / (3 : Int32) * (3 : Int32)) s_EASY ((10 : Int32) + (q &&& (15 : Int32))) (own_tier i s_SUCCESS_WITH_CONSEQUENCE s_SUCCESS s_SUCCESS_WITH_REWARD) (own_tier ((10 : Int32) + (q &&& (15 : Int32))) s_SUCCESS_WITH_CONSEQUENCE s_SUCCESS s_SUCCESS_WITH_REWARD)) [(.int ((10 : Int32) + (q &&& (15 : Int32)))), (.int ((w &&& (2147483647 : Int32)) - (w &&& (2147483647 : Int32)) / (3 : Int32) * (3 : Int32))), (.ref (own_tier ((10 : Int32) + (q &&& (15 : Int32))) s_SUCCESS_WITH_CONSEQUENCE s_SUCCESS s_SUCCESS_WITH_REWARD))])) _
      refine st7 _ ?_
      show Steps p.tables e below (T7.setTop (mkF m 77 (own_F5 w i q ((w &&& (2147483647 : Int32)) - (w &&& (2147483647 : Int32)) / (3 : Int32) * (3 : Int32)) s_EASY ((10 : Int32) + (q &&& (15 : Int32))) (own_tier i s_SUCCESS_WITH_CONSEQUENCE s_SUCCESS s_SUCCESS_WITH_REWARD) (own_tier ((10 : Int32) + (q &&& (15 : Int32))) s_SUCCESS_WITH_CONSEQUENCE s_SUCCESS s_SUCCESS_WITH_REWARD)) [(.ref (own_tier ((10 : Int32) + (q &&& (15 : Int32))) s_SUCCESS_WITH_CONSEQUENCE s_SUCCESS s_SUCCESS_WITH_REWARD)), (.ref (own_tier ((10 : Int32) + (q &&& (15 : Int32))) s_SUCCESS_WITH_CONSEQUENCE s_SUCCESS s_SUCCESS_WITH_REWARD))])) _
      refine Jvm.RoadKit.acmp (g := (mkF m 77 (own_F5 w i q ((w &&& (2147483647 : Int32)) - (w &&& (2147483647 : Int32)) / (3 : Int32) * (3 : Int32)) s_EASY ((10 : Int32) + (q &&& (15 : Int32))) (own_tier i s_SUCCESS_WITH_CONSEQUENCE s_SUCCESS s_SUCCESS_WITH_REWARD) (own_tier ((10 : Int32) + (q &&& (15 : Int32))) s_SUCCESS_WITH_CONSEQUENCE s_SUCCESS s_SUCCESS_WITH_REWARD)) [(.ref (own_tier ((10 : Int32) + (q &&& (15 : Int32))) s_SUCCESS_WITH_CONSEQUENCE s_SUCCESS s_SUCCESS_WITH_REWARD)), (.ref (own_tier ((10 : Int32) + (q &&& (15 : Int32))) s_SUCCESS_WITH_CONSEQUENCE s_SUCCESS s_SUCCESS_WITH_REWARD))])) X7 hx rfl rfl rfl (pc0 := 77) (pc' := 80) (same := true) rfl (hb hby at_77) rfl (decide_eq_true rfl) (by decide) (by decide) ?_
      show Steps p.tables e below (T7.setTop (mkF m 80 (own_F5 w i q ((w &&& (2147483647 : Int32)) - (w &&& (2147483647 : Int32)) / (3 : Int32) * (3 : Int32)) s_EASY ((10 : Int32) + (q &&& (15 : Int32))) (own_tier i s_SUCCESS_WITH_CONSEQUENCE s_SUCCESS s_SUCCESS_WITH_REWARD) (own_tier ((10 : Int32) + (q &&& (15 : Int32))) s_SUCCESS_WITH_CONSEQUENCE s_SUCCESS s_SUCCESS_WITH_REWARD)) [])) _
      refine XS.iconst X7.here hx rfl (hb hby at_80) ?_
      show Steps p.tables e below (T7.setTop (mkF m 81 (own_F5 w i q ((w &&& (2147483647 : Int32)) - (w &&& (2147483647 : Int32)) / (3 : Int32) * (3 : Int32)) s_EASY ((10 : Int32) + (q &&& (15 : Int32))) (own_tier i s_SUCCESS_WITH_CONSEQUENCE s_SUCCESS s_SUCCESS_WITH_REWARD) (own_tier ((10 : Int32) + (q &&& (15 : Int32))) s_SUCCESS_WITH_CONSEQUENCE s_SUCCESS s_SUCCESS_WITH_REWARD)) [(.int (1 : Int32))])) _
      refine XS.goto X7.here hx rfl (pc0 := 81) (pc' := 85) rfl (hb hby at_81) (by decide) (by decide) ?_
      show Steps p.tables e below (T7.setTop (mkF m 85 (own_F5 w i q ((w &&& (2147483647 : Int32)) - (w &&& (2147483647 : Int32)) / (3 : Int32) * (3 : Int32)) s_EASY ((10 : Int32) + (q &&& (15 : Int32))) (own_tier i s_SUCCESS_WITH_CONSEQUENCE s_SUCCESS s_SUCCESS_WITH_REWARD) (own_tier ((10 : Int32) + (q &&& (15 : Int32))) s_SUCCESS_WITH_CONSEQUENCE s_SUCCESS s_SUCCESS_WITH_REWARD)) [(.int (1 : Int32))])) _
      exact k
    obtain ⟨fs, hr, hrun, hended, hW, hsame⟩ := X7.leave (v := some (.int (1 : Int32))) (fun h => by rw [Bd.returns] at h; cases h)
    refine ⟨_, _, w8 _ ?_, hrun, hended, _, _, rfl, ?_, ⟨_, rfl⟩, hW, hsame.mono (by decide) (by decide)⟩
    · exact retN X7 hx (t := .boolean) Bd.returns (by simp) (hb hby at_85) hr
    · show Q0 Z w i q s_EASY s_SUCCESS_WITH_CONSEQUENCE s_SUCCESS s_SUCCESS_WITH_REWARD s_MEDIUM s_FAILURE s_HARD s_FAILURE_WITH_CONSEQUENCE h0 n0 _ T7.heap _
      rw [eh7]
      exact ⟨rfl, N7, rfl⟩
  · have w9 : ∀ t, Steps p.tables e below (s₁.setTop (mkF m 19 (own_F1 w i q ((w &&& (2147483647 : Int32)) - (w &&& (2147483647 : Int32)) / (3 : Int32) * (3 : Int32))) [(.int (1 : Int32)), (.int ((w &&& (2147483647 : Int32)) - (w &&& (2147483647 : Int32)) / (3 : Int32) * (3 : Int32)))])) t → Steps p.tables e below (s₁.setTop (entryFrame m #[(.int w), (.int i), (.int q)] maxLocals)) t := fun t k => by
      refine w1 t ?_
      refine XS.ifYes X0.here hx rfl (pc0 := 8) (pc' := 17) rfl (hb hby at_8) rfl ((if0 _ _).trans (feq hc8_2).2) (by decide) (by decide) ?_
      show Steps p.tables e below (s₁.setTop (mkF m 17 (own_F1 w i q ((w &&& (2147483647 : Int32)) - (w &&& (2147483647 : Int32)) / (3 : Int32) * (3 : Int32))) [])) _
      refine XS.iloadN X0.here hx rfl (hb hby at_17) rfl ?_
      show Steps p.tables e below (s₁.setTop (mkF m 18 (own_F1 w i q ((w &&& (2147483647 : Int32)) - (w &&& (2147483647 : Int32)) / (3 : Int32) * (3 : Int32))) [(.int ((w &&& (2147483647 : Int32)) - (w &&& (2147483647 : Int32)) / (3 : Int32) * (3 : Int32)))])) _
      refine XS.iconst X0.here hx rfl (hb hby at_18) ?_
      show Steps p.tables e below (s₁.setTop (mkF m 19 (own_F1 w i q ((w &&& (2147483647 : Int32)) - (w &&& (2147483647 : Int32)) / (3 : Int32) * (3 : Int32))) [(.int (1 : Int32)), (.int ((w &&& (2147483647 : Int32)) - (w &&& (2147483647 : Int32)) / (3 : Int32) * (3 : Int32)))])) _
      exact k
    by_cases hc19_10 : ((w &&& (2147483647 : Int32)) - (w &&& (2147483647 : Int32)) / (3 : Int32) * (3 : Int32)) = (1 : Int32)
    · obtain ⟨T11, X11, e11, st11⟩ := getS2 X0 hx hZ hown (host := "") (Or.inl (hw _ (List.mem_of_getElem? (i := 22) rfl))) Via.refl e0 (S_s_MEDIUM.ext O.2) (g := (mkF m 22 (own_F1 w i q ((w &&& (2147483647 : Int32)) - (w &&& (2147483647 : Int32)) / (3 : Int32) * (3 : Int32))) [])) rfl (hb hby at_22)
      obtain ⟨cq12, kq12, q12a, q12b, q12c⟩ := isOf hZ e11 E_s_MEDIUM
      obtain ⟨_, _, ⟨T12, L12, k12, n12⟩, -, X12, ⟨Lc12, hQ12, l12, y12, z12⟩, st12⟩ := X11.virtualBack hx (y := (⟨"com/example/hantei/hantei/packs/powerroll/Difficulty", "outcome", "(I)Lcom/example/hantei/hantei/packs/powerroll/Outcome;"⟩ : MethodName)) (z := (⟨"com/example/hantei/hantei/packs/powerroll/Difficulty", "outcome", "(I)Lcom/example/hantei/hantei/packs/powerroll/Outcome;"⟩ : MethodName)) hown (mvT hZ (hw _ (List.mem_of_getElem? (i := 4) rfl))) (mvT hZ (hw _ (List.mem_of_getElem? (i := 5) rfl))) (notFace_of_selects (args := #[]) (mvT hZ (hw _ (List.mem_of_getElem? (i := 7) rfl)))) (mvT hZ (hw _ (List.mem_of_getElem? (i := 7) rfl))) (mvT hZ (hw _ (List.mem_of_getElem? (i := 6) rfl))) (by decide) (backOf (W := 0) (rm1 l Z a0 hw [] s_MEDIUM i s_FAILURE s_SUCCESS_WITH_CONSEQUENCE s_SUCCESS h0 n0 O F_tierOne_s_MEDIUM F_tierTwo_s_MEDIUM F_tierThree_s_MEDIUM) hZ (hw _ (List.mem_of_getElem? (i := 8) rfl)) (hw _ (List.mem_of_getElem? (i := 2) rfl)) (by decide) (by decide)) q12a q12c (g := (mkF m 45 (own_F3 w i q ((w &&& (2147483647 : Int32)) - (w &&& (2147483647 : Int32)) / (3 : Int32) * (3 : Int32)) s_MEDIUM ((10 : Int32) + (q &&& (15 : Int32)))) [(.int i), (.ref s_MEDIUM)])) rfl (by rw [hml]; rfl) (Steps.refl _) (argsL := [(.int i)]) (rest := []) (lenOf pd__40I_41Lcom_47example_47hantei_47hantei_47packs_47powerroll_47Outcome_59 rfl) rfl (by show 2 * 0 + _ ≤ _; exact Nat.le_of_eq rfl) (hb hby at_45) (fun _ _ => ⟨rfl, e11, (by decide : 0 + 0 ≤ _), (by decide : 0 + 0 ≤ _)⟩)
      dsimp only [Pt.U, Pt.locs, Pt.cells, Pt.slots] at X12 l12 y12 z12 st12 hQ12
      subst l12 y12 z12
      obtain ⟨rfl, N12q, eh12⟩ := hQ12
      have N12 := Fr.app N0 N12q
      obtain ⟨cq13, kq13, q13a, q13b, q13c⟩ := isOf hZ eh12 E_s_MEDIUM
      obtain ⟨_, _, ⟨T13, L13, k13, n13⟩, -, X13, ⟨Lc13, hQ13, l13, y13, z13⟩, st13⟩ := X12.virtualBack hx (y := (⟨"com/example/hantei/hantei/packs/powerroll/Difficulty", "outcome", "(I)Lcom/example/hantei/hantei/packs/powerroll/Outcome;"⟩ : MethodName)) (z := (⟨"com/example/hantei/hantei/packs/powerroll/Difficulty", "outcome", "(I)Lcom/example/hantei/hantei/packs/powerroll/Outcome;"⟩ : MethodName)) hown (mvT hZ (hw _ (List.mem_of_getElem? (i := 4) rfl))) (mvT hZ (hw _ (List.mem_of_getElem? (i := 5) rfl))) (notFace_of_selects (args := #[]) (mvT hZ (hw _ (List.mem_of_getElem? (i := 7) rfl)))) (mvT hZ (hw _ (List.mem_of_getElem? (i := 7) rfl))) (mvT hZ (hw _ (List.mem_of_getElem? (i := 6) rfl))) (by decide) (backOf (W := 0) (rm1 l Z a0 hw [] s_MEDIUM ((10 : Int32) + (q &&& (15 : Int32))) s_FAILURE s_SUCCESS_WITH_CONSEQUENCE s_SUCCESS h0 n0 O F_tierOne_s_MEDIUM F_tierTwo_s_MEDIUM F_tierThree_s_MEDIUM) hZ (hw _ (List.mem_of_getElem? (i := 8) rfl)) (hw _ (List.mem_of_getElem? (i := 2) rfl)) (by decide) (by decide)) q13a q13c (g := (mkF m 54 (own_F4 w i q ((w &&& (2147483647 : Int32)) - (w &&& (2147483647 : Int32)) / (3 : Int32) * (3 : Int32)) s_MEDIUM ((10 : Int32) + (q &&& (15 : Int32))) (own_tier i s_FAILURE s_SUCCESS_WITH_CONSEQUENCE s_SUCCESS)) [(.int ((10 : Int32) + (q &&& (15 : Int32)))), (.ref s_MEDIUM)])) rfl (by rw [hml]; rfl) (Steps.refl _) (argsL := [(.int ((10 : Int32) + (q &&& (15 : Int32))))]) (rest := []) (lenOf pd__40I_41Lcom_47example_47hantei_47hantei_47packs_47powerroll_47Outcome_59 rfl) rfl (by show 2 * 0 + _ ≤ _; exact Nat.le_of_eq rfl) (hb hby at_54) (fun _ _ => ⟨rfl, eh12, (by decide : 0 + 0 ≤ _), (by decide : 0 + 0 ≤ _)⟩)
      dsimp only [Pt.U, Pt.locs, Pt.cells, Pt.slots] at X13 l13 y13 z13 st13 hQ13
      subst l13 y13 z13
      obtain ⟨rfl, N13q, eh13⟩ := hQ13
      have N13 := Fr.app N12 N13q
      obtain ⟨_, _, ⟨T14, L14, k14, n14⟩, -, X14, ⟨Lc14, hQ14, l14, y14, z14⟩, st14⟩ := Jvm.LawKit.callS X13 hx (y := (⟨"com/example/hantei/hantei/packs/powerroll/DifficultyOutcomePinLaw", "expected", "(II)Lcom/example/hantei/hantei/packs/powerroll/Outcome;"⟩ : MethodName)) hown (mvT hZ (hw _ (List.mem_of_getElem? (i := 16) rfl))) (mvT hZ (hw _ (List.mem_of_getElem? (i := 17) rfl))) (mvT hZ (hw _ (List.mem_of_getElem? (i := 18) rfl))) (mvT hZ (hw _ (List.mem_of_getElem? (i := 19) rfl))) (by decide) (backOf (W := 1) (rm2_1 l Z a0 hw [] ((w &&& (2147483647 : Int32)) - (w &&& (2147483647 : Int32)) / (3 : Int32) * (3 : Int32)) i s_FAILURE s_SUCCESS_WITH_CONSEQUENCE s_SUCCESS h0 n0 O S_s_FAILURE S_s_SUCCESS_WITH_CONSEQUENCE S_s_SUCCESS hc8_2 hc19_10) hZ (hw _ (List.mem_of_getElem? (i := 19) rfl)) (hw _ (List.mem_of_getElem? (i := 18) rfl)) (by decide) (by decide)) (g := (mkF m 63 (own_F5 w i q ((w &&& (2147483647 : Int32)) - (w &&& (2147483647 : Int32)) / (3 : Int32) * (3 : Int32)) s_MEDIUM ((10 : Int32) + (q &&& (15 : Int32))) (own_tier i s_FAILURE s_SUCCESS_WITH_CONSEQUENCE s_SUCCESS) (own_tier ((10 : Int32) + (q &&& (15 : Int32))) s_FAILURE s_SUCCESS_WITH_CONSEQUENCE s_SUCCESS)) [(.int i), (.int ((w &&& (2147483647 : Int32)) - (w &&& (2147483647 : Int32)) / (3 : Int32) * (3 : Int32))), (.ref (own_tier i s_FAILURE s_SUCCESS_WITH_CONSEQUENCE s_SUCCESS))])) rfl (by rw [hml]; rfl) (argsL := [(.int ((w &&& (2147483647 : Int32)) - (w &&& (2147483647 : Int32)) / (3 : Int32) * (3 : Int32))), (.int i)]) (rest := [(.ref (own_tier i s_FAILURE s_SUCCESS_WITH_CONSEQUENCE s_SUCCESS))]) (lenOf pd__40II_41Lcom_47example_47hantei_47hantei_47packs_47powerroll_47Outcome_59 rfl) rfl (by show 2 * 0 + _ ≤ _; exact Nat.le_of_eq rfl) (hb hby at_63) (fun _ _ => ⟨rfl, eh13, (by decide : 0 + 0 ≤ _), (by decide : 0 + 0 ≤ _)⟩)
      dsimp only [Pt.U, Pt.locs, Pt.cells, Pt.slots] at X14 l14 y14 z14 st14 hQ14
      subst l14 y14 z14
      obtain ⟨rfl, N14q, eh14⟩ := hQ14
      have N14 := Fr.app N13 N14q
      obtain ⟨_, _, ⟨T15, L15, k15, n15⟩, -, X15, ⟨Lc15, hQ15, l15, y15, z15⟩, st15⟩ := Jvm.LawKit.callS X14 hx (y := (⟨"com/example/hantei/hantei/packs/powerroll/DifficultyOutcomePinLaw", "expected", "(II)Lcom/example/hantei/hantei/packs/powerroll/Outcome;"⟩ : MethodName)) hown (mvT hZ (hw _ (List.mem_of_getElem? (i := 16) rfl))) (mvT hZ (hw _ (List.mem_of_getElem? (i := 17) rfl))) (mvT hZ (hw _ (List.mem_of_getElem? (i := 18) rfl))) (mvT hZ (hw _ (List.mem_of_getElem? (i := 19) rfl))) (by decide) (backOf (W := 1) (rm2_1 l Z a0 hw [] ((w &&& (2147483647 : Int32)) - (w &&& (2147483647 : Int32)) / (3 : Int32) * (3 : Int32)) ((10 : Int32) + (q &&& (15 : Int32))) s_FAILURE s_SUCCESS_WITH_CONSEQUENCE s_SUCCESS h0 n0 O S_s_FAILURE S_s_SUCCESS_WITH_CONSEQUENCE S_s_SUCCESS hc8_2 hc19_10) hZ (hw _ (List.mem_of_getElem? (i := 19) rfl)) (hw _ (List.mem_of_getElem? (i := 18) rfl)) (by decide) (by decide)) (g := (mkF m 74 (own_F5 w i q ((w &&& (2147483647 : Int32)) - (w &&& (2147483647 : Int32)) / (3 : Int32) * (3 : Int32)) s_MEDIUM ((10 : Int32) + (q &&& (15 : Int32))) (own_tier i s_FAILURE s_SUCCESS_WITH_CONSEQUENCE s_SUCCESS) (own_tier ((10 : Int32) + (q &&& (15 : Int32))) s_FAILURE s_SUCCESS_WITH_CONSEQUENCE s_SUCCESS)) [(.int ((10 : Int32) + (q &&& (15 : Int32)))), (.int ((w &&& (2147483647 : Int32)) - (w &&& (2147483647 : Int32)) / (3 : Int32) * (3 : Int32))), (.ref (own_tier ((10 : Int32) + (q &&& (15 : Int32))) s_FAILURE s_SUCCESS_WITH_CONSEQUENCE s_SUCCESS))])) rfl (by rw [hml]; rfl) (argsL := [(.int ((w &&& (2147483647 : Int32)) - (w &&& (2147483647 : Int32)) / (3 : Int32) * (3 : Int32))), (.int ((10 : Int32) + (q &&& (15 : Int32))))]) (rest := [(.ref (own_tier ((10 : Int32) + (q &&& (15 : Int32))) s_FAILURE s_SUCCESS_WITH_CONSEQUENCE s_SUCCESS))]) (lenOf pd__40II_41Lcom_47example_47hantei_47hantei_47packs_47powerroll_47Outcome_59 rfl) rfl (by show 2 * 0 + _ ≤ _; exact Nat.le_of_eq rfl) (hb hby at_74) (fun _ _ => ⟨rfl, eh14, (by decide : 0 + 0 ≤ _), (by decide : 0 + 0 ≤ _)⟩)
      dsimp only [Pt.U, Pt.locs, Pt.cells, Pt.slots] at X15 l15 y15 z15 st15 hQ15
      subst l15 y15 z15
      obtain ⟨rfl, N15q, eh15⟩ := hQ15
      have N15 := Fr.app N14 N15q
      have w16 : ∀ t, Steps p.tables e below (T15.setTop (mkF m 85 (own_F5 w i q ((w &&& (2147483647 : Int32)) - (w &&& (2147483647 : Int32)) / (3 : Int32) * (3 : Int32)) s_MEDIUM ((10 : Int32) + (q &&& (15 : Int32))) (own_tier i s_FAILURE s_SUCCESS_WITH_CONSEQUENCE s_SUCCESS) (own_tier ((10 : Int32) + (q &&& (15 : Int32))) s_FAILURE s_SUCCESS_WITH_CONSEQUENCE s_SUCCESS)) [(.int (1 : Int32))])) t → Steps p.tables e below (s₁.setTop (entryFrame m #[(.int w), (.int i), (.int q)] maxLocals)) t := fun t k => by
        refine w9 t ?_
        refine XS.icmpNo X0.here hx rfl (hb hby at_19) rfl (teq hc19_10).2 ?_
        show Steps p.tables e below (s₁.setTop (mkF m 22 (own_F1 w i q ((w &&& (2147483647 : Int32)) - (w &&& (2147483647 : Int32)) / (3 : Int32) * (3 : Int32))) [])) _
        refine st11 _ ?_
        show Steps p.tables e below (T11.setTop (mkF m 25 (own_F1 w i q ((w &&& (2147483647 : Int32)) - (w &&& (2147483647 : Int32)) / (3 : Int32) * (3 : Int32))) [(.ref s_MEDIUM)])) _
        refine XS.goto X11.here hx rfl (pc0 := 25) (pc' := 31) rfl (hb hby at_25) (by decide) (by decide) ?_
        show Steps p.tables e below (T11.setTop (mkF m 31 (own_F1 w i q ((w &&& (2147483647 : Int32)) - (w &&& (2147483647 : Int32)) / (3 : Int32) * (3 : Int32))) [(.ref s_MEDIUM)])) _
        refine XS.astore X11.here hx rfl (hb hby at_31) rfl rfl (l' := (own_F2 w i q ((w &&& (2147483647 : Int32)) - (w &&& (2147483647 : Int32)) / (3 : Int32) * (3 : Int32)) s_MEDIUM)) rfl ?_
        show Steps p.tables e below (T11.setTop (mkF m 33 (own_F2 w i q ((w &&& (2147483647 : Int32)) - (w &&& (2147483647 : Int32)) / (3 : Int32) * (3 : Int32)) s_MEDIUM) [])) _
        refine XS.bipush X11.here hx rfl (hb hby at_33) ?_
        show Steps p.tables e below (T11.setTop (mkF m 35 (own_F2 w i q ((w &&& (2147483647 : Int32)) - (w &&& (2147483647 : Int32)) / (3 : Int32) * (3 : Int32)) s_MEDIUM) [(.int (10 : Int32))])) _
        refine XS.iloadN X11.here hx rfl (hb hby at_35) rfl ?_
        show Steps p.tables e below (T11.setTop (mkF m 36 (own_F2 w i q ((w &&& (2147483647 : Int32)) - (w &&& (2147483647 : Int32)) / (3 : Int32) * (3 : Int32)) s_MEDIUM) [(.int q), (.int (10 : Int32))])) _
        refine XS.bipush X11.here hx rfl (hb hby at_36) ?_
        show Steps p.tables e below (T11.setTop (mkF m 38 (own_F2 w i q ((w &&& (2147483647 : Int32)) - (w &&& (2147483647 : Int32)) / (3 : Int32) * (3 : Int32)) s_MEDIUM) [(.int (15 : Int32)), (.int q), (.int (10 : Int32))])) _
        refine XS.iand X11.here hx rfl (hb hby at_38) rfl ?_
        show Steps p.tables e below (T11.setTop (mkF m 39 (own_F2 w i q ((w &&& (2147483647 : Int32)) - (w &&& (2147483647 : Int32)) / (3 : Int32) * (3 : Int32)) s_MEDIUM) [(.int (q &&& (15 : Int32))), (.int (10 : Int32))])) _
        refine XS.iadd X11.here hx rfl (hb hby at_39) rfl ?_
        show Steps p.tables e below (T11.setTop (mkF m 40 (own_F2 w i q ((w &&& (2147483647 : Int32)) - (w &&& (2147483647 : Int32)) / (3 : Int32) * (3 : Int32)) s_MEDIUM) [(.int ((10 : Int32) + (q &&& (15 : Int32))))])) _
        refine XS.istore X11.here hx rfl (hb hby at_40) rfl (l' := (own_F3 w i q ((w &&& (2147483647 : Int32)) - (w &&& (2147483647 : Int32)) / (3 : Int32) * (3 : Int32)) s_MEDIUM ((10 : Int32) + (q &&& (15 : Int32))))) rfl ?_
        show Steps p.tables e below (T11.setTop (mkF m 42 (own_F3 w i q ((w &&& (2147483647 : Int32)) - (w &&& (2147483647 : Int32)) / (3 : Int32) * (3 : Int32)) s_MEDIUM ((10 : Int32) + (q &&& (15 : Int32)))) [])) _
        refine XS.aload X11.here hx rfl (hb hby at_42) rfl rfl ?_
        show Steps p.tables e below (T11.setTop (mkF m 44 (own_F3 w i q ((w &&& (2147483647 : Int32)) - (w &&& (2147483647 : Int32)) / (3 : Int32) * (3 : Int32)) s_MEDIUM ((10 : Int32) + (q &&& (15 : Int32)))) [(.ref s_MEDIUM)])) _
        refine XS.iloadN X11.here hx rfl (hb hby at_44) rfl ?_
        show Steps p.tables e below (T11.setTop (mkF m 45 (own_F3 w i q ((w &&& (2147483647 : Int32)) - (w &&& (2147483647 : Int32)) / (3 : Int32) * (3 : Int32)) s_MEDIUM ((10 : Int32) + (q &&& (15 : Int32)))) [(.int i), (.ref s_MEDIUM)])) _
        refine st12.trans ?_
        show Steps p.tables e below (T12.setTop (mkF m 48 (own_F3 w i q ((w &&& (2147483647 : Int32)) - (w &&& (2147483647 : Int32)) / (3 : Int32) * (3 : Int32)) s_MEDIUM ((10 : Int32) + (q &&& (15 : Int32)))) [(.ref (own_tier i s_FAILURE s_SUCCESS_WITH_CONSEQUENCE s_SUCCESS))])) _
        refine XS.astore X12.here hx rfl (hb hby at_48) rfl rfl (l' := (own_F4 w i q ((w &&& (2147483647 : Int32)) - (w &&& (2147483647 : Int32)) / (3 : Int32) * (3 : Int32)) s_MEDIUM ((10 : Int32) + (q &&& (15 : Int32))) (own_tier i s_FAILURE s_SUCCESS_WITH_CONSEQUENCE s_SUCCESS))) rfl ?_
        show Steps p.tables e below (T12.setTop (mkF m 50 (own_F4 w i q ((w &&& (2147483647 : Int32)) - (w &&& (2147483647 : Int32)) / (3 : Int32) * (3 : Int32)) s_MEDIUM ((10 : Int32) + (q &&& (15 : Int32))) (own_tier i s_FAILURE s_SUCCESS_WITH_CONSEQUENCE s_SUCCESS)) [])) _
        refine XS.aload X12.here hx rfl (hb hby at_50) rfl rfl ?_
        show Steps p.tables e below (T12.setTop (mkF m 52 (own_F4 w i q ((w &&& (2147483647 : Int32)) - (w &&& (2147483647 : Int32)) / (3 : Int32) * (3 : Int32)) s_MEDIUM ((10 : Int32) + (q &&& (15 : Int32))) (own_tier i s_FAILURE s_SUCCESS_WITH_CONSEQUENCE s_SUCCESS)) [(.ref s_MEDIUM)])) _
        refine XS.iload X12.here hx rfl (hb hby at_52) rfl ?_
        show Steps p.tables e below (T12.setTop (mkF m 54 (own_F4 w i q ((w &&& (2147483647 : Int32)) - (w &&& (2147483647 : Int32)) / (3 : Int32) * (3 : Int32)) s_MEDIUM ((10 : Int32) + (q &&& (15 : Int32))) (own_tier i s_FAILURE s_SUCCESS_WITH_CONSEQUENCE s_SUCCESS)) [(.int ((10 : Int32) + (q &&& (15 : Int32)))), (.ref s_MEDIUM)])) _
        refine st13.trans ?_
        show Steps p.tables e below (T13.setTop (mkF m 57 (own_F4 w i q ((w &&& (2147483647 : Int32)) - (w &&& (2147483647 : Int32)) / (3 : Int32) * (3 : Int32)) s_MEDIUM ((10 : Int32) + (q &&& (15 : Int32))) (own_tier i s_FAILURE s_SUCCESS_WITH_CONSEQUENCE s_SUCCESS)) [(.ref (own_tier ((10 : Int32) + (q &&& (15 : Int32))) s_FAILURE s_SUCCESS_WITH_CONSEQUENCE s_SUCCESS))])) _
        refine XS.astore X13.here hx rfl (hb hby at_57) rfl rfl (l' := (own_F5 w i q ((w &&& (2147483647 : Int32)) - (w &&& (2147483647 : Int32)) / (3 : Int32) * (3 : Int32)) s_MEDIUM ((10 : Int32) + (q &&& (15 : Int32))) (own_tier i s_FAILURE s_SUCCESS_WITH_CONSEQUENCE s_SUCCESS) (own_tier ((10 : Int32) + (q &&& (15 : Int32))) s_FAILURE s_SUCCESS_WITH_CONSEQUENCE s_SUCCESS))) rfl ?_
        show Steps p.tables e below (T13.setTop (mkF m 59 (own_F5 w i q ((w &&& (2147483647 : Int32)) - (w &&& (2147483647 : Int32)) / (3 : Int32) * (3 : Int32)) s_MEDIUM ((10 : Int32) + (q &&& (15 : Int32))) (own_tier i s_FAILURE s_SUCCESS_WITH_CONSEQUENCE s_SUCCESS) (own_tier ((10 : Int32) + (q &&& (15 : Int32))) s_FAILURE s_SUCCESS_WITH_CONSEQUENCE s_SUCCESS)) [])) _
        refine XS.aload X13.here hx rfl (hb hby at_59) rfl rfl ?_
        show Steps p.tables e below (T13.setTop (mkF m 61 (own_F5 w i q ((w &&& (2147483647 : Int32)) - (w &&& (2147483647 : Int32)) / (3 : Int32) * (3 : Int32)) s_MEDIUM ((10 : Int32) + (q &&& (15 : Int32))) (own_tier i s_FAILURE s_SUCCESS_WITH_CONSEQUENCE s_SUCCESS) (own_tier ((10 : Int32) + (q &&& (15 : Int32))) s_FAILURE s_SUCCESS_WITH_CONSEQUENCE s_SUCCESS)) [(.ref (own_tier i s_FAILURE s_SUCCESS_WITH_CONSEQUENCE s_SUCCESS))])) _
        refine XS.iloadN X13.here hx rfl (hb hby at_61) rfl ?_
        show Steps p.tables e below (T13.setTop (mkF m 62 (own_F5 w i q ((w &&& (2147483647 : Int32)) - (w &&& (2147483647 : Int32)) / (3 : Int32) * (3 : Int32)) s_MEDIUM ((10 : Int32) + (q &&& (15 : Int32))) (own_tier i s_FAILURE s_SUCCESS_WITH_CONSEQUENCE s_SUCCESS) (own_tier ((10 : Int32) + (q &&& (15 : Int32))) s_FAILURE s_SUCCESS_WITH_CONSEQUENCE s_SUCCESS)) [(.int ((w &&& (2147483647 : Int32)) - (w &&& (2147483647 : Int32)) / (3 : Int32) * (3 : Int32))), (.ref (own_tier i s_FAILURE s_SUCCESS_WITH_CONSEQUENCE s_SUCCESS))])) _
        refine XS.iloadN X13.here hx rfl (hb hby at_62) rfl ?_
        show Steps p.tables e below (T13.setTop (mkF m 63 (own_F5 w i q ((w &&& (2147483647 : Int32)) - (w &&& (2147483647 : Int32)) / (3 : Int32) * (3 : Int32)) s_MEDIUM ((10 : Int32) + (q &&& (15 : Int32))) (own_tier i s_FAILURE s_SUCCESS_WITH_CONSEQUENCE s_SUCCESS) (own_tier ((10 : Int32) + (q &&& (15 : Int32))) s_FAILURE s_SUCCESS_WITH_CONSEQUENCE s_SUCCESS)) [(.int i), (.int ((w &&& (2147483647 : Int32)) - (w &&& (2147483647 : Int32)) / (3 : Int32) * (3 : Int32))), (.ref (own_tier i s_FAILURE s_SUCCESS_WITH_CONSEQUENCE s_SUCCESS))])) _
        refine st14 _ ?_
        show Steps p.tables e below (T14.setTop (mkF m 66 (own_F5 w i q ((w &&& (2147483647 : Int32)) - (w &&& (2147483647 : Int32)) / (3 : Int32) * (3 : Int32)) s_MEDIUM ((10 : Int32) + (q &&& (15 : Int32))) (own_tier i s_FAILURE s_SUCCESS_WITH_CONSEQUENCE s_SUCCESS) (own_tier ((10 : Int32) + (q &&& (15 : Int32))) s_FAILURE s_SUCCESS_WITH_CONSEQUENCE s_SUCCESS)) [(.ref (own_tier i s_FAILURE s_SUCCESS_WITH_CONSEQUENCE s_SUCCESS)), (.ref (own_tier i s_FAILURE s_SUCCESS_WITH_CONSEQUENCE s_SUCCESS))])) _
        refine Jvm.RoadKit.acmp (g := (mkF m 66 (own_F5 w i q ((w &&& (2147483647 : Int32)) - (w &&& (2147483647 : Int32)) / (3 : Int32) * (3 : Int32)) s_MEDIUM ((10 : Int32) + (q &&& (15 : Int32))) (own_tier i s_FAILURE s_SUCCESS_WITH_CONSEQUENCE s_SUCCESS) (own_tier ((10 : Int32) + (q &&& (15 : Int32))) s_FAILURE s_SUCCESS_WITH_CONSEQUENCE s_SUCCESS)) [(.ref (own_tier i s_FAILURE s_SUCCESS_WITH_CONSEQUENCE s_SUCCESS)), (.ref (own_tier i s_FAILURE s_SUCCESS_WITH_CONSEQUENCE s_SUCCESS))])) X14 hx rfl rfl rfl (pc0 := 66) (pc' := 69) (same := true) rfl (hb hby at_66) rfl (decide_eq_true rfl) (by decide) (by decide) ?_
        show Steps p.tables e below (T14.setTop (mkF m 69 (own_F5 w i q ((w &&& (2147483647 : Int32)) - (w &&& (2147483647 : Int32)) / (3 : Int32) * (3 : Int32)) s_MEDIUM ((10 : Int32) + (q &&& (15 : Int32))) (own_tier i s_FAILURE s_SUCCESS_WITH_CONSEQUENCE s_SUCCESS) (own_tier ((10 : Int32) + (q &&& (15 : Int32))) s_FAILURE s_SUCCESS_WITH_CONSEQUENCE s_SUCCESS)) [])) _
        refine XS.aload X14.here hx rfl (hb hby at_69) rfl rfl ?_
        show Steps p.tables e below (T14.setTop (mkF m 71 (own_F5 w i q ((w &&& (2147483647 : Int32)) - (w &&& (2147483647 : Int32)) / (3 : Int32) * (3 : Int32)) s_MEDIUM ((10 : Int32) + (q &&& (15 : Int32))) (own_tier i s_FAILURE s_SUCCESS_WITH_CONSEQUENCE s_SUCCESS) (own_tier ((10 : Int32) + (q &&& (15 : Int32))) s_FAILURE s_SUCCESS_WITH_CONSEQUENCE s_SUCCESS)) [(.ref (own_tier ((10 : Int32) + (q &&& (15 : Int32))) s_FAILURE s_SUCCESS_WITH_CONSEQUENCE s_SUCCESS))])) _
        refine XS.iloadN X14.here hx rfl (hb hby at_71) rfl ?_
        show Steps p.tables e below (T14.setTop (mkF m 72 (own_F5 w i q ((w &&& (2147483647 : Int32)) - (w &&& (2147483647 : Int32)) / (3 : Int32) * (3 : Int32)) s_MEDIUM ((10 : Int32) + (q &&& (15 : Int32))) (own_tier i s_FAILURE s_SUCCESS_WITH_CONSEQUENCE s_SUCCESS) (own_tier ((10 : Int32) + (q &&& (15 : Int32))) s_FAILURE s_SUCCESS_WITH_CONSEQUENCE s_SUCCESS)) [(.int ((w &&& (2147483647 : Int32)) - (w &&& (2147483647 : Int32)) / (3 : Int32) * (3 : Int32))), (.ref (own_tier ((10 : Int32) + (q &&& (15 : Int32))) s_FAILURE s_SUCCESS_WITH_CONSEQUENCE s_SUCCESS))])) _
        refine XS.iload X14.here hx rfl (hb hby at_72) rfl ?_
        show Steps p.tables e below (T14.setTop (mkF m 74 (own_F5 w i q ((w &&& (2147483647 : Int32)) - (w &&& (2147483647 : Int32)) / (3 : Int32) * (3 : Int32)) s_MEDIUM ((10 : Int32) + (q &&& (15 : Int32))) (own_tier i s_FAILURE s_SUCCESS_WITH_CONSEQUENCE s_SUCCESS) (own_tier ((10 : Int32) + (q &&& (15 : Int32))) s_FAILURE s_SUCCESS_WITH_CONSEQUENCE s_SUCCESS)) [(.int ((10 : Int32) + (q &&& (15 : Int32)))), (.int ((w &&& (2147483647 : Int32)) - (w &&& (2147483647 : Int32)) / (3 : Int32) * (3 : Int32))), (.ref (own_tier ((10 : Int32) + (q &&& (15 : Int32))) s_FAILURE s_SUCCESS_WITH_CONSEQUENCE s_SUCCESS))])) _
        refine st15 _ ?_
        show Steps p.tables e below (T15.setTop (mkF m 77 (own_F5 w i q ((w &&& (2147483647 : Int32)) - (w &&& (2147483647 : Int32)) / (3 : Int32) * (3 : Int32)) s_MEDIUM ((10 : Int32) + (q &&& (15 : Int32))) (own_tier i s_FAILURE s_SUCCESS_WITH_CONSEQUENCE s_SUCCESS) (own_tier ((10 : Int32) + (q &&& (15 : Int32))) s_FAILURE s_SUCCESS_WITH_CONSEQUENCE s_SUCCESS)) [(.ref (own_tier ((10 : Int32) + (q &&& (15 : Int32))) s_FAILURE s_SUCCESS_WITH_CONSEQUENCE s_SUCCESS)), (.ref (own_tier ((10 : Int32) + (q &&& (15 : Int32))) s_FAILURE s_SUCCESS_WITH_CONSEQUENCE s_SUCCESS))])) _
        refine Jvm.RoadKit.acmp (g := (mkF m 77 (own_F5 w i q ((w &&& (2147483647 : Int32)) - (w &&& (2147483647 : Int32)) / (3 : Int32) * (3 : Int32)) s_MEDIUM ((10 : Int32) + (q &&& (15 : Int32))) (own_tier i s_FAILURE s_SUCCESS_WITH_CONSEQUENCE s_SUCCESS) (own_tier ((10 : Int32) + (q &&& (15 : Int32))) s_FAILURE s_SUCCESS_WITH_CONSEQUENCE s_SUCCESS)) [(.ref (own_tier ((10 : Int32) + (q &&& (15 : Int32))) s_FAILURE s_SUCCESS_WITH_CONSEQUENCE s_SUCCESS)), (.ref (own_tier ((10 : Int32) + (q &&& (15 : Int32))) s_FAILURE s_SUCCESS_WITH_CONSEQUENCE s_SUCCESS))])) X15 hx rfl rfl rfl (pc0 := 77) (pc' := 80) (same := true) rfl (hb hby at_77) rfl (decide_eq_true rfl) (by decide) (by decide) ?_
        show Steps p.tables e below (T15.setTop (mkF m 80 (own_F5 w i q ((w &&& (2147483647 : Int32)) - (w &&& (2147483647 : Int32)) / (3 : Int32) * (3 : Int32)) s_MEDIUM ((10 : Int32) + (q &&& (15 : Int32))) (own_tier i s_FAILURE s_SUCCESS_WITH_CONSEQUENCE s_SUCCESS) (own_tier ((10 : Int32) + (q &&& (15 : Int32))) s_FAILURE s_SUCCESS_WITH_CONSEQUENCE s_SUCCESS)) [])) _
        refine XS.iconst X15.here hx rfl (hb hby at_80) ?_
        show Steps p.tables e below (T15.setTop (mkF m 81 (own_F5 w i q ((w &&& (2147483647 : Int32)) - (w &&& (2147483647 : Int32)) / (3 : Int32) * (3 : Int32)) s_MEDIUM ((10 : Int32) + (q &&& (15 : Int32))) (own_tier i s_FAILURE s_SUCCESS_WITH_CONSEQUENCE s_SUCCESS) (own_tier ((10 : Int32) + (q &&& (15 : Int32))) s_FAILURE s_SUCCESS_WITH_CONSEQUENCE s_SUCCESS)) [(.int (1 : Int32))])) _
        refine XS.goto X15.here hx rfl (pc0 := 81) (pc' := 85) rfl (hb hby at_81) (by decide) (by decide) ?_
        show Steps p.tables e below (T15.setTop (mkF m 85 (own_F5 w i q ((w &&& (2147483647 : Int32)) - (w &&& (2147483647 : Int32)) / (3 : Int32) * (3 : Int32)) s_MEDIUM ((10 : Int32) + (q &&& (15 : Int32))) (own_tier i s_FAILURE s_SUCCESS_WITH_CONSEQUENCE s_SUCCESS) (own_tier ((10 : Int32) + (q &&& (15 : Int32))) s_FAILURE s_SUCCESS_WITH_CONSEQUENCE s_SUCCESS)) [(.int (1 : Int32))])) _
        exact k
      obtain ⟨fs, hr, hrun, hended, hW, hsame⟩ := X15.leave (v := some (.int (1 : Int32))) (fun h => by rw [Bd.returns] at h; cases h)
      refine ⟨_, _, w16 _ ?_, hrun, hended, _, _, rfl, ?_, ⟨_, rfl⟩, hW, hsame.mono (by decide) (by decide)⟩
      · exact retN X15 hx (t := .boolean) Bd.returns (by simp) (hb hby at_85) hr
      · show Q0 Z w i q s_EASY s_SUCCESS_WITH_CONSEQUENCE s_SUCCESS s_SUCCESS_WITH_REWARD s_MEDIUM s_FAILURE s_HARD s_FAILURE_WITH_CONSEQUENCE h0 n0 _ T15.heap _
        rw [eh15]
        exact ⟨rfl, N15, rfl⟩
    · obtain ⟨T17, X17, e17, st17⟩ := getS2 X0 hx hZ hown (host := "") (Or.inl (hw _ (List.mem_of_getElem? (i := 24) rfl))) Via.refl e0 (S_s_HARD.ext O.2) (g := (mkF m 28 (own_F1 w i q ((w &&& (2147483647 : Int32)) - (w &&& (2147483647 : Int32)) / (3 : Int32) * (3 : Int32))) [])) rfl (hb hby at_28)
      obtain ⟨cq18, kq18, q18a, q18b, q18c⟩ := isOf hZ e17 E_s_HARD
      obtain ⟨_, _, ⟨T18, L18, k18, n18⟩, -, X18, ⟨Lc18, hQ18, l18, y18, z18⟩, st18⟩ := X17.virtualBack hx (y := (⟨"com/example/hantei/hantei/packs/powerroll/Difficulty", "outcome", "(I)Lcom/example/hantei/hantei/packs/powerroll/Outcome;"⟩ : MethodName)) (z := (⟨"com/example/hantei/hantei/packs/powerroll/Difficulty", "outcome", "(I)Lcom/example/hantei/hantei/packs/powerroll/Outcome;"⟩ : MethodName)) hown (mvT hZ (hw _ (List.mem_of_getElem? (i := 4) rfl))) (mvT hZ (hw _ (List.mem_of_getElem? (i := 5) rfl))) (notFace_of_selects (args := #[]) (mvT hZ (hw _ (List.mem_of_getElem? (i := 7) rfl)))) (mvT hZ (hw _ (List.mem_of_getElem? (i := 7) rfl))) (mvT hZ (hw _ (List.mem_of_getElem? (i := 6) rfl))) (by decide) (backOf (W := 0) (rm1 l Z a0 hw [] s_HARD i s_FAILURE_WITH_CONSEQUENCE s_FAILURE s_SUCCESS h0 n0 O F_tierOne_s_HARD F_tierTwo_s_HARD F_tierThree_s_HARD) hZ (hw _ (List.mem_of_getElem? (i := 8) rfl)) (hw _ (List.mem_of_getElem? (i := 2) rfl)) (by decide) (by decide)) q18a q18c (g := (mkF m 45 (own_F3 w i q ((w &&& (2147483647 : Int32)) - (w &&& (2147483647 : Int32)) / (3 : Int32) * (3 : Int32)) s_HARD ((10 : Int32) + (q &&& (15 : Int32)))) [(.int i), (.ref s_HARD)])) rfl (by rw [hml]; rfl) (Steps.refl _) (argsL := [(.int i)]) (rest := []) (lenOf pd__40I_41Lcom_47example_47hantei_47hantei_47packs_47powerroll_47Outcome_59 rfl) rfl (by show 2 * 0 + _ ≤ _; exact Nat.le_of_eq rfl) (hb hby at_45) (fun _ _ => ⟨rfl, e17, (by decide : 0 + 0 ≤ _), (by decide : 0 + 0 ≤ _)⟩)
      dsimp only [Pt.U, Pt.locs, Pt.cells, Pt.slots] at X18 l18 y18 z18 st18 hQ18
      subst l18 y18 z18
      obtain ⟨rfl, N18q, eh18⟩ := hQ18
      have N18 := Fr.app N0 N18q
      obtain ⟨cq19, kq19, q19a, q19b, q19c⟩ := isOf hZ eh18 E_s_HARD
      obtain ⟨_, _, ⟨T19, L19, k19, n19⟩, -, X19, ⟨Lc19, hQ19, l19, y19, z19⟩, st19⟩ := X18.virtualBack hx (y := (⟨"com/example/hantei/hantei/packs/powerroll/Difficulty", "outcome", "(I)Lcom/example/hantei/hantei/packs/powerroll/Outcome;"⟩ : MethodName)) (z := (⟨"com/example/hantei/hantei/packs/powerroll/Difficulty", "outcome", "(I)Lcom/example/hantei/hantei/packs/powerroll/Outcome;"⟩ : MethodName)) hown (mvT hZ (hw _ (List.mem_of_getElem? (i := 4) rfl))) (mvT hZ (hw _ (List.mem_of_getElem? (i := 5) rfl))) (notFace_of_selects (args := #[]) (mvT hZ (hw _ (List.mem_of_getElem? (i := 7) rfl)))) (mvT hZ (hw _ (List.mem_of_getElem? (i := 7) rfl))) (mvT hZ (hw _ (List.mem_of_getElem? (i := 6) rfl))) (by decide) (backOf (W := 0) (rm1 l Z a0 hw [] s_HARD ((10 : Int32) + (q &&& (15 : Int32))) s_FAILURE_WITH_CONSEQUENCE s_FAILURE s_SUCCESS h0 n0 O F_tierOne_s_HARD F_tierTwo_s_HARD F_tierThree_s_HARD) hZ (hw _ (List.mem_of_getElem? (i := 8) rfl)) (hw _ (List.mem_of_getElem? (i := 2) rfl)) (by decide) (by decide)) q19a q19c (g := (mkF m 54 (own_F4 w i q ((w &&& (2147483647 : Int32)) - (w &&& (2147483647 : Int32)) / (3 : Int32) * (3 : Int32)) s_HARD ((10 : Int32) + (q &&& (15 : Int32))) (own_tier i s_FAILURE_WITH_CONSEQUENCE s_FAILURE s_SUCCESS)) [(.int ((10 : Int32) + (q &&& (15 : Int32)))), (.ref s_HARD)])) rfl (by rw [hml]; rfl) (Steps.refl _) (argsL := [(.int ((10 : Int32) + (q &&& (15 : Int32))))]) (rest := []) (lenOf pd__40I_41Lcom_47example_47hantei_47hantei_47packs_47powerroll_47Outcome_59 rfl) rfl (by show 2 * 0 + _ ≤ _; exact Nat.le_of_eq rfl) (hb hby at_54) (fun _ _ => ⟨rfl, eh18, (by decide : 0 + 0 ≤ _), (by decide : 0 + 0 ≤ _)⟩)
      dsimp only [Pt.U, Pt.locs, Pt.cells, Pt.slots] at X19 l19 y19 z19 st19 hQ19
      subst l19 y19 z19
      obtain ⟨rfl, N19q, eh19⟩ := hQ19
      have N19 := Fr.app N18 N19q
      obtain ⟨_, _, ⟨T20, L20, k20, n20⟩, -, X20, ⟨Lc20, hQ20, l20, y20, z20⟩, st20⟩ := Jvm.LawKit.callS X19 hx (y := (⟨"com/example/hantei/hantei/packs/powerroll/DifficultyOutcomePinLaw", "expected", "(II)Lcom/example/hantei/hantei/packs/powerroll/Outcome;"⟩ : MethodName)) hown (mvT hZ (hw _ (List.mem_of_getElem? (i := 16) rfl))) (mvT hZ (hw _ (List.mem_of_getElem? (i := 17) rfl))) (mvT hZ (hw _ (List.mem_of_getElem? (i := 18) rfl))) (mvT hZ (hw _ (List.mem_of_getElem? (i := 19) rfl))) (by decide) (backOf (W := 1) (rm2_2 l Z a0 hw [] ((w &&& (2147483647 : Int32)) - (w &&& (2147483647 : Int32)) / (3 : Int32) * (3 : Int32)) i s_FAILURE_WITH_CONSEQUENCE s_FAILURE s_SUCCESS h0 n0 O S_s_FAILURE_WITH_CONSEQUENCE S_s_FAILURE S_s_SUCCESS hc8_2 hc19_10) hZ (hw _ (List.mem_of_getElem? (i := 19) rfl)) (hw _ (List.mem_of_getElem? (i := 18) rfl)) (by decide) (by decide)) (g := (mkF m 63 (own_F5 w i q ((w &&& (2147483647 : Int32)) - (w &&& (2147483647 : Int32)) / (3 : Int32) * (3 : Int32)) s_HARD ((10 : Int32) + (q &&& (15 : Int32))) (own_tier i s_FAILURE_WITH_CONSEQUENCE s_FAILURE s_SUCCESS) (own_tier ((10 : Int32) + (q &&& (15 : Int32))) s_FAILURE_WITH_CONSEQUENCE s_FAILURE s_SUCCESS)) [(.int i), (.int ((w &&& (2147483647 : Int32)) - (w &&& (2147483647 : Int32)) / (3 : Int32) * (3 : Int32))), (.ref (own_tier i s_FAILURE_WITH_CONSEQUENCE s_FAILURE s_SUCCESS))])) rfl (by rw [hml]; rfl) (argsL := [(.int ((w &&& (2147483647 : Int32)) - (w &&& (2147483647 : Int32)) / (3 : Int32) * (3 : Int32))), (.int i)]) (rest := [(.ref (own_tier i s_FAILURE_WITH_CONSEQUENCE s_FAILURE s_SUCCESS))]) (lenOf pd__40II_41Lcom_47example_47hantei_47hantei_47packs_47powerroll_47Outcome_59 rfl) rfl (by show 2 * 0 + _ ≤ _; exact Nat.le_of_eq rfl) (hb hby at_63) (fun _ _ => ⟨rfl, eh19, (by decide : 0 + 0 ≤ _), (by decide : 0 + 0 ≤ _)⟩)
      dsimp only [Pt.U, Pt.locs, Pt.cells, Pt.slots] at X20 l20 y20 z20 st20 hQ20
      subst l20 y20 z20
      obtain ⟨rfl, N20q, eh20⟩ := hQ20
      have N20 := Fr.app N19 N20q
      obtain ⟨_, _, ⟨T21, L21, k21, n21⟩, -, X21, ⟨Lc21, hQ21, l21, y21, z21⟩, st21⟩ := Jvm.LawKit.callS X20 hx (y := (⟨"com/example/hantei/hantei/packs/powerroll/DifficultyOutcomePinLaw", "expected", "(II)Lcom/example/hantei/hantei/packs/powerroll/Outcome;"⟩ : MethodName)) hown (mvT hZ (hw _ (List.mem_of_getElem? (i := 16) rfl))) (mvT hZ (hw _ (List.mem_of_getElem? (i := 17) rfl))) (mvT hZ (hw _ (List.mem_of_getElem? (i := 18) rfl))) (mvT hZ (hw _ (List.mem_of_getElem? (i := 19) rfl))) (by decide) (backOf (W := 1) (rm2_2 l Z a0 hw [] ((w &&& (2147483647 : Int32)) - (w &&& (2147483647 : Int32)) / (3 : Int32) * (3 : Int32)) ((10 : Int32) + (q &&& (15 : Int32))) s_FAILURE_WITH_CONSEQUENCE s_FAILURE s_SUCCESS h0 n0 O S_s_FAILURE_WITH_CONSEQUENCE S_s_FAILURE S_s_SUCCESS hc8_2 hc19_10) hZ (hw _ (List.mem_of_getElem? (i := 19) rfl)) (hw _ (List.mem_of_getElem? (i := 18) rfl)) (by decide) (by decide)) (g := (mkF m 74 (own_F5 w i q ((w &&& (2147483647 : Int32)) - (w &&& (2147483647 : Int32)) / (3 : Int32) * (3 : Int32)) s_HARD ((10 : Int32) + (q &&& (15 : Int32))) (own_tier i s_FAILURE_WITH_CONSEQUENCE s_FAILURE s_SUCCESS) (own_tier ((10 : Int32) + (q &&& (15 : Int32))) s_FAILURE_WITH_CONSEQUENCE s_FAILURE s_SUCCESS)) [(.int ((10 : Int32) + (q &&& (15 : Int32)))), (.int ((w &&& (2147483647 : Int32)) - (w &&& (2147483647 : Int32)) / (3 : Int32) * (3 : Int32))), (.ref (own_tier ((10 : Int32) + (q &&& (15 : Int32))) s_FAILURE_WITH_CONSEQUENCE s_FAILURE s_SUCCESS))])) rfl (by rw [hml]; rfl) (argsL := [(.int ((w &&& (2147483647 : Int32)) - (w &&& (2147483647 : Int32)) / (3 : Int32) * (3 : Int32))), (.int ((10 : Int32) + (q &&& (15 : Int32))))]) (rest := [(.ref (own_tier ((10 : Int32) + (q &&& (15 : Int32))) s_FAILURE_WITH_CONSEQUENCE s_FAILURE s_SUCCESS))]) (lenOf pd__40II_41Lcom_47example_47hantei_47hantei_47packs_47powerroll_47Outcome_59 rfl) rfl (by show 2 * 0 + _ ≤ _; exact Nat.le_of_eq rfl) (hb hby at_74) (fun _ _ => ⟨rfl, eh20, (by decide : 0 + 0 ≤ _), (by decide : 0 + 0 ≤ _)⟩)
      dsimp only [Pt.U, Pt.locs, Pt.cells, Pt.slots] at X21 l21 y21 z21 st21 hQ21
      subst l21 y21 z21
      obtain ⟨rfl, N21q, eh21⟩ := hQ21
      have N21 := Fr.app N20 N21q
      have w22 : ∀ t, Steps p.tables e below (T21.setTop (mkF m 85 (own_F5 w i q ((w &&& (2147483647 : Int32)) - (w &&& (2147483647 : Int32)) / (3 : Int32) * (3 : Int32)) s_HARD ((10 : Int32) + (q &&& (15 : Int32))) (own_tier i s_FAILURE_WITH_CONSEQUENCE s_FAILURE s_SUCCESS) (own_tier ((10 : Int32) + (q &&& (15 : Int32))) s_FAILURE_WITH_CONSEQUENCE s_FAILURE s_SUCCESS)) [(.int (1 : Int32))])) t → Steps p.tables e below (s₁.setTop (entryFrame m #[(.int w), (.int i), (.int q)] maxLocals)) t := fun t k => by
        refine w9 t ?_
        refine XS.icmpYes X0.here hx rfl (pc0 := 19) (pc' := 28) rfl (hb hby at_19) rfl (feq hc19_10).2 (by decide) (by decide) ?_
        show Steps p.tables e below (s₁.setTop (mkF m 28 (own_F1 w i q ((w &&& (2147483647 : Int32)) - (w &&& (2147483647 : Int32)) / (3 : Int32) * (3 : Int32))) [])) _
        refine st17 _ ?_
        show Steps p.tables e below (T17.setTop (mkF m 31 (own_F1 w i q ((w &&& (2147483647 : Int32)) - (w &&& (2147483647 : Int32)) / (3 : Int32) * (3 : Int32))) [(.ref s_HARD)])) _
        refine XS.astore X17.here hx rfl (hb hby at_31) rfl rfl (l' := (own_F2 w i q ((w &&& (2147483647 : Int32)) - (w &&& (2147483647 : Int32)) / (3 : Int32) * (3 : Int32)) s_HARD)) rfl ?_
        show Steps p.tables e below (T17.setTop (mkF m 33 (own_F2 w i q ((w &&& (2147483647 : Int32)) - (w &&& (2147483647 : Int32)) / (3 : Int32) * (3 : Int32)) s_HARD) [])) _
        refine XS.bipush X17.here hx rfl (hb hby at_33) ?_
        show Steps p.tables e below (T17.setTop (mkF m 35 (own_F2 w i q ((w &&& (2147483647 : Int32)) - (w &&& (2147483647 : Int32)) / (3 : Int32) * (3 : Int32)) s_HARD) [(.int (10 : Int32))])) _
        refine XS.iloadN X17.here hx rfl (hb hby at_35) rfl ?_
        show Steps p.tables e below (T17.setTop (mkF m 36 (own_F2 w i q ((w &&& (2147483647 : Int32)) - (w &&& (2147483647 : Int32)) / (3 : Int32) * (3 : Int32)) s_HARD) [(.int q), (.int (10 : Int32))])) _
        refine XS.bipush X17.here hx rfl (hb hby at_36) ?_
        show Steps p.tables e below (T17.setTop (mkF m 38 (own_F2 w i q ((w &&& (2147483647 : Int32)) - (w &&& (2147483647 : Int32)) / (3 : Int32) * (3 : Int32)) s_HARD) [(.int (15 : Int32)), (.int q), (.int (10 : Int32))])) _
        refine XS.iand X17.here hx rfl (hb hby at_38) rfl ?_
        show Steps p.tables e below (T17.setTop (mkF m 39 (own_F2 w i q ((w &&& (2147483647 : Int32)) - (w &&& (2147483647 : Int32)) / (3 : Int32) * (3 : Int32)) s_HARD) [(.int (q &&& (15 : Int32))), (.int (10 : Int32))])) _
        refine XS.iadd X17.here hx rfl (hb hby at_39) rfl ?_
        show Steps p.tables e below (T17.setTop (mkF m 40 (own_F2 w i q ((w &&& (2147483647 : Int32)) - (w &&& (2147483647 : Int32)) / (3 : Int32) * (3 : Int32)) s_HARD) [(.int ((10 : Int32) + (q &&& (15 : Int32))))])) _
        refine XS.istore X17.here hx rfl (hb hby at_40) rfl (l' := (own_F3 w i q ((w &&& (2147483647 : Int32)) - (w &&& (2147483647 : Int32)) / (3 : Int32) * (3 : Int32)) s_HARD ((10 : Int32) + (q &&& (15 : Int32))))) rfl ?_
        show Steps p.tables e below (T17.setTop (mkF m 42 (own_F3 w i q ((w &&& (2147483647 : Int32)) - (w &&& (2147483647 : Int32)) / (3 : Int32) * (3 : Int32)) s_HARD ((10 : Int32) + (q &&& (15 : Int32)))) [])) _
        refine XS.aload X17.here hx rfl (hb hby at_42) rfl rfl ?_
        show Steps p.tables e below (T17.setTop (mkF m 44 (own_F3 w i q ((w &&& (2147483647 : Int32)) - (w &&& (2147483647 : Int32)) / (3 : Int32) * (3 : Int32)) s_HARD ((10 : Int32) + (q &&& (15 : Int32)))) [(.ref s_HARD)])) _
        refine XS.iloadN X17.here hx rfl (hb hby at_44) rfl ?_
        show Steps p.tables e below (T17.setTop (mkF m 45 (own_F3 w i q ((w &&& (2147483647 : Int32)) - (w &&& (2147483647 : Int32)) / (3 : Int32) * (3 : Int32)) s_HARD ((10 : Int32) + (q &&& (15 : Int32)))) [(.int i), (.ref s_HARD)])) _
        refine st18.trans ?_
        show Steps p.tables e below (T18.setTop (mkF m 48 (own_F3 w i q ((w &&& (2147483647 : Int32)) - (w &&& (2147483647 : Int32)) / (3 : Int32) * (3 : Int32)) s_HARD ((10 : Int32) + (q &&& (15 : Int32)))) [(.ref (own_tier i s_FAILURE_WITH_CONSEQUENCE s_FAILURE s_SUCCESS))])) _
        refine XS.astore X18.here hx rfl (hb hby at_48) rfl rfl (l' := (own_F4 w i q ((w &&& (2147483647 : Int32)) - (w &&& (2147483647 : Int32)) / (3 : Int32) * (3 : Int32)) s_HARD ((10 : Int32) + (q &&& (15 : Int32))) (own_tier i s_FAILURE_WITH_CONSEQUENCE s_FAILURE s_SUCCESS))) rfl ?_
        show Steps p.tables e below (T18.setTop (mkF m 50 (own_F4 w i q ((w &&& (2147483647 : Int32)) - (w &&& (2147483647 : Int32)) / (3 : Int32) * (3 : Int32)) s_HARD ((10 : Int32) + (q &&& (15 : Int32))) (own_tier i s_FAILURE_WITH_CONSEQUENCE s_FAILURE s_SUCCESS)) [])) _
        refine XS.aload X18.here hx rfl (hb hby at_50) rfl rfl ?_
        show Steps p.tables e below (T18.setTop (mkF m 52 (own_F4 w i q ((w &&& (2147483647 : Int32)) - (w &&& (2147483647 : Int32)) / (3 : Int32) * (3 : Int32)) s_HARD ((10 : Int32) + (q &&& (15 : Int32))) (own_tier i s_FAILURE_WITH_CONSEQUENCE s_FAILURE s_SUCCESS)) [(.ref s_HARD)])) _
        refine XS.iload X18.here hx rfl (hb hby at_52) rfl ?_
        show Steps p.tables e below (T18.setTop (mkF m 54 (own_F4 w i q ((w &&& (2147483647 : Int32)) - (w &&& (2147483647 : Int32)) / (3 : Int32) * (3 : Int32)) s_HARD ((10 : Int32) + (q &&& (15 : Int32))) (own_tier i s_FAILURE_WITH_CONSEQUENCE s_FAILURE s_SUCCESS)) [(.int ((10 : Int32) + (q &&& (15 : Int32)))), (.ref s_HARD)])) _
        refine st19.trans ?_
        show Steps p.tables e below (T19.setTop (mkF m 57 (own_F4 w i q ((w &&& (2147483647 : Int32)) - (w &&& (2147483647 : Int32)) / (3 : Int32) * (3 : Int32)) s_HARD ((10 : Int32) + (q &&& (15 : Int32))) (own_tier i s_FAILURE_WITH_CONSEQUENCE s_FAILURE s_SUCCESS)) [(.ref (own_tier ((10 : Int32) + (q &&& (15 : Int32))) s_FAILURE_WITH_CONSEQUENCE s_FAILURE s_SUCCESS))])) _
        refine XS.astore X19.here hx rfl (hb hby at_57) rfl rfl (l' := (own_F5 w i q ((w &&& (2147483647 : Int32)) - (w &&& (2147483647 : Int32)) / (3 : Int32) * (3 : Int32)) s_HARD ((10 : Int32) + (q &&& (15 : Int32))) (own_tier i s_FAILURE_WITH_CONSEQUENCE s_FAILURE s_SUCCESS) (own_tier ((10 : Int32) + (q &&& (15 : Int32))) s_FAILURE_WITH_CONSEQUENCE s_FAILURE s_SUCCESS))) rfl ?_
        show Steps p.tables e below (T19.setTop (mkF m 59 (own_F5 w i q ((w &&& (2147483647 : Int32)) - (w &&& (2147483647 : Int32)) / (3 : Int32) * (3 : Int32)) s_HARD ((10 : Int32) + (q &&& (15 : Int32))) (own_tier i s_FAILURE_WITH_CONSEQUENCE s_FAILURE s_SUCCESS) (own_tier ((10 : Int32) + (q &&& (15 : Int32))) s_FAILURE_WITH_CONSEQUENCE s_FAILURE s_SUCCESS)) [])) _
        refine XS.aload X19.here hx rfl (hb hby at_59) rfl rfl ?_
        show Steps p.tables e below (T19.setTop (mkF m 61 (own_F5 w i q ((w &&& (2147483647 : Int32)) - (w &&& (2147483647 : Int32)) / (3 : Int32) * (3 : Int32)) s_HARD ((10 : Int32) + (q &&& (15 : Int32))) (own_tier i s_FAILURE_WITH_CONSEQUENCE s_FAILURE s_SUCCESS) (own_tier ((10 : Int32) + (q &&& (15 : Int32))) s_FAILURE_WITH_CONSEQUENCE s_FAILURE s_SUCCESS)) [(.ref (own_tier i s_FAILURE_WITH_CONSEQUENCE s_FAILURE s_SUCCESS))])) _
        refine XS.iloadN X19.here hx rfl (hb hby at_61) rfl ?_
        show Steps p.tables e below (T19.setTop (mkF m 62 (own_F5 w i q ((w &&& (2147483647 : Int32)) - (w &&& (2147483647 : Int32)) / (3 : Int32) * (3 : Int32)) s_HARD ((10 : Int32) + (q &&& (15 : Int32))) (own_tier i s_FAILURE_WITH_CONSEQUENCE s_FAILURE s_SUCCESS) (own_tier ((10 : Int32) + (q &&& (15 : Int32))) s_FAILURE_WITH_CONSEQUENCE s_FAILURE s_SUCCESS)) [(.int ((w &&& (2147483647 : Int32)) - (w &&& (2147483647 : Int32)) / (3 : Int32) * (3 : Int32))), (.ref (own_tier i s_FAILURE_WITH_CONSEQUENCE s_FAILURE s_SUCCESS))])) _
        refine XS.iloadN X19.here hx rfl (hb hby at_62) rfl ?_
        show Steps p.tables e below (T19.setTop (mkF m 63 (own_F5 w i q ((w &&& (2147483647 : Int32)) - (w &&& (2147483647 : Int32)) / (3 : Int32) * (3 : Int32)) s_HARD ((10 : Int32) + (q &&& (15 : Int32))) (own_tier i s_FAILURE_WITH_CONSEQUENCE s_FAILURE s_SUCCESS) (own_tier ((10 : Int32) + (q &&& (15 : Int32))) s_FAILURE_WITH_CONSEQUENCE s_FAILURE s_SUCCESS)) [(.int i), (.int ((w &&& (2147483647 : Int32)) - (w &&& (2147483647 : Int32)) / (3 : Int32) * (3 : Int32))), (.ref (own_tier i s_FAILURE_WITH_CONSEQUENCE s_FAILURE s_SUCCESS))])) _
        refine st20 _ ?_
        show Steps p.tables e below (T20.setTop (mkF m 66 (own_F5 w i q ((w &&& (2147483647 : Int32)) - (w &&& (2147483647 : Int32)) / (3 : Int32) * (3 : Int32)) s_HARD ((10 : Int32) + (q &&& (15 : Int32))) (own_tier i s_FAILURE_WITH_CONSEQUENCE s_FAILURE s_SUCCESS) (own_tier ((10 : Int32) + (q &&& (15 : Int32))) s_FAILURE_WITH_CONSEQUENCE s_FAILURE s_SUCCESS)) [(.ref (own_tier i s_FAILURE_WITH_CONSEQUENCE s_FAILURE s_SUCCESS)), (.ref (own_tier i s_FAILURE_WITH_CONSEQUENCE s_FAILURE s_SUCCESS))])) _
        refine Jvm.RoadKit.acmp (g := (mkF m 66 (own_F5 w i q ((w &&& (2147483647 : Int32)) - (w &&& (2147483647 : Int32)) / (3 : Int32) * (3 : Int32)) s_HARD ((10 : Int32) + (q &&& (15 : Int32))) (own_tier i s_FAILURE_WITH_CONSEQUENCE s_FAILURE s_SUCCESS) (own_tier ((10 : Int32) + (q &&& (15 : Int32))) s_FAILURE_WITH_CONSEQUENCE s_FAILURE s_SUCCESS)) [(.ref (own_tier i s_FAILURE_WITH_CONSEQUENCE s_FAILURE s_SUCCESS)), (.ref (own_tier i s_FAILURE_WITH_CONSEQUENCE s_FAILURE s_SUCCESS))])) X20 hx rfl rfl rfl (pc0 := 66) (pc' := 69) (same := true) rfl (hb hby at_66) rfl (decide_eq_true rfl) (by decide) (by decide) ?_
        show Steps p.tables e below (T20.setTop (mkF m 69 (own_F5 w i q ((w &&& (2147483647 : Int32)) - (w &&& (2147483647 : Int32)) / (3 : Int32) * (3 : Int32)) s_HARD ((10 : Int32) + (q &&& (15 : Int32))) (own_tier i s_FAILURE_WITH_CONSEQUENCE s_FAILURE s_SUCCESS) (own_tier ((10 : Int32) + (q &&& (15 : Int32))) s_FAILURE_WITH_CONSEQUENCE s_FAILURE s_SUCCESS)) [])) _
        refine XS.aload X20.here hx rfl (hb hby at_69) rfl rfl ?_
        show Steps p.tables e below (T20.setTop (mkF m 71 (own_F5 w i q ((w &&& (2147483647 : Int32)) - (w &&& (2147483647 : Int32)) / (3 : Int32) * (3 : Int32)) s_HARD ((10 : Int32) + (q &&& (15 : Int32))) (own_tier i s_FAILURE_WITH_CONSEQUENCE s_FAILURE s_SUCCESS) (own_tier ((10 : Int32) + (q &&& (15 : Int32))) s_FAILURE_WITH_CONSEQUENCE s_FAILURE s_SUCCESS)) [(.ref (own_tier ((10 : Int32) + (q &&& (15 : Int32))) s_FAILURE_WITH_CONSEQUENCE s_FAILURE s_SUCCESS))])) _
        refine XS.iloadN X20.here hx rfl (hb hby at_71) rfl ?_
        show Steps p.tables e below (T20.setTop (mkF m 72 (own_F5 w i q ((w &&& (2147483647 : Int32)) - (w &&& (2147483647 : Int32)) / (3 : Int32) * (3 : Int32)) s_HARD ((10 : Int32) + (q &&& (15 : Int32))) (own_tier i s_FAILURE_WITH_CONSEQUENCE s_FAILURE s_SUCCESS) (own_tier ((10 : Int32) + (q &&& (15 : Int32))) s_FAILURE_WITH_CONSEQUENCE s_FAILURE s_SUCCESS)) [(.int ((w &&& (2147483647 : Int32)) - (w &&& (2147483647 : Int32)) / (3 : Int32) * (3 : Int32))), (.ref (own_tier ((10 : Int32) + (q &&& (15 : Int32))) s_FAILURE_WITH_CONSEQUENCE s_FAILURE s_SUCCESS))])) _
        refine XS.iload X20.here hx rfl (hb hby at_72) rfl ?_
        show Steps p.tables e below (T20.setTop (mkF m 74 (own_F5 w i q ((w &&& (2147483647 : Int32)) - (w &&& (2147483647 : Int32)) / (3 : Int32) * (3 : Int32)) s_HARD ((10 : Int32) + (q &&& (15 : Int32))) (own_tier i s_FAILURE_WITH_CONSEQUENCE s_FAILURE s_SUCCESS) (own_tier ((10 : Int32) + (q &&& (15 : Int32))) s_FAILURE_WITH_CONSEQUENCE s_FAILURE s_SUCCESS)) [(.int ((10 : Int32) + (q &&& (15 : Int32)))), (.int ((w &&& (2147483647 : Int32)) - (w &&& (2147483647 : Int32)) / (3 : Int32) * (3 : Int32))), (.ref (own_tier ((10 : Int32) + (q &&& (15 : Int32))) s_FAILURE_WITH_CONSEQUENCE s_FAILURE s_SUCCESS))])) _
        refine st21 _ ?_
        show Steps p.tables e below (T21.setTop (mkF m 77 (own_F5 w i q ((w &&& (2147483647 : Int32)) - (w &&& (2147483647 : Int32)) / (3 : Int32) * (3 : Int32)) s_HARD ((10 : Int32) + (q &&& (15 : Int32))) (own_tier i s_FAILURE_WITH_CONSEQUENCE s_FAILURE s_SUCCESS) (own_tier ((10 : Int32) + (q &&& (15 : Int32))) s_FAILURE_WITH_CONSEQUENCE s_FAILURE s_SUCCESS)) [(.ref (own_tier ((10 : Int32) + (q &&& (15 : Int32))) s_FAILURE_WITH_CONSEQUENCE s_FAILURE s_SUCCESS)), (.ref (own_tier ((10 : Int32) + (q &&& (15 : Int32))) s_FAILURE_WITH_CONSEQUENCE s_FAILURE s_SUCCESS))])) _
        refine Jvm.RoadKit.acmp (g := (mkF m 77 (own_F5 w i q ((w &&& (2147483647 : Int32)) - (w &&& (2147483647 : Int32)) / (3 : Int32) * (3 : Int32)) s_HARD ((10 : Int32) + (q &&& (15 : Int32))) (own_tier i s_FAILURE_WITH_CONSEQUENCE s_FAILURE s_SUCCESS) (own_tier ((10 : Int32) + (q &&& (15 : Int32))) s_FAILURE_WITH_CONSEQUENCE s_FAILURE s_SUCCESS)) [(.ref (own_tier ((10 : Int32) + (q &&& (15 : Int32))) s_FAILURE_WITH_CONSEQUENCE s_FAILURE s_SUCCESS)), (.ref (own_tier ((10 : Int32) + (q &&& (15 : Int32))) s_FAILURE_WITH_CONSEQUENCE s_FAILURE s_SUCCESS))])) X21 hx rfl rfl rfl (pc0 := 77) (pc' := 80) (same := true) rfl (hb hby at_77) rfl (decide_eq_true rfl) (by decide) (by decide) ?_
        show Steps p.tables e below (T21.setTop (mkF m 80 (own_F5 w i q ((w &&& (2147483647 : Int32)) - (w &&& (2147483647 : Int32)) / (3 : Int32) * (3 : Int32)) s_HARD ((10 : Int32) + (q &&& (15 : Int32))) (own_tier i s_FAILURE_WITH_CONSEQUENCE s_FAILURE s_SUCCESS) (own_tier ((10 : Int32) + (q &&& (15 : Int32))) s_FAILURE_WITH_CONSEQUENCE s_FAILURE s_SUCCESS)) [])) _
        refine XS.iconst X21.here hx rfl (hb hby at_80) ?_
        show Steps p.tables e below (T21.setTop (mkF m 81 (own_F5 w i q ((w &&& (2147483647 : Int32)) - (w &&& (2147483647 : Int32)) / (3 : Int32) * (3 : Int32)) s_HARD ((10 : Int32) + (q &&& (15 : Int32))) (own_tier i s_FAILURE_WITH_CONSEQUENCE s_FAILURE s_SUCCESS) (own_tier ((10 : Int32) + (q &&& (15 : Int32))) s_FAILURE_WITH_CONSEQUENCE s_FAILURE s_SUCCESS)) [(.int (1 : Int32))])) _
        refine XS.goto X21.here hx rfl (pc0 := 81) (pc' := 85) rfl (hb hby at_81) (by decide) (by decide) ?_
        show Steps p.tables e below (T21.setTop (mkF m 85 (own_F5 w i q ((w &&& (2147483647 : Int32)) - (w &&& (2147483647 : Int32)) / (3 : Int32) * (3 : Int32)) s_HARD ((10 : Int32) + (q &&& (15 : Int32))) (own_tier i s_FAILURE_WITH_CONSEQUENCE s_FAILURE s_SUCCESS) (own_tier ((10 : Int32) + (q &&& (15 : Int32))) s_FAILURE_WITH_CONSEQUENCE s_FAILURE s_SUCCESS)) [(.int (1 : Int32))])) _
        exact k
      obtain ⟨fs, hr, hrun, hended, hW, hsame⟩ := X21.leave (v := some (.int (1 : Int32))) (fun h => by rw [Bd.returns] at h; cases h)
      refine ⟨_, _, w22 _ ?_, hrun, hended, _, _, rfl, ?_, ⟨_, rfl⟩, hW, hsame.mono (by decide) (by decide)⟩
      · exact retN X21 hx (t := .boolean) Bd.returns (by simp) (hb hby at_85) hr
      · show Q0 Z w i q s_EASY s_SUCCESS_WITH_CONSEQUENCE s_SUCCESS s_SUCCESS_WITH_REWARD s_MEDIUM s_FAILURE s_HARD s_FAILURE_WITH_CONSEQUENCE h0 n0 _ T21.heap _
        rw [eh21]
        exact ⟨rfl, N21, rfl⟩
set_option maxRecDepth 65536 in
set_option maxHeartbeats 40000000 in
theorem comes_1 {Post : Tables → Env → Array Value → State → Outcome → State → Prop} (hpost : ∀ tb e args s v u, (limb_1_1.after args s (.returned v) u = true ∧ limb_1_2.after args s (.returned v) u = true ∧ True) → FrameEnd s (.returned v) u (Jvm.fieldLocs frame_1_writes args s ++ Jvm.arrayLocs frame_1_arrays args s ++ Jvm.staticLocs frame_1_statics s) 0 0 → Post tb e args s (.returned v) u) :
    ArmFor flags0 classFile x code maxLocals ret World_1 tables_1 room_1 Calls_1 rest_1 Pre_1 Post := by
  intro l hfl _ _ p e ha hc hk s m args below hf hA hF happ hP
  obtain ⟨hcalls, hrest, hpre⟩ := hP
  obtain ⟨-, -, -, hnamed, -, -, -, hat⟩ := (Spec.applies_iff hf).mp happ
  obtain ⟨hg, hn⟩ := and_e (Cond.before_iff.mp (show (Jvm.Cond.and given_1 narrow_1).before args s = true from hpre))
  obtain ⟨g1, g2⟩ := and_e hg
  obtain ⟨g3, g4⟩ := and_e g2
  obtain ⟨g5, g6⟩ := and_e g4
  obtain ⟨g7, g8⟩ := and_e hn
  obtain ⟨g9, g10⟩ := and_e g8
  obtain ⟨g11, g12⟩ := and_e g10
  obtain ⟨g13, g14⟩ := and_e g12
  obtain ⟨g15, g16⟩ := and_e g14
  obtain ⟨g17, g18⟩ := and_e g16
  obtain ⟨g19, g20⟩ := and_e g18
  obtain ⟨g21, g22⟩ := and_e g20
  obtain ⟨g23, g24⟩ := and_e g22
  obtain ⟨g25, g26⟩ := and_e g24
  obtain ⟨g27, g28⟩ := and_e g26
  obtain ⟨g29, g30⟩ := and_e g28
  obtain ⟨g31, g32⟩ := and_e g30
  obtain ⟨g33, g34⟩ := and_e g32
  obtain ⟨g35, g36⟩ := and_e g34
  obtain ⟨g37, g38⟩ := and_e g36
  obtain ⟨w0, w1, w2, rfl⟩ : ∃ w0 w1 w2 : Value, args = #[w0, w1, w2] := by
    have hs : args.size = 3 := by simpa [Cond.value, given_1] using g1
    obtain ⟨L⟩ := args
    match L, hs with
    | [w0, w1, w2], _ => exact ⟨w0, w1, w2, rfl⟩
  have hw := fun d (hd : d ∈ tables_1) => atoms_spec (ws := Jvm.Cond.code x code maxLocals ret :: tables_1) hat d (List.mem_cons_of_mem _ hd)
  have hfit : Fit s := fun {y c} hc i hi => by
    obtain ⟨ha, rfl⟩ := Array.getElem?_eq_some_iff.mp hc
    have q := List.all_eq_true.mp ((Array.all_eq_true_iff_forall_mem.mp hF) _ (Array.getElem_mem ha)) i (List.mem_range.mpr hi)
    simpa [Array.getElem?_eq_getElem hi] using q
  obtain ⟨i0, ei0⟩ := is_v g3
  obtain rfl : w0 = (.int i0) := Option.some.inj ei0
  obtain ⟨i1, ei1⟩ := is_v g5
  obtain rfl : w1 = (.int i1) := Option.some.inj ei1
  obtain ⟨i2, ei2⟩ := is_v g6
  obtain rfl : w2 = (.int i2) := Option.some.inj ei2
  obtain ⟨s_EASY, ev_s_EASY⟩ := exa_v g7
  have E_s_EASY : Exa s s.heap s_EASY "com/example/hantei/hantei/packs/powerroll/Difficulty" := Exa.start ev_s_EASY g7
  have S_s_EASY : Sta s s.heap "com/example/hantei/hantei/packs/powerroll/Difficulty" "EASY" "Lcom/example/hantei/hantei/packs/powerroll/Difficulty;" (.ref s_EASY) := Sta.start ev_s_EASY (Or.inr ⟨(hw _ (List.mem_of_getElem? (i := 2) rfl)), (hw _ (List.mem_of_getElem? (i := 3) rfl))⟩)
  obtain ⟨s_SUCCESS_WITH_CONSEQUENCE, ev_s_SUCCESS_WITH_CONSEQUENCE⟩ := exa_v g9
  have E_s_SUCCESS_WITH_CONSEQUENCE : Exa s s.heap s_SUCCESS_WITH_CONSEQUENCE "com/example/hantei/hantei/packs/powerroll/Outcome" := Exa.start ev_s_SUCCESS_WITH_CONSEQUENCE g9
  have S_s_SUCCESS_WITH_CONSEQUENCE : Sta s s.heap "com/example/hantei/hantei/packs/powerroll/Outcome" "SUCCESS_WITH_CONSEQUENCE" "Lcom/example/hantei/hantei/packs/powerroll/Outcome;" (.ref s_SUCCESS_WITH_CONSEQUENCE) := Sta.start ev_s_SUCCESS_WITH_CONSEQUENCE (Or.inr ⟨(hw _ (List.mem_of_getElem? (i := 11) rfl)), (hw _ (List.mem_of_getElem? (i := 12) rfl))⟩)
  obtain ⟨s_SUCCESS, ev_s_SUCCESS⟩ := exa_v g13
  have E_s_SUCCESS : Exa s s.heap s_SUCCESS "com/example/hantei/hantei/packs/powerroll/Outcome" := Exa.start ev_s_SUCCESS g13
  have S_s_SUCCESS : Sta s s.heap "com/example/hantei/hantei/packs/powerroll/Outcome" "SUCCESS" "Lcom/example/hantei/hantei/packs/powerroll/Outcome;" (.ref s_SUCCESS) := Sta.start ev_s_SUCCESS (Or.inr ⟨(hw _ (List.mem_of_getElem? (i := 11) rfl)), (hw _ (List.mem_of_getElem? (i := 15) rfl))⟩)
  obtain ⟨s_MEDIUM, ev_s_MEDIUM⟩ := exa_v g17
  have E_s_MEDIUM : Exa s s.heap s_MEDIUM "com/example/hantei/hantei/packs/powerroll/Difficulty" := Exa.start ev_s_MEDIUM g17
  have S_s_MEDIUM : Sta s s.heap "com/example/hantei/hantei/packs/powerroll/Difficulty" "MEDIUM" "Lcom/example/hantei/hantei/packs/powerroll/Difficulty;" (.ref s_MEDIUM) := Sta.start ev_s_MEDIUM (Or.inr ⟨(hw _ (List.mem_of_getElem? (i := 2) rfl)), (hw _ (List.mem_of_getElem? (i := 23) rfl))⟩)
  obtain ⟨s_HARD, ev_s_HARD⟩ := exa_v g21
  have E_s_HARD : Exa s s.heap s_HARD "com/example/hantei/hantei/packs/powerroll/Difficulty" := Exa.start ev_s_HARD g21
  have S_s_HARD : Sta s s.heap "com/example/hantei/hantei/packs/powerroll/Difficulty" "HARD" "Lcom/example/hantei/hantei/packs/powerroll/Difficulty;" (.ref s_HARD) := Sta.start ev_s_HARD (Or.inr ⟨(hw _ (List.mem_of_getElem? (i := 2) rfl)), (hw _ (List.mem_of_getElem? (i := 25) rfl))⟩)
  obtain ⟨s_FAILURE_WITH_CONSEQUENCE, ev_s_FAILURE_WITH_CONSEQUENCE⟩ := exa_v g25
  have E_s_FAILURE_WITH_CONSEQUENCE : Exa s s.heap s_FAILURE_WITH_CONSEQUENCE "com/example/hantei/hantei/packs/powerroll/Outcome" := Exa.start ev_s_FAILURE_WITH_CONSEQUENCE g25
  have S_s_FAILURE_WITH_CONSEQUENCE : Sta s s.heap "com/example/hantei/hantei/packs/powerroll/Outcome" "FAILURE_WITH_CONSEQUENCE" "Lcom/example/hantei/hantei/packs/powerroll/Outcome;" (.ref s_FAILURE_WITH_CONSEQUENCE) := Sta.start ev_s_FAILURE_WITH_CONSEQUENCE (Or.inr ⟨(hw _ (List.mem_of_getElem? (i := 11) rfl)), (hw _ (List.mem_of_getElem? (i := 28) rfl))⟩)
  obtain ⟨s_FAILURE, ev_s_FAILURE⟩ := exa_v g29
  have E_s_FAILURE : Exa s s.heap s_FAILURE "com/example/hantei/hantei/packs/powerroll/Outcome" := Exa.start ev_s_FAILURE g29
  have S_s_FAILURE : Sta s s.heap "com/example/hantei/hantei/packs/powerroll/Outcome" "FAILURE" "Lcom/example/hantei/hantei/packs/powerroll/Outcome;" (.ref s_FAILURE) := Sta.start ev_s_FAILURE (Or.inr ⟨(hw _ (List.mem_of_getElem? (i := 11) rfl)), (hw _ (List.mem_of_getElem? (i := 29) rfl))⟩)
  obtain ⟨s_SUCCESS_WITH_REWARD, ev_s_SUCCESS_WITH_REWARD⟩ := exa_v g33
  have E_s_SUCCESS_WITH_REWARD : Exa s s.heap s_SUCCESS_WITH_REWARD "com/example/hantei/hantei/packs/powerroll/Outcome" := Exa.start ev_s_SUCCESS_WITH_REWARD g33
  have S_s_SUCCESS_WITH_REWARD : Sta s s.heap "com/example/hantei/hantei/packs/powerroll/Outcome" "SUCCESS_WITH_REWARD" "Lcom/example/hantei/hantei/packs/powerroll/Outcome;" (.ref s_SUCCESS_WITH_REWARD) := Sta.start ev_s_SUCCESS_WITH_REWARD (Or.inr ⟨(hw _ (List.mem_of_getElem? (i := 11) rfl)), (hw _ (List.mem_of_getElem? (i := 32) rfl))⟩)
  have F_tierOne_s_EASY : Fld s s.heap s_EASY "com/example/hantei/hantei/packs/powerroll/Difficulty" "tierOne" "Lcom/example/hantei/hantei/packs/powerroll/Outcome;" (.ref s_SUCCESS_WITH_CONSEQUENCE) := Fld.start (own_fld ev_s_EASY (by exact ev_s_SUCCESS_WITH_CONSEQUENCE) g11)
  have F_tierTwo_s_EASY : Fld s s.heap s_EASY "com/example/hantei/hantei/packs/powerroll/Difficulty" "tierTwo" "Lcom/example/hantei/hantei/packs/powerroll/Outcome;" (.ref s_SUCCESS) := Fld.start (own_fld ev_s_EASY (by exact ev_s_SUCCESS) g15)
  have F_tierTwo_s_MEDIUM : Fld s s.heap s_MEDIUM "com/example/hantei/hantei/packs/powerroll/Difficulty" "tierTwo" "Lcom/example/hantei/hantei/packs/powerroll/Outcome;" (.ref s_SUCCESS_WITH_CONSEQUENCE) := Fld.start (own_fld ev_s_MEDIUM (by exact ev_s_SUCCESS_WITH_CONSEQUENCE) g19)
  have F_tierThree_s_HARD : Fld s s.heap s_HARD "com/example/hantei/hantei/packs/powerroll/Difficulty" "tierThree" "Lcom/example/hantei/hantei/packs/powerroll/Outcome;" (.ref s_SUCCESS) := Fld.start (own_fld ev_s_HARD (by exact ev_s_SUCCESS) g23)
  have F_tierOne_s_HARD : Fld s s.heap s_HARD "com/example/hantei/hantei/packs/powerroll/Difficulty" "tierOne" "Lcom/example/hantei/hantei/packs/powerroll/Outcome;" (.ref s_FAILURE_WITH_CONSEQUENCE) := Fld.start (own_fld ev_s_HARD (by exact ev_s_FAILURE_WITH_CONSEQUENCE) g27)
  have F_tierTwo_s_HARD : Fld s s.heap s_HARD "com/example/hantei/hantei/packs/powerroll/Difficulty" "tierTwo" "Lcom/example/hantei/hantei/packs/powerroll/Outcome;" (.ref s_FAILURE) := Fld.start (own_fld ev_s_HARD (by exact ev_s_FAILURE) g31)
  have F_tierThree_s_EASY : Fld s s.heap s_EASY "com/example/hantei/hantei/packs/powerroll/Difficulty" "tierThree" "Lcom/example/hantei/hantei/packs/powerroll/Outcome;" (.ref s_SUCCESS_WITH_REWARD) := Fld.start (own_fld ev_s_EASY (by exact ev_s_SUCCESS_WITH_REWARD) g35)
  have F_tierThree_s_MEDIUM : Fld s s.heap s_MEDIUM "com/example/hantei/hantei/packs/powerroll/Difficulty" "tierThree" "Lcom/example/hantei/hantei/packs/powerroll/Outcome;" (.ref s_SUCCESS) := Fld.start (own_fld ev_s_MEDIUM (by exact ev_s_SUCCESS) g37)
  have F_tierOne_s_MEDIUM : Fld s s.heap s_MEDIUM "com/example/hantei/hantei/packs/powerroll/Difficulty" "tierOne" "Lcom/example/hantei/hantei/packs/powerroll/Outcome;" (.ref s_FAILURE) := Fld.start (own_fld ev_s_MEDIUM (by exact ev_s_FAILURE) g38)
  obtain ⟨n, o, h1, h2, h3, _, L, rfl, ⟨rfl, N, -⟩, hq⟩ := rm0 l s _ hw tables_1 i0 i1 i2 s_EASY s_SUCCESS_WITH_CONSEQUENCE s_SUCCESS s_SUCCESS_WITH_REWARD s_MEDIUM s_FAILURE s_HARD s_FAILURE_WITH_CONSEQUENCE s.heap s.heap.size (Old.start s) S_s_EASY S_s_SUCCESS_WITH_CONSEQUENCE S_s_SUCCESS S_s_SUCCESS_WITH_REWARD S_s_MEDIUM S_s_FAILURE S_s_HARD S_s_FAILURE_WITH_CONSEQUENCE E_s_EASY E_s_MEDIUM E_s_HARD F_tierOne_s_EASY F_tierTwo_s_EASY F_tierThree_s_EASY F_tierOne_s_MEDIUM F_tierTwo_s_MEDIUM F_tierThree_s_MEDIUM F_tierOne_s_HARD F_tierTwo_s_HARD F_tierThree_s_HARD p e ha hc hk s m _ below hf ((Spec.applies_iff_loose hf).mp happ).1 ⟨rfl, State.Warmed39.refl s, rfl⟩ trivial
  refine ⟨n, _, h1, h2, h3, hpost _ _ _ _ _ _ ⟨Cond.after_iff.mpr rfl, Cond.after_iff.mpr (eq_i res_at (Term.int_eval (1)) rfl), trivial⟩ ⟨hq.1, hq.2.1, (hq.2.2.sift fun y hy => Or.inr (N y hy)).mono (by decide) (by decide)⟩⟩
theorem main_1_1 : Claimed_1_1 := comes_1 fun _ _ _ _ _ _ h hF => ⟨h.1, hF⟩
theorem main_1_2 : Claimed_1_2 := comes_1 fun _ _ _ _ _ _ h hF => ⟨h.2.1, hF⟩
end Jvm.Pilot.@@N@@
namespace Jvm.Pilot.@@N@@
open Jvm Jvm.ClassFile Sem Op Lib Jvm.Free Jvm.Stand Jvm.Pilot.@@N@@.Jvm.D
/-! MADE BY PROGRAM (witnessworld.py) out of the Statement's table words and the real class files: 13 classes; the members and pool entries that the words name. The judged class is class 1, her method 1. -/
namespace start1
open Jvm.ClassFile
def u (s : String) : CpInfo := .utf8 (stringToUtf16 s)
/-- a pool by its gaps: so many unusable entries, then the entry; so many at the end -/
def gap : Nat → List CpInfo → List CpInfo
  | 0, r => r
  | n + 1, r => .unusable :: gap n r
def poolList (es : List (Nat × CpInfo)) (last : Nat) : List CpInfo := es.foldr (fun e r => gap e.1 (e.2 :: r)) (gap last [])
def pool (es : List (Nat × CpInfo)) (last : Nat) : Array CpInfo := ⟨poolList es last⟩
def fileOf (pool : Array CpInfo) (this : Nat) (attrs : Array Attribute := #[]) (ms : Array MethodInfo := #[]) (fl : Nat := 33) (sup : Nat := 0) (ifs : Array Nat := #[]) (fds : Array FieldInfo := #[]) : ClassFile where
  minorVersion := 0
  majorVersion := 65
  constantPool := pool
  accessFlags := fl
  thisClass := this
  superClass := sup
  interfaces := ifs
  fields := fds
  methods := ms
  attributes := attrs
def plain (name : String) (sup : Option ClassId) : Class where
  name := name
  kind := .ordinary
  loader := none
  accessFlags := 33
  super := sup
  interfaces := #[]
  cf := none
  fields := #[]
  methods := #[]
  instanceTypes := #[]
  staticTypes := #[]
  resolved := #[]
  callSites := []
  init := .initialized
  statics := none
  mirror := none

def pool0 : Array CpInfo := pool [(5, u "<init>"), (0, u "()V"), (1, .class_ 10), (1, u "java/lang/Object")] 113

def k0m0 : Method := { name := "<init>", desc := "()V", sig := { parameters := [], returnType := none }, accessFlags := 1, code := none }
/-- java/lang/Object -/
def k0 : Class := { plain "java/lang/Object" none with
  accessFlags := 33
  interfaces := #[]
  cf := some (fileOf pool0 8 #[] #[{ accessFlags := 1, nameIndex := 5, descriptorIndex := 6, attributes := #[] }] 33 0 #[] #[])
  fields := #[]
  methods := #[k0m0]
  instanceTypes := #[]
  staticTypes := #[]
  resolved := Array.replicate 124 none
  statics := none }

def pool1 : Array CpInfo := pool [(2, .class_ 4), (1, u "java/lang/Object"), (0, u "<init>"), (0, u "()V"), (0, .integer 2147483647), (0, .fieldref 9 10), (0, .class_ 11), (0, .nameAndType 12 13), (0, u "com/example/hantei/hantei/packs/powerroll/Difficulty"), (0, u "EASY"), (0, u "Lcom/example/hantei/hantei/packs/powerroll/Difficulty;"), (0, .fieldref 9 15), (0, .nameAndType 16 13), (0, u "MEDIUM"), (0, .fieldref 9 18), (0, .nameAndType 19 13), (0, u "HARD"), (0, .methodref 9 21), (0, .nameAndType 22 23), (0, u "outcome"), (0, u "(I)Lcom/example/hantei/hantei/packs/powerroll/Outcome;"), (0, .methodref 25 26), (0, .class_ 27), (0, .nameAndType 28 29), (0, u "com/example/hantei/hantei/packs/powerroll/DifficultyOutcomePinLaw"), (0, u "expected"), (0, u "(II)Lcom/example/hantei/hantei/packs/powerroll/Outcome;"), (0, .fieldref 31 32), (0, .class_ 33), (0, .nameAndType 34 35), (0, u "com/example/hantei/hantei/packs/powerroll/Outcome"), (0, u "SUCCESS_WITH_CONSEQUENCE"), (0, u "Lcom/example/hantei/hantei/packs/powerroll/Outcome;"), (0, .fieldref 31 37), (0, .nameAndType 38 35), (0, u "SUCCESS"), (0, .fieldref 31 40), (0, .nameAndType 41 35), (0, u "SUCCESS_WITH_REWARD"), (0, .fieldref 31 43), (0, .nameAndType 44 35), (0, u "FAILURE"), (0, .fieldref 31 46), (0, .nameAndType 47 35), (0, u "FAILURE_WITH_CONSEQUENCE"), (2, u "law"), (0, u "(III)Z")] 3

def k1m0 : Method := { name := "<init>", desc := "()V", sig := { parameters := [], returnType := none }, accessFlags := 2, code := none }
def k1c1 : Code := { maxStack := 3, maxLocals := 8, code := code, exceptionTable := #[], attributes := #[] }
def k1m1 : Method := { name := "law", desc := "(III)Z", sig := { parameters := [.int, .int, .int], returnType := some .boolean }, accessFlags := 9, code := some k1c1 }
def k1c2 : Code := { maxStack := 2, maxLocals := 3, code := method_3_code, exceptionTable := #[], attributes := #[] }
def k1m2 : Method := { name := "expected", desc := "(II)Lcom/example/hantei/hantei/packs/powerroll/Outcome;", sig := { parameters := [.int, .int], returnType := some (.object "com/example/hantei/hantei/packs/powerroll/Outcome") }, accessFlags := 10, code := some k1c2 }
/-- com/example/hantei/hantei/packs/powerroll/DifficultyOutcomePinLaw -/
def k1 : Class := { plain "com/example/hantei/hantei/packs/powerroll/DifficultyOutcomePinLaw" (some 0) with
  accessFlags := 49
  interfaces := #[]
  cf := some (fileOf pool1 25 #[] #[{ accessFlags := 2, nameIndex := 5, descriptorIndex := 6, attributes := #[] }, { accessFlags := 9, nameIndex := 50, descriptorIndex := 51, attributes := #[] }, { accessFlags := 10, nameIndex := 28, descriptorIndex := 29, attributes := #[] }] 49 2 #[] #[])
  fields := #[]
  methods := #[k1m0, k1m1, k1m2]
  instanceTypes := #[]
  staticTypes := #[]
  resolved := Array.replicate 55 none
  statics := none }

def pool2 : Array CpInfo := pool [(1, .class_ 2), (0, u "java/lang/constant/Constable"), (0, .class_ 4), (0, u "java/lang/Object")] 6

/-- java/lang/constant/Constable -/
def k2 : Class := { plain "java/lang/constant/Constable" (some 0) with
  accessFlags := 1537
  interfaces := #[]
  cf := some (fileOf pool2 1 #[] #[] 1537 3 #[] #[])
  fields := #[]
  methods := #[]
  instanceTypes := #[]
  staticTypes := #[]
  resolved := Array.replicate 11 none
  statics := none }

def pool3 : Array CpInfo := pool [(1, .class_ 2), (0, u "java/lang/Comparable"), (0, .class_ 4), (0, u "java/lang/Object")] 7

/-- java/lang/Comparable -/
def k3 : Class := { plain "java/lang/Comparable" (some 0) with
  accessFlags := 1537
  interfaces := #[]
  cf := some (fileOf pool3 1 #[] #[] 1537 3 #[] #[])
  fields := #[]
  methods := #[]
  instanceTypes := #[]
  staticTypes := #[]
  resolved := Array.replicate 12 none
  statics := none }

def pool4 : Array CpInfo := pool [(1, .class_ 2), (0, u "java/io/Serializable"), (0, .class_ 4), (0, u "java/lang/Object")] 2

/-- java/io/Serializable -/
def k4 : Class := { plain "java/io/Serializable" (some 0) with
  accessFlags := 1537
  interfaces := #[]
  cf := some (fileOf pool4 1 #[] #[] 1537 3 #[] #[])
  fields := #[]
  methods := #[]
  instanceTypes := #[]
  staticTypes := #[]
  resolved := Array.replicate 7 none
  statics := none }

def pool5 : Array CpInfo := pool [(2, .class_ 4), (1, u "java/lang/Enum"), (0, u "name"), (0, u "Ljava/lang/String;"), (2, u "ordinal"), (0, u "I"), (1, .class_ 14), (1, u "java/lang/Object"), (4, u "hash"), (86, .class_ 108), (1, u "java/lang/Enum$EnumDesc"), (2, .class_ 112), (0, u "java/lang/constant/Constable"), (0, .class_ 114), (0, u "java/lang/Comparable"), (0, .class_ 116), (0, u "java/io/Serializable")] 87

/-- java/lang/Enum -/
def k5 : Class := { plain "java/lang/Enum" (some 0) with
  accessFlags := 1057
  interfaces := #[2, 3, 4]
  cf := some (fileOf pool5 2 #[.nestMembers #[106]] #[] 1057 12 #[111, 113, 115] #[{ accessFlags := 18, nameIndex := 5, descriptorIndex := 6, attributes := #[] }, { accessFlags := 18, nameIndex := 9, descriptorIndex := 10, attributes := #[] }, { accessFlags := 2, nameIndex := 19, descriptorIndex := 10, attributes := #[] }])
  fields := #[{ name := "name", type := (.object "java/lang/String"), accessFlags := 18, slot := 0, constantValue := 0 }, { name := "ordinal", type := .int, accessFlags := 18, slot := 1, constantValue := 0 }, { name := "hash", type := .int, accessFlags := 2, slot := 2, constantValue := 0 }]
  methods := #[]
  instanceTypes := #[(.object "java/lang/String"), .int, .int]
  staticTypes := #[]
  resolved := Array.replicate 204 none
  statics := none }

def pool6 : Array CpInfo := pool [(1, .class_ 2), (0, u "com/example/hantei/hantei/packs/powerroll/Difficulty"), (2, u "EASY"), (0, u "Lcom/example/hantei/hantei/packs/powerroll/Difficulty;"), (2, u "MEDIUM"), (2, u "HARD"), (2, u "$VALUES"), (0, u "[Lcom/example/hantei/hantei/packs/powerroll/Difficulty;"), (6, .class_ 25), (1, u "java/lang/Enum"), (6, .fieldref 1 33), (0, .nameAndType 34 35), (0, u "tierOne"), (0, u "Lcom/example/hantei/hantei/packs/powerroll/Outcome;"), (0, .fieldref 1 37), (0, .nameAndType 38 35), (0, u "tierTwo"), (0, .fieldref 1 40), (0, .nameAndType 41 35), (0, u "tierThree"), (33, u "TIER_TWO_LEAST"), (0, u "I"), (2, u "TIER_THREE_LEAST"), (10, u "outcome"), (0, u "(I)Lcom/example/hantei/hantei/packs/powerroll/Outcome;")] 6

def k6c0 : Code := { maxStack := 2, maxLocals := 2, code := prog_74_method_5_code, exceptionTable := #[], attributes := #[] }
def k6m0 : Method := { name := "outcome", desc := "(I)Lcom/example/hantei/hantei/packs/powerroll/Outcome;", sig := { parameters := [.int], returnType := some (.object "com/example/hantei/hantei/packs/powerroll/Outcome") }, accessFlags := 0, code := some k6c0 }
/-- com/example/hantei/hantei/packs/powerroll/Difficulty -/
def k6 : Class := { plain "com/example/hantei/hantei/packs/powerroll/Difficulty" (some 5) with
  accessFlags := 16432
  interfaces := #[]
  cf := some (fileOf pool6 1 #[] #[{ accessFlags := 0, nameIndex := 90, descriptorIndex := 91, attributes := #[] }] 16432 23 #[] #[{ accessFlags := 16409, nameIndex := 5, descriptorIndex := 6, attributes := #[] }, { accessFlags := 16409, nameIndex := 9, descriptorIndex := 6, attributes := #[] }, { accessFlags := 16409, nameIndex := 12, descriptorIndex := 6, attributes := #[] }, { accessFlags := 24, nameIndex := 75, descriptorIndex := 76, attributes := #[] }, { accessFlags := 24, nameIndex := 79, descriptorIndex := 76, attributes := #[] }, { accessFlags := 18, nameIndex := 34, descriptorIndex := 35, attributes := #[] }, { accessFlags := 18, nameIndex := 38, descriptorIndex := 35, attributes := #[] }, { accessFlags := 18, nameIndex := 41, descriptorIndex := 35, attributes := #[] }, { accessFlags := 4122, nameIndex := 15, descriptorIndex := 16, attributes := #[] }])
  fields := #[{ name := "EASY", type := (.object "com/example/hantei/hantei/packs/powerroll/Difficulty"), accessFlags := 16409, slot := 0, constantValue := 0 }, { name := "MEDIUM", type := (.object "com/example/hantei/hantei/packs/powerroll/Difficulty"), accessFlags := 16409, slot := 1, constantValue := 0 }, { name := "HARD", type := (.object "com/example/hantei/hantei/packs/powerroll/Difficulty"), accessFlags := 16409, slot := 2, constantValue := 0 }, { name := "TIER_TWO_LEAST", type := .int, accessFlags := 24, slot := 3, constantValue := 0 }, { name := "TIER_THREE_LEAST", type := .int, accessFlags := 24, slot := 4, constantValue := 0 }, { name := "tierOne", type := (.object "com/example/hantei/hantei/packs/powerroll/Outcome"), accessFlags := 18, slot := 3, constantValue := 0 }, { name := "tierTwo", type := (.object "com/example/hantei/hantei/packs/powerroll/Outcome"), accessFlags := 18, slot := 4, constantValue := 0 }, { name := "tierThree", type := (.object "com/example/hantei/hantei/packs/powerroll/Outcome"), accessFlags := 18, slot := 5, constantValue := 0 }, { name := "$VALUES", type := (.array (.object "com/example/hantei/hantei/packs/powerroll/Difficulty")), accessFlags := 4122, slot := 5, constantValue := 0 }]
  methods := #[k6m0]
  instanceTypes := #[(.object "java/lang/String"), .int, .int, (.object "com/example/hantei/hantei/packs/powerroll/Outcome"), (.object "com/example/hantei/hantei/packs/powerroll/Outcome"), (.object "com/example/hantei/hantei/packs/powerroll/Outcome")]
  staticTypes := #[(.object "com/example/hantei/hantei/packs/powerroll/Difficulty"), (.object "com/example/hantei/hantei/packs/powerroll/Difficulty"), (.object "com/example/hantei/hantei/packs/powerroll/Difficulty"), .int, .int, (.array (.object "com/example/hantei/hantei/packs/powerroll/Difficulty"))]
  resolved := Array.replicate 98 none
  statics := some 0 }

def pool7 : Array CpInfo := pool [(1, .class_ 2), (0, u "com/example/hantei/hantei/packs/powerroll/Outcome"), (2, u "FAILURE_WITH_CONSEQUENCE"), (0, u "Lcom/example/hantei/hantei/packs/powerroll/Outcome;"), (2, u "FAILURE"), (2, u "SUCCESS_WITH_CONSEQUENCE"), (2, u "SUCCESS"), (2, u "SUCCESS_WITH_REWARD"), (2, u "$VALUES"), (0, u "[Lcom/example/hantei/hantei/packs/powerroll/Outcome;"), (6, .class_ 31), (1, u "java/lang/Enum"), (8, u "success"), (0, u "Z")] 34

/-- com/example/hantei/hantei/packs/powerroll/Outcome -/
def k7 : Class := { plain "com/example/hantei/hantei/packs/powerroll/Outcome" (some 5) with
  accessFlags := 16432
  interfaces := #[]
  cf := some (fileOf pool7 1 #[] #[] 16432 29 #[] #[{ accessFlags := 16409, nameIndex := 5, descriptorIndex := 6, attributes := #[] }, { accessFlags := 16409, nameIndex := 9, descriptorIndex := 6, attributes := #[] }, { accessFlags := 16409, nameIndex := 12, descriptorIndex := 6, attributes := #[] }, { accessFlags := 16409, nameIndex := 15, descriptorIndex := 6, attributes := #[] }, { accessFlags := 16409, nameIndex := 18, descriptorIndex := 6, attributes := #[] }, { accessFlags := 18, nameIndex := 40, descriptorIndex := 41, attributes := #[] }, { accessFlags := 4122, nameIndex := 21, descriptorIndex := 22, attributes := #[] }])
  fields := #[{ name := "FAILURE_WITH_CONSEQUENCE", type := (.object "com/example/hantei/hantei/packs/powerroll/Outcome"), accessFlags := 16409, slot := 0, constantValue := 0 }, { name := "FAILURE", type := (.object "com/example/hantei/hantei/packs/powerroll/Outcome"), accessFlags := 16409, slot := 1, constantValue := 0 }, { name := "SUCCESS_WITH_CONSEQUENCE", type := (.object "com/example/hantei/hantei/packs/powerroll/Outcome"), accessFlags := 16409, slot := 2, constantValue := 0 }, { name := "SUCCESS", type := (.object "com/example/hantei/hantei/packs/powerroll/Outcome"), accessFlags := 16409, slot := 3, constantValue := 0 }, { name := "SUCCESS_WITH_REWARD", type := (.object "com/example/hantei/hantei/packs/powerroll/Outcome"), accessFlags := 16409, slot := 4, constantValue := 0 }, { name := "success", type := .boolean, accessFlags := 18, slot := 3, constantValue := 0 }, { name := "$VALUES", type := (.array (.object "com/example/hantei/hantei/packs/powerroll/Outcome")), accessFlags := 4122, slot := 5, constantValue := 0 }]
  methods := #[]
  instanceTypes := #[(.object "java/lang/String"), .int, .int, .boolean]
  staticTypes := #[(.object "com/example/hantei/hantei/packs/powerroll/Outcome"), (.object "com/example/hantei/hantei/packs/powerroll/Outcome"), (.object "com/example/hantei/hantei/packs/powerroll/Outcome"), (.object "com/example/hantei/hantei/packs/powerroll/Outcome"), (.object "com/example/hantei/hantei/packs/powerroll/Outcome"), (.array (.object "com/example/hantei/hantei/packs/powerroll/Outcome"))]
  resolved := Array.replicate 76 none
  statics := some 1 }

def pool8 : Array CpInfo := pool [(1, u "java/lang/Cloneable"), (0, .class_ 1), (0, u "java/lang/Object"), (0, .class_ 3)] 3

/-- java/lang/Cloneable -/
def k8 : Class := { plain "java/lang/Cloneable" (some 0) with
  accessFlags := 1537
  interfaces := #[]
  cf := some (fileOf pool8 2 #[] #[] 1537 4 #[] #[])
  fields := #[]
  methods := #[]
  instanceTypes := #[]
  staticTypes := #[]
  resolved := Array.replicate 8 none
  statics := none }

/-- the primitive byte -/
def k9 : Class := { plain "byte" none with kind := .primitive 'B', accessFlags := 0x411 }
/-- [B -/
def k10 : Class := { plain "[B" (some 0) with kind := .array 9 .byte, interfaces := #[8, 4], accessFlags := 1041 }

/-- the primitive int -/
def k11 : Class := { plain "int" none with kind := .primitive 'I', accessFlags := 0x411 }
/-- [I -/
def k12 : Class := { plain "[I" (some 0) with kind := .array 11 .int, interfaces := #[8, 4], accessFlags := 1041 }

def heap : Heap := #[{ cls := 6, slots := #[.ref 7, .ref 8, .ref 9, .int 0, .int 0, .null], vm := .statics 6 },
  { cls := 7, slots := #[.ref 6, .ref 5, .ref 2, .ref 3, .ref 4, .null], vm := .statics 7 },
  { cls := 7, slots := #[.null, .int 0, .int 0, .int 0], vm := .none },
  { cls := 7, slots := #[.null, .int 1, .int 0, .int 0], vm := .none },
  { cls := 7, slots := #[.null, .int 2, .int 0, .int 0], vm := .none },
  { cls := 7, slots := #[.null, .int 3, .int 0, .int 0], vm := .none },
  { cls := 7, slots := #[.null, .int 4, .int 0, .int 0], vm := .none },
  { cls := 6, slots := #[.null, .int 0, .int 0, .ref 2, .ref 3, .ref 4], vm := .none },
  { cls := 6, slots := #[.null, .int 1, .int 0, .ref 5, .ref 2, .ref 3], vm := .none },
  { cls := 6, slots := #[.null, .int 2, .int 0, .ref 6, .ref 5, .ref 3], vm := .none }]
def classes : Array Class := #[k0, k1, k2, k3, k4, k5, k6, k7, k8, k9, k10, k11, k12]
def interned : List (Array UInt16 × Addr) := []
def slotsUsed : Nat := 50
def theMethod : MethodId := ⟨1, 1⟩
def args0 : Array Value := #[.int 5, .int 13, .int 9]
def aboutOver (below : List Frame) : State where
  vm := { classes := classes, interned := interned.toArray }
  heap := heap
  slotsUsed := slotsUsed
  threads := #[{ frames := .invoking theMethod args0 :: below }]
def below0 : List Frame := [.native { method := ⟨0, 0⟩, args := #[] }]
def about1 : State := aboutOver below0
def p0 : Program := .bare "" "" ""
def e0 : Env := launch0.env 0 0 0
theorem w_frames : about1.frames = Frame.invoking theMethod args0 :: below0 := rfl
set_option maxRecDepth 65536 in
theorem w_args : argsFit about1.vm theMethod args0 = true := by decide +kernel
set_option maxRecDepth 65536 in
theorem w_heap : heapFits about1 = true := by decide +kernel
set_option maxRecDepth 65536 in
theorem w_runnable : about1.curStatus? = some .runnable := by decide +kernel
set_option maxRecDepth 65536 in
theorem w_alone : about1.alone = true := by decide +kernel
set_option maxRecDepth 65536 in
theorem w_named : about1.methodNamed? x = some theMethod := by decide +kernel
set_option maxRecDepth 65536 in
theorem w_hears : about1.hears theMethod below0 = true := by decide +kernel
set_option maxRecDepth 65536 in
theorem w_ripe : about1.ripe theMethod args0 below0 = true := by decide +kernel
theorem w_running : about1.status = .running := rfl
set_option maxRecDepth 65536 in
theorem w_room : about1.hasRoom e0.platform room_1 = true :=
  launch0.hasRoom_least _ room_1 (by decide +kernel) (by decide +kernel) (by decide +kernel) (by decide +kernel) (by decide +kernel) (by decide +kernel)
theorem allAtoms_all (ts : List Jvm.Cond) (a : Array Jvm.Value) (st : Jvm.State) : (allAtoms ts).before a st = ts.all (fun c => c.before a st) := by
  induction ts with
  | nil => rfl
  | cons c t ih =>
    show (Jvm.Cond.and c (allAtoms t)).before a st = _
    rw [Jvm.Cond.before_and, ih, List.all_cons]
def words1 : List Jvm.Cond := Jvm.Cond.code x code maxLocals ret :: tables_1
/-- a 'code' word, met by the world's own term for the bytes: nothing is compared byte by byte -/
theorem code_word {y : MethodName} {bytes : ByteArray} {mx : Nat} {rt : Option FieldType} {a : Array Value} {s : State} {m : MethodId} {meth : Method} {c : Code} (h1 : s.methodNamed? y = some m) (h2 : s.vm.method? m = some meth) (h3 : meth.code = some c) (h4 : c.code = bytes)
    (h5 : (c.maxLocals == mx && c.exceptionTable.isEmpty && decide (c.maxStack ≤ mostOperands) && decide (meth.sig.returnType = rt) && !meth.locks && decide (parseMethodDescriptor y.desc = some meth.sig)) = true) : (Jvm.Cond.code y bytes mx rt).before a s = true := by
  simp only [Bool.and_eq_true, beq_iff_eq, Bool.not_eq_true', decide_eq_true_eq] at h5
  obtain ⟨⟨⟨⟨⟨g1, g2⟩, g3⟩, g4⟩, g5⟩, g6⟩ := h5
  simp [Cond.before, Cond.holds, Cond.value, h1, h2, h3, h4, g1, g2, g3, g4, g5, g6]
def isCode : Jvm.Cond → Bool
  | .code _ _ _ _ => true
  | _ => false
theorem all_split {L : List Jvm.Cond} {P : Jvm.Cond → Bool} (h1 : L.all (fun c => isCode c || P c) = true) (h2 : ∀ c ∈ L.filter isCode, P c = true) : L.all P = true := by
  refine List.all_eq_true.mpr fun c hc => ?_
  have h := List.all_eq_true.mp h1 c hc
  rcases Bool.eq_false_or_eq_true (isCode c) with hi | hi
  · exact h2 c (List.mem_filter.mpr ⟨hc, hi⟩)
  · simpa [hi] using h
set_option maxRecDepth 65536 in
theorem w_c0 : (Jvm.Cond.code x code maxLocals ret).before args0 about1 = true := code_word (m := ⟨1, 1⟩) (meth := k1m1) (c := k1c1) (by decide +kernel) rfl rfl rfl (by decide +kernel)
set_option maxRecDepth 65536 in
theorem w_c1 : (Jvm.Cond.code ({ cls := "com/example/hantei/hantei/packs/powerroll/Difficulty", name := "outcome", desc := "(I)Lcom/example/hantei/hantei/packs/powerroll/Outcome;" } : Jvm.MethodName) prog_74_method_5_code (2 : Nat) (Option.some (Jvm.ClassFile.FieldType.object "com/example/hantei/hantei/packs/powerroll/Outcome"))).before args0 about1 = true := code_word (m := ⟨6, 0⟩) (meth := k6m0) (c := k6c0) (by decide +kernel) rfl rfl rfl (by decide +kernel)
set_option maxRecDepth 65536 in
theorem w_c2 : (Jvm.Cond.code ({ cls := "com/example/hantei/hantei/packs/powerroll/DifficultyOutcomePinLaw", name := "expected", desc := "(II)Lcom/example/hantei/hantei/packs/powerroll/Outcome;" } : Jvm.MethodName) method_3_code (3 : Nat) (Option.some (Jvm.ClassFile.FieldType.object "com/example/hantei/hantei/packs/powerroll/Outcome"))).before args0 about1 = true := code_word (m := ⟨1, 2⟩) (meth := k1m2) (c := k1c2) (by decide +kernel) rfl rfl rfl (by decide +kernel)
def codes1 : List Jvm.Cond := [Jvm.Cond.code x code maxLocals ret, Jvm.Cond.code ({ cls := "com/example/hantei/hantei/packs/powerroll/Difficulty", name := "outcome", desc := "(I)Lcom/example/hantei/hantei/packs/powerroll/Outcome;" } : Jvm.MethodName) prog_74_method_5_code (2 : Nat) (Option.some (Jvm.ClassFile.FieldType.object "com/example/hantei/hantei/packs/powerroll/Outcome")), Jvm.Cond.code ({ cls := "com/example/hantei/hantei/packs/powerroll/DifficultyOutcomePinLaw", name := "expected", desc := "(II)Lcom/example/hantei/hantei/packs/powerroll/Outcome;" } : Jvm.MethodName) method_3_code (3 : Nat) (Option.some (Jvm.ClassFile.FieldType.object "com/example/hantei/hantei/packs/powerroll/Outcome"))]
set_option maxRecDepth 65536 in
theorem codes_eq : words1.filter isCode = codes1 := rfl
theorem w_codes : ∀ c ∈ words1.filter isCode, c.before args0 about1 = true := by
  rw [codes_eq]
  intro c hc
  simp only [codes1, List.mem_cons, List.not_mem_nil, or_false] at hc
  rcases hc with rfl | rfl | rfl
  · exact w_c0
  · exact w_c1
  · exact w_c2
set_option maxRecDepth 65536 in
theorem w_t1 : (words1.take 24).all (fun c => isCode c || c.before args0 about1) = true := by decide +kernel
set_option maxRecDepth 65536 in
theorem w_t2 : (words1.drop 24).all (fun c => isCode c || c.before args0 about1) = true := by decide +kernel
theorem w_tables : (allAtoms (Jvm.Cond.code x code maxLocals ret :: tables_1)).before args0 about1 = true := by
  rw [allAtoms_all]
  show words1.all (fun c => c.before args0 about1) = true
  refine all_split ?_ w_codes
  rw [← List.take_append_drop 24 words1, List.all_append, w_t1, w_t2]
  rfl
set_option maxRecDepth 65536 in
theorem w_case : (Jvm.Cond.and given_1 narrow_1).before args0 about1 = true := by decide +kernel
theorem w_applies : (headSpec (Jvm.Cond.code x code maxLocals ret :: tables_1) room_1).applies x e0.platform about1 = true :=
  (Spec.applies_iff w_frames).mpr ⟨w_running, w_runnable, w_alone, w_named, w_hears, w_ripe, w_room, w_tables⟩
theorem atStart : AtStart classFile x code maxLocals ret World_1 tables_1 room_1 Calls_1 rest_1 Pre_1 launch0 p0 e0 about1 theMethod args0 below0 :=
  ⟨lists_1, trivial, launch0.admits_env _ _ _, launch0.least_env, fairChoices_fair.cas, fairChoices_fair.clock, w_frames, w_args, w_heap, w_applies, trivial, trivial, w_case⟩
end start1
theorem witness_1 : WitnessClaimed_1 := ⟨start1.p0, start1.e0, start1.about1, start1.theMethod, start1.args0, start1.below0, start1.atStart⟩
end Jvm.Pilot.@@N@@
