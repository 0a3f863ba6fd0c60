import JvmDerived
import JvmDerived.Pilot.@@N@@Statement
import JvmDerived.Pilot.@@N@@Code
set_option linter.unusedVariables false
set_option linter.unusedSimpArgs false
namespace Jvm.RoadKit
open Sem ClassFile Op Lib Jvm.Stand Jvm.Free Jvm.LawKit
section New
variable {p : Program} {l : Launch} {e : Env} {R : Room} {s : State} {m : MethodId} {args : Array Value} {below : List Frame} {meth : Method} {c : Code} {T : State} {locs : List Loc} {cells slots : Nat}
theorem retI (X : Stand p l e R s m args below meth c T locs cells slots) (hx : p.tables.exec = Jvm.exec) {pc : Nat} {Ls : Array Slot} {z : Int32} {rest : List Value} (hret : meth.sig.returnType = some .int) (hd : decode c.code pc = .ok (.ireturn, 1)) {fs : List Frame}
    (hl : ∀ (f : JFrame) (acts : List Action), f.method = m → f.locked = none → f.entered = [] → (doReturn e (T.setTop f) acts (some (.int z))).1 = T.setFrames fs) : Steps p.tables e below (T.setTop (mkF m pc Ls (.int z :: rest))) (T.setFrames fs) := by
  have hm' : T.vm.method? m = some meth := X.method'
  have hn : narrow .int (.int z) = .int z := rfl
  show Steps p.tables e below (T.setTop { method := m, pc := pc, locals := Ls, stack := _ :: rest, locked := none }) _
  jvm_step X.here [X.here.top, hx, hd, hm', hret, hn]
  first | (intro acts; rw [hl _ acts rfl rfl rfl]) | rw [hl _ _ rfl rfl rfl]
  exact Steps.refl _
end New
end Jvm.RoadKit
namespace Jvm.Pilot.@@N@@
open Jvm Jvm.ClassFile Sem Op Lib Jvm.Free Jvm.Stand Jvm.LawKit Jvm.RoadKit Bundle Jvm.Pilot.@@N@@.Jvm.D
theorem d1_0 : decode prog_7_method_1_code 0 = .ok (.aload_n 0, 1) := by decide +kernel
def own_F0 (x0 : Addr) (x1 : Int64) (x3 : Int64) (x5 : Int64) (x7 : Int64) : Array Slot := #[.val (.ref x0), .val (.long x1), .second, .val (.long x3), .second, .val (.long x5), .second, .val (.long x7), .second]
theorem d1_1 : decode prog_7_method_1_code 1 = .ok (.invokespecial 1, 3) := by decide +kernel
theorem d1_4 : decode prog_7_method_1_code 4 = .ok (.aload_n 0, 1) := by decide +kernel
theorem d1_5 : decode prog_7_method_1_code 5 = .ok (.lload_n 1, 1) := by decide +kernel
theorem d1_6 : decode prog_7_method_1_code 6 = .ok (.putfield 7, 3) := by decide +kernel
theorem d1_9 : decode prog_7_method_1_code 9 = .ok (.aload_n 0, 1) := by decide +kernel
theorem d1_10 : decode prog_7_method_1_code 10 = .ok (.lload_n 3, 1) := by decide +kernel
theorem d1_11 : decode prog_7_method_1_code 11 = .ok (.putfield 13, 3) := by decide +kernel
theorem d1_14 : decode prog_7_method_1_code 14 = .ok (.aload_n 0, 1) := by decide +kernel
theorem d1_15 : decode prog_7_method_1_code 15 = .ok (.lload 5, 2) := by decide +kernel
theorem d1_17 : decode prog_7_method_1_code 17 = .ok (.putfield 16, 3) := by decide +kernel
theorem d1_20 : decode prog_7_method_1_code 20 = .ok (.aload_n 0, 1) := by decide +kernel
theorem d1_21 : decode prog_7_method_1_code 21 = .ok (.lload 7, 2) := by decide +kernel
theorem d1_23 : decode prog_7_method_1_code 23 = .ok (.putfield 19, 3) := by decide +kernel
theorem d1_26 : decode prog_7_method_1_code 26 = .ok (.return_, 1) := by decide +kernel
theorem pn_com_example_rolling_ledger_rollingledger_model_IngestReport : plainName "com/example/rolling_ledger/rollingledger/model/IngestReport" = true := by first | (simp [plainName, overriddenIn]; done) | decide +kernel
theorem ef_1 (m : MethodId) (x0 : Addr) (x1 : Int64) (x2 : Int64) (x3 : Int64) (x4 : Int64) : entryFrame m #[(.ref x0), (.long x1), (.long x2), (.long x3), (.long x4)] 9 = mkF m 0 #[.val (.ref x0), .val (.long x1), .second, .val (.long x2), .second, .val (.long x3), .second, .val (.long x4), .second] [] := by first | (simp [entryFrame, mkF, argsToLocals, Value.category]; done) | rfl
def Q1 (Z : State) (a : Addr) (q1 : Int64) (q2 : Int64) (q3 : Int64) (q4 : Int64) (h0 : Heap) (n0 : Nat) (v : Option Value) (h : Heap) (L : List Loc) : Prop := v = none ∧ Fr n0 L ∧ Keep h0 h [a] ∧ Fld Z h a "com/example/rolling_ledger/rollingledger/model/IngestReport" "files" "J" (.long q1) ∧ Fld Z h a "com/example/rolling_ledger/rollingledger/model/IngestReport" "records" "J" (.long q2) ∧ Fld Z h a "com/example/rolling_ledger/rollingledger/model/IngestReport" "newCaptures" "J" (.long q3) ∧ Fld Z h a "com/example/rolling_ledger/rollingledger/model/IngestReport" "alreadyRecorded" "J" (.long q4)
set_option maxRecDepth 65536 in
set_option maxHeartbeats 40000000 in
theorem rm1 (l : Launch) (Z : State) (a0 : Array Value) (hw : ∀ d ∈ tables_1, d.before a0 Z = true) (ws : List Jvm.Cond) (a : Addr) (q1 : Int64) (q2 : Int64) (q3 : Int64) (q4 : Int64) (h0 : Heap) (n0 : Nat) (O0 : Old Z n0 h0) (E_a : Exa Z h0 a "com/example/rolling_ledger/rollingledger/model/IngestReport") (F_files_a : Fld Z h0 a "com/example/rolling_ledger/rollingledger/model/IngestReport" "files" "J" (.long (0 : Int64))) (F_records_a : Fld Z h0 a "com/example/rolling_ledger/rollingledger/model/IngestReport" "records" "J" (.long (0 : Int64))) (F_newCaptures_a : Fld Z h0 a "com/example/rolling_ledger/rollingledger/model/IngestReport" "newCaptures" "J" (.long (0 : Int64))) (F_alreadyRecorded_a : Fld Z h0 a "com/example/rolling_ledger/rollingledger/model/IngestReport" "alreadyRecorded" "J" (.long (0 : Int64))) (g_a : n0 ≤ a) :
    MetFree l (⟨"com/example/rolling_ledger/rollingledger/model/IngestReport", "<init>", "(JJJJ)V"⟩ : MethodName) (head1 (Jvm.Cond.code (⟨"com/example/rolling_ledger/rollingledger/model/IngestReport", "<init>", "(JJJJ)V"⟩ : MethodName) prog_7_method_1_code 9 none :: ws) ({ frames := 1, cells := 0, slots := 0, locals := 12 } : Room)) (fun aA uU => aA = #[(.ref a), (.long q1), (.long q2), (.long q3), (.long q4)] ∧ Z.Warmed39 uU.vm ∧ uU.heap = h0) (fun _ _ _ _ _ => True) (fun _ uU oO uU' => ∃ vV lL, oO = .returned vV ∧ Q1 Z a q1 q2 q3 q4  h0 n0 vV uU'.heap lL ∧ FrameEnd uU oO uU' lL ({ frames := 1, cells := 0, slots := 0, locals := 12 } : Room).cells ({ frames := 1, cells := 0, slots := 0, locals := 12 } : Room).slots) := by
  refine MetFree.of_bodySF (plainFor_of_name pn_com_example_rolling_ledger_rollingledger_model_IngestReport) hisR ?_
  intro p e s m args below meth c s₁ Bd hml0 hP hK
  obtain ⟨rfl, hZ, hh⟩ := hP
  have hx := Bd.exec
  have hby := Bd.bytes
  have hml : c.maxLocals = 9 := hml0
  have hown : s.vm.findClass "com/example/rolling_ledger/rollingledger/model/IngestReport" = some m.cls := findClass_of_methodNamed Bd.named
  have hnm := (name_of_methodNamed Bd.named Bd.method).1
  have X0 : Stand p l e ({ frames := 1, cells := 0, slots := 0, locals := 12 } : Room) s m #[(.ref a), (.long q1), (.long q2), (.long q3), (.long q4)] below meth c s₁ [] 0 0 := Stand.of_body Bd
  have e0 : s₁.heap = h0 := by rw [← hh, Bd.state]; rfl
  have N0 := Fr.nil n0
  have O := O0
  have K := Keep.refl h0 [a]
  have pre0 : ∀ t, Steps p.tables e below (s₁.setTop (mkF m 0 #[.val (.ref a), .val (.long q1), .second, .val (.long q2), .second, .val (.long q3), .second, .val (.long q4), .second] [])) t → Steps p.tables e below (s₁.setTop (entryFrame m #[(.ref a), (.long q1), (.long q2), (.long q3), (.long q4)] 9)) t := fun t k => castTop (ef_1 m a q1 q2 q3 q4) k
  obtain ⟨T1, X1, e1, st1⟩ := initO X0 hx hZ hown (hw _ (List.mem_of_getElem? (i := 6) rfl)) (hw _ (List.mem_of_getElem? (i := 7) rfl)) (hw _ (List.mem_of_getElem? (i := 8) rfl)) e0 (g := (mkF m 1 (own_F0 a q1 q2 q3 q4) [(.ref a)])) rfl (by rw [hml]; rfl) rfl (hb hby d1_1) (by decide) (W := 0) (by show 2 * 0 + _ ≤ _; exact Nat.le_of_eq rfl) (by decide)
  obtain ⟨T2, h2, X2, e2, W2, st2⟩ := putF X1 hx hZ hown (host := "") (Or.inl (hw _ (List.mem_of_getElem? (i := 9) rfl))) Via.refl e1 F_files_a E_a (Or.inr ⟨(hw _ (List.mem_of_getElem? (i := 10) rfl)), rfl, hnm⟩) (hw _ (List.mem_of_getElem? (i := 1) rfl)) (ty := .long) (by decide) rfl rfl (g := (mkF m 6 (own_F0 a q1 q2 q3 q4) [(.long q1), (.ref a)])) rfl rfl (hb hby d1_6)
  have F_files_a := F_files_a.same W2
  have E_a := E_a.wr W2
  have F_records_a := F_records_a.other W2 (Or.inr (slot_ne (Or.inr (hw _ (List.mem_of_getElem? (i := 12) rfl))) (Or.inr (hw _ (List.mem_of_getElem? (i := 10) rfl))) (by decide) (t := .long) (t' := .long) (by decide) (by decide)))
  have F_newCaptures_a := F_newCaptures_a.other W2 (Or.inr (slot_ne (Or.inr (hw _ (List.mem_of_getElem? (i := 14) rfl))) (Or.inr (hw _ (List.mem_of_getElem? (i := 10) rfl))) (by decide) (t := .long) (t' := .long) (by decide) (by decide)))
  have F_alreadyRecorded_a := F_alreadyRecorded_a.other W2 (Or.inr (slot_ne (Or.inr (hw _ (List.mem_of_getElem? (i := 16) rfl))) (Or.inr (hw _ (List.mem_of_getElem? (i := 10) rfl))) (by decide) (t := .long) (t' := .long) (by decide) (by decide)))
  have O := O.wr W2 g_a
  have K := K.wr W2 (Or.inl (List.mem_of_getElem? (i := 0) rfl))
  have N2 := Fr.snoc X2 N0 g_a
  obtain ⟨T3, h3, X3, e3, W3, st3⟩ := putF X2 hx hZ hown (host := "") (Or.inl (hw _ (List.mem_of_getElem? (i := 11) rfl))) Via.refl e2 F_records_a E_a (Or.inr ⟨(hw _ (List.mem_of_getElem? (i := 12) rfl)), rfl, hnm⟩) (hw _ (List.mem_of_getElem? (i := 1) rfl)) (ty := .long) (by decide) rfl rfl (g := (mkF m 11 (own_F0 a q1 q2 q3 q4) [(.long q2), (.ref a)])) rfl rfl (hb hby d1_11)
  have F_records_a := F_records_a.same W3
  have E_a := E_a.wr W3
  have F_files_a := F_files_a.other W3 (Or.inr (slot_ne (Or.inr (hw _ (List.mem_of_getElem? (i := 10) rfl))) (Or.inr (hw _ (List.mem_of_getElem? (i := 12) rfl))) (by decide) (t := .long) (t' := .long) (by decide) (by decide)))
  have F_newCaptures_a := F_newCaptures_a.other W3 (Or.inr (slot_ne (Or.inr (hw _ (List.mem_of_getElem? (i := 14) rfl))) (Or.inr (hw _ (List.mem_of_getElem? (i := 12) rfl))) (by decide) (t := .long) (t' := .long) (by decide) (by decide)))
  have F_alreadyRecorded_a := F_alreadyRecorded_a.other W3 (Or.inr (slot_ne (Or.inr (hw _ (List.mem_of_getElem? (i := 16) rfl))) (Or.inr (hw _ (List.mem_of_getElem? (i := 12) rfl))) (by decide) (t := .long) (t' := .long) (by decide) (by decide)))
  have O := O.wr W3 g_a
  have K := K.wr W3 (Or.inl (List.mem_of_getElem? (i := 0) rfl))
  have N3 := Fr.snoc X3 N2 g_a
  obtain ⟨T4, h4, X4, e4, W4, st4⟩ := putF X3 hx hZ hown (host := "") (Or.inl (hw _ (List.mem_of_getElem? (i := 13) rfl))) Via.refl e3 F_newCaptures_a E_a (Or.inr ⟨(hw _ (List.mem_of_getElem? (i := 14) rfl)), rfl, hnm⟩) (hw _ (List.mem_of_getElem? (i := 1) rfl)) (ty := .long) (by decide) rfl rfl (g := (mkF m 17 (own_F0 a q1 q2 q3 q4) [(.long q3), (.ref a)])) rfl rfl (hb hby d1_17)
  have F_newCaptures_a := F_newCaptures_a.same W4
  have E_a := E_a.wr W4
  have F_files_a := F_files_a.other W4 (Or.inr (slot_ne (Or.inr (hw _ (List.mem_of_getElem? (i := 10) rfl))) (Or.inr (hw _ (List.mem_of_getElem? (i := 14) rfl))) (by decide) (t := .long) (t' := .long) (by decide) (by decide)))
  have F_records_a := F_records_a.other W4 (Or.inr (slot_ne (Or.inr (hw _ (List.mem_of_getElem? (i := 12) rfl))) (Or.inr (hw _ (List.mem_of_getElem? (i := 14) rfl))) (by decide) (t := .long) (t' := .long) (by decide) (by decide)))
  have F_alreadyRecorded_a := F_alreadyRecorded_a.other W4 (Or.inr (slot_ne (Or.inr (hw _ (List.mem_of_getElem? (i := 16) rfl))) (Or.inr (hw _ (List.mem_of_getElem? (i := 14) rfl))) (by decide) (t := .long) (t' := .long) (by decide) (by decide)))
  have O := O.wr W4 g_a
  have K := K.wr W4 (Or.inl (List.mem_of_getElem? (i := 0) rfl))
  have N4 := Fr.snoc X4 N3 g_a
  obtain ⟨T5, h5, X5, e5, W5, st5⟩ := putF X4 hx hZ hown (host := "") (Or.inl (hw _ (List.mem_of_getElem? (i := 15) rfl))) Via.refl e4 F_alreadyRecorded_a E_a (Or.inr ⟨(hw _ (List.mem_of_getElem? (i := 16) rfl)), rfl, hnm⟩) (hw _ (List.mem_of_getElem? (i := 1) rfl)) (ty := .long) (by decide) rfl rfl (g := (mkF m 23 (own_F0 a q1 q2 q3 q4) [(.long q4), (.ref a)])) rfl rfl (hb hby d1_23)
  have F_alreadyRecorded_a := F_alreadyRecorded_a.same W5
  have E_a := E_a.wr W5
  have F_files_a := F_files_a.other W5 (Or.inr (slot_ne (Or.inr (hw _ (List.mem_of_getElem? (i := 10) rfl))) (Or.inr (hw _ (List.mem_of_getElem? (i := 16) rfl))) (by decide) (t := .long) (t' := .long) (by decide) (by decide)))
  have F_records_a := F_records_a.other W5 (Or.inr (slot_ne (Or.inr (hw _ (List.mem_of_getElem? (i := 12) rfl))) (Or.inr (hw _ (List.mem_of_getElem? (i := 16) rfl))) (by decide) (t := .long) (t' := .long) (by decide) (by decide)))
  have F_newCaptures_a := F_newCaptures_a.other W5 (Or.inr (slot_ne (Or.inr (hw _ (List.mem_of_getElem? (i := 14) rfl))) (Or.inr (hw _ (List.mem_of_getElem? (i := 16) rfl))) (by decide) (t := .long) (t' := .long) (by decide) (by decide)))
  have O := O.wr W5 g_a
  have K := K.wr W5 (Or.inl (List.mem_of_getElem? (i := 0) rfl))
  have N5 := Fr.snoc X5 N4 g_a
  have w6 : ∀ t, Steps p.tables e below (T5.setTop (mkF m 26 (own_F0 a q1 q2 q3 q4) [])) t → Steps p.tables e below (s₁.setTop (entryFrame m #[(.ref a), (.long q1), (.long q2), (.long q3), (.long q4)] 9)) t := fun t k => by
    refine pre0 t ?_
    refine XS.aloadN X0.here hx rfl (hb hby d1_0) rfl rfl ?_
    show Steps p.tables e below (s₁.setTop (mkF m 1 (own_F0 a q1 q2 q3 q4) [(.ref a)])) _
    refine st1 _ ?_
    show Steps p.tables e below (T1.setTop (mkF m 4 (own_F0 a q1 q2 q3 q4) [])) _
    refine XS.aloadN X1.here hx rfl (hb hby d1_4) rfl rfl ?_
    show Steps p.tables e below (T1.setTop (mkF m 5 (own_F0 a q1 q2 q3 q4) [(.ref a)])) _
    refine XS.lloadN X1.here hx rfl (hb hby d1_5) rfl ?_
    show Steps p.tables e below (T1.setTop (mkF m 6 (own_F0 a q1 q2 q3 q4) [(.long q1), (.ref a)])) _
    refine st2 _ ?_
    show Steps p.tables e below (T2.setTop (mkF m 9 (own_F0 a q1 q2 q3 q4) [])) _
    refine XS.aloadN X2.here hx rfl (hb hby d1_9) rfl rfl ?_
    show Steps p.tables e below (T2.setTop (mkF m 10 (own_F0 a q1 q2 q3 q4) [(.ref a)])) _
    refine XS.lloadN X2.here hx rfl (hb hby d1_10) rfl ?_
    show Steps p.tables e below (T2.setTop (mkF m 11 (own_F0 a q1 q2 q3 q4) [(.long q2), (.ref a)])) _
    refine st3 _ ?_
    show Steps p.tables e below (T3.setTop (mkF m 14 (own_F0 a q1 q2 q3 q4) [])) _
    refine XS.aloadN X3.here hx rfl (hb hby d1_14) rfl rfl ?_
    show Steps p.tables e below (T3.setTop (mkF m 15 (own_F0 a q1 q2 q3 q4) [(.ref a)])) _
    refine XS.lload X3.here hx rfl (hb hby d1_15) rfl ?_
    show Steps p.tables e below (T3.setTop (mkF m 17 (own_F0 a q1 q2 q3 q4) [(.long q3), (.ref a)])) _
    refine st4 _ ?_
    show Steps p.tables e below (T4.setTop (mkF m 20 (own_F0 a q1 q2 q3 q4) [])) _
    refine XS.aloadN X4.here hx rfl (hb hby d1_20) rfl rfl ?_
    show Steps p.tables e below (T4.setTop (mkF m 21 (own_F0 a q1 q2 q3 q4) [(.ref a)])) _
    refine XS.lload X4.here hx rfl (hb hby d1_21) rfl ?_
    show Steps p.tables e below (T4.setTop (mkF m 23 (own_F0 a q1 q2 q3 q4) [(.long q4), (.ref a)])) _
    refine st5 _ ?_
    show Steps p.tables e below (T5.setTop (mkF m 26 (own_F0 a q1 q2 q3 q4) [])) _
    exact k
  obtain ⟨fs, hr, hrun, hended, hW, hsame⟩ := X5.leave (v := none) (fun _ => rfl)
  refine ⟨_, _, w6 _ ?_, hrun, hended, _, _, rfl, ?_, ⟨_, rfl⟩, hW, hsame.mono (by decide) (by decide)⟩
  · exact X5.returnOut hx Bd.returns (hb hby d1_26) hr
  · show Q1 Z a q1 q2 q3 q4  h0 n0 _ T5.heap _
    rw [e5]
    exact ⟨rfl, N5, K, F_files_a, F_records_a, F_newCaptures_a, F_alreadyRecorded_a⟩
theorem d3_0 : decode prog_7_method_7_code 0 = .ok (.new 8, 3) := by decide +kernel
theorem d3_3 : decode prog_7_method_7_code 3 = .ok (.dup, 1) := by decide +kernel
theorem d3_4 : decode prog_7_method_7_code 4 = .ok (.aload_n 0, 1) := by decide +kernel
theorem d3_5 : decode prog_7_method_7_code 5 = .ok (.getfield 7, 3) := by decide +kernel
theorem d3_8 : decode prog_7_method_7_code 8 = .ok (.aload_n 1, 1) := by decide +kernel
theorem d3_9 : decode prog_7_method_7_code 9 = .ok (.getfield 7, 3) := by decide +kernel
theorem d3_12 : decode prog_7_method_7_code 12 = .ok (.ladd, 1) := by decide +kernel
theorem d3_13 : decode prog_7_method_7_code 13 = .ok (.aload_n 0, 1) := by decide +kernel
theorem d3_14 : decode prog_7_method_7_code 14 = .ok (.getfield 13, 3) := by decide +kernel
theorem d3_17 : decode prog_7_method_7_code 17 = .ok (.aload_n 1, 1) := by decide +kernel
theorem d3_18 : decode prog_7_method_7_code 18 = .ok (.getfield 13, 3) := by decide +kernel
theorem d3_21 : decode prog_7_method_7_code 21 = .ok (.ladd, 1) := by decide +kernel
theorem d3_22 : decode prog_7_method_7_code 22 = .ok (.aload_n 0, 1) := by decide +kernel
theorem d3_23 : decode prog_7_method_7_code 23 = .ok (.getfield 16, 3) := by decide +kernel
theorem d3_26 : decode prog_7_method_7_code 26 = .ok (.aload_n 1, 1) := by decide +kernel
theorem d3_27 : decode prog_7_method_7_code 27 = .ok (.getfield 16, 3) := by decide +kernel
theorem d3_30 : decode prog_7_method_7_code 30 = .ok (.ladd, 1) := by decide +kernel
theorem d3_31 : decode prog_7_method_7_code 31 = .ok (.aload_n 0, 1) := by decide +kernel
theorem d3_32 : decode prog_7_method_7_code 32 = .ok (.getfield 19, 3) := by decide +kernel
theorem d3_35 : decode prog_7_method_7_code 35 = .ok (.aload_n 1, 1) := by decide +kernel
theorem d3_36 : decode prog_7_method_7_code 36 = .ok (.getfield 19, 3) := by decide +kernel
theorem d3_39 : decode prog_7_method_7_code 39 = .ok (.ladd, 1) := by decide +kernel
theorem d3_40 : decode prog_7_method_7_code 40 = .ok (.invokespecial 22, 3) := by decide +kernel
theorem pd__40JJJJ_41V : parseMethodDescriptor "(JJJJ)V" = some ⟨[.long, .long, .long, .long], none⟩ := by decide +kernel
theorem d3_43 : decode prog_7_method_7_code 43 = .ok (.areturn, 1) := by decide +kernel
theorem ef_3 (m : MethodId) (x0 : Addr) (x1 : Addr) : entryFrame m #[(.ref x0), (.ref x1)] 2 = mkF m 0 #[.val (.ref x0), .val (.ref x1)] [] := by first | (simp [entryFrame, mkF, argsToLocals, Value.category]; done) | rfl
def Q3 (Z : State) (a : Addr) (b : Addr) (q1 : Int64) (q2 : Int64) (q3 : Int64) (q4 : Int64) (r1 : Int64) (r2 : Int64) (r3 : Int64) (r4 : Int64) (h0 : Heap) (n0 : Nat) (v : Option Value) (h : Heap) (L : List Loc) : Prop := ∃ z : Addr, v = some (.ref z) ∧ Fr n0 L ∧ Keep h0 h [] ∧ Exa Z h z "com/example/rolling_ledger/rollingledger/model/IngestReport" ∧ Fld Z h z "com/example/rolling_ledger/rollingledger/model/IngestReport" "files" "J" (.long (q1 + r1)) ∧ Fld Z h z "com/example/rolling_ledger/rollingledger/model/IngestReport" "records" "J" (.long (q2 + r2)) ∧ Fld Z h z "com/example/rolling_ledger/rollingledger/model/IngestReport" "newCaptures" "J" (.long (q3 + r3)) ∧ Fld Z h z "com/example/rolling_ledger/rollingledger/model/IngestReport" "alreadyRecorded" "J" (.long (q4 + r4)) ∧ h0.size ≤ z ∧ n0 ≤ z
set_option maxRecDepth 65536 in
set_option maxHeartbeats 40000000 in
theorem rm3 (l : Launch) (Z : State) (a0 : Array Value) (hw : ∀ d ∈ tables_1, d.before a0 Z = true) (ws : List Jvm.Cond) (a : Addr) (b : Addr) (q1 : Int64) (q2 : Int64) (q3 : Int64) (q4 : Int64) (r1 : Int64) (r2 : Int64) (r3 : Int64) (r4 : Int64) (h0 : Heap) (n0 : Nat) (O0 : Old Z n0 h0) (F_files_a : Fld Z h0 a "com/example/rolling_ledger/rollingledger/model/IngestReport" "files" "J" (.long q1)) (F_records_a : Fld Z h0 a "com/example/rolling_ledger/rollingledger/model/IngestReport" "records" "J" (.long q2)) (F_newCaptures_a : Fld Z h0 a "com/example/rolling_ledger/rollingledger/model/IngestReport" "newCaptures" "J" (.long q3)) (F_alreadyRecorded_a : Fld Z h0 a "com/example/rolling_ledger/rollingledger/model/IngestReport" "alreadyRecorded" "J" (.long q4)) (F_files_b : Fld Z h0 b "com/example/rolling_ledger/rollingledger/model/IngestReport" "files" "J" (.long r1)) (F_records_b : Fld Z h0 b "com/example/rolling_ledger/rollingledger/model/IngestReport" "records" "J" (.long r2)) (F_newCaptures_b : Fld Z h0 b "com/example/rolling_ledger/rollingledger/model/IngestReport" "newCaptures" "J" (.long r3)) (F_alreadyRecorded_b : Fld Z h0 b "com/example/rolling_ledger/rollingledger/model/IngestReport" "alreadyRecorded" "J" (.long r4)) :
    MetFree l (⟨"com/example/rolling_ledger/rollingledger/model/IngestReport", "plus", "(Lcom/example/rolling_ledger/rollingledger/model/IngestReport;)Lcom/example/rolling_ledger/rollingledger/model/IngestReport;"⟩ : MethodName) (head1 (Jvm.Cond.code (⟨"com/example/rolling_ledger/rollingledger/model/IngestReport", "plus", "(Lcom/example/rolling_ledger/rollingledger/model/IngestReport;)Lcom/example/rolling_ledger/rollingledger/model/IngestReport;"⟩ : MethodName) prog_7_method_7_code 2 (some (.object "com/example/rolling_ledger/rollingledger/model/IngestReport")) :: ws) ({ frames := 2, cells := 1, slots := 4, locals := 33 } : Room)) (fun aA uU => aA = #[(.ref a), (.ref b)] ∧ Z.Warmed39 uU.vm ∧ uU.heap = h0) (fun _ _ _ _ _ => True) (fun _ uU oO uU' => ∃ vV lL, oO = .returned vV ∧ Q3 Z a b q1 q2 q3 q4 r1 r2 r3 r4  h0 n0 vV uU'.heap lL ∧ FrameEnd uU oO uU' lL ({ frames := 2, cells := 1, slots := 4, locals := 33 } : Room).cells ({ frames := 2, cells := 1, slots := 4, locals := 33 } : Room).slots) := by
  refine MetFree.of_bodySF (plainFor_of_name pn_com_example_rolling_ledger_rollingledger_model_IngestReport) hisR ?_
  intro p e s m args below meth c s₁ Bd hml0 hP hK
  obtain ⟨rfl, hZ, hh⟩ := hP
  have hx := Bd.exec
  have hby := Bd.bytes
  have hml : c.maxLocals = 2 := hml0
  have hown : s.vm.findClass "com/example/rolling_ledger/rollingledger/model/IngestReport" = some m.cls := findClass_of_methodNamed Bd.named
  have hnm := (name_of_methodNamed Bd.named Bd.method).1
  have X0 : Stand p l e ({ frames := 2, cells := 1, slots := 4, locals := 33 } : Room) s m #[(.ref a), (.ref b)] below meth c s₁ [] 0 0 := Stand.of_body Bd
  have e0 : s₁.heap = h0 := by rw [← hh, Bd.state]; rfl
  have N0 := Fr.nil n0
  have O := O0
  have K := Keep.refl h0 []
  have pre0 : ∀ t, Steps p.tables e below (s₁.setTop (mkF m 0 #[.val (.ref a), .val (.ref b)] [])) t → Steps p.tables e below (s₁.setTop (entryFrame m #[(.ref a), (.ref b)] 2)) t := fun t k => castTop (ef_3 m a b) k
  obtain ⟨T1, h1, X1, e1, E1, A1, D1, -, st1⟩ := newO X0 hx hZ hown (hw _ (List.mem_of_getElem? (i := 22) rfl)) (hw _ (List.mem_of_getElem? (i := 1) rfl)) (hw _ (List.mem_of_getElem? (i := 2) rfl)) e0 (g := (mkF m 0 #[.val (.ref a), .val (.ref b)] [])) rfl (hb hby d3_0) (by decide) (by decide)
  obtain ⟨b1, gq1⟩ : ∃ z, z = Array.size h0 := ⟨_, rfl⟩
  rw [← gq1] at A1 D1 st1
  have ne_a_b1 : a ≠ b1 := Nat.ne_of_lt (Nat.lt_of_lt_of_le F_files_a.lt (Nat.le_of_eq gq1.symm))
  have ne_b_b1 : b ≠ b1 := Nat.ne_of_lt (Nat.lt_of_lt_of_le F_files_b.lt (Nat.le_of_eq gq1.symm))
  have g_b1 : n0 ≤ b1 := Nat.le_trans (O.1 ▸ O.2.1) (Nat.le_of_eq gq1.symm)
  have z_b1 : h0.size ≤ b1 := Nat.le_trans K.1 (Nat.le_of_eq gq1.symm)
  have F_files_a := F_files_a.ext E1
  have F_records_a := F_records_a.ext E1
  have F_newCaptures_a := F_newCaptures_a.ext E1
  have F_alreadyRecorded_a := F_alreadyRecorded_a.ext E1
  have F_files_b := F_files_b.ext E1
  have F_records_b := F_records_b.ext E1
  have F_newCaptures_b := F_newCaptures_b.ext E1
  have F_alreadyRecorded_b := F_alreadyRecorded_b.ext E1
  have O := O.ext E1
  have K := K.ext E1
  have F_files_b1 : Fld Z h1 b1 "com/example/rolling_ledger/rollingledger/model/IngestReport" "files" "J" (.long (0 : Int64)) := D1 (Or.inr (hw _ (List.mem_of_getElem? (i := 10) rfl))) (ty := .long) (by decide)
  have F_records_b1 : Fld Z h1 b1 "com/example/rolling_ledger/rollingledger/model/IngestReport" "records" "J" (.long (0 : Int64)) := D1 (Or.inr (hw _ (List.mem_of_getElem? (i := 12) rfl))) (ty := .long) (by decide)
  have F_newCaptures_b1 : Fld Z h1 b1 "com/example/rolling_ledger/rollingledger/model/IngestReport" "newCaptures" "J" (.long (0 : Int64)) := D1 (Or.inr (hw _ (List.mem_of_getElem? (i := 14) rfl))) (ty := .long) (by decide)
  have F_alreadyRecorded_b1 : Fld Z h1 b1 "com/example/rolling_ledger/rollingledger/model/IngestReport" "alreadyRecorded" "J" (.long (0 : Int64)) := D1 (Or.inr (hw _ (List.mem_of_getElem? (i := 16) rfl))) (ty := .long) (by decide)
  obtain ⟨T2, X2, e2, st2⟩ := getF X1 hx hZ hown (host := "") (Or.inl (hw _ (List.mem_of_getElem? (i := 9) rfl))) Via.refl e1 F_files_a (g := (mkF m 5 #[.val (.ref a), .val (.ref b)] [(.ref a), (.ref b1), (.ref b1)])) rfl rfl (hb hby d3_5)
  obtain ⟨T3, X3, e3, st3⟩ := getF X2 hx hZ hown (host := "") (Or.inl (hw _ (List.mem_of_getElem? (i := 9) rfl))) Via.refl e2 F_files_b (g := (mkF m 9 #[.val (.ref a), .val (.ref b)] [(.ref b), (.long q1), (.ref b1), (.ref b1)])) rfl rfl (hb hby d3_9)
  obtain ⟨T4, X4, e4, st4⟩ := getF X3 hx hZ hown (host := "") (Or.inl (hw _ (List.mem_of_getElem? (i := 11) rfl))) Via.refl e3 F_records_a (g := (mkF m 14 #[.val (.ref a), .val (.ref b)] [(.ref a), (.long (q1 + r1)), (.ref b1), (.ref b1)])) rfl rfl (hb hby d3_14)
  obtain ⟨T5, X5, e5, st5⟩ := getF X4 hx hZ hown (host := "") (Or.inl (hw _ (List.mem_of_getElem? (i := 11) rfl))) Via.refl e4 F_records_b (g := (mkF m 18 #[.val (.ref a), .val (.ref b)] [(.ref b), (.long q2), (.long (q1 + r1)), (.ref b1), (.ref b1)])) rfl rfl (hb hby d3_18)
  obtain ⟨T6, X6, e6, st6⟩ := getF X5 hx hZ hown (host := "") (Or.inl (hw _ (List.mem_of_getElem? (i := 13) rfl))) Via.refl e5 F_newCaptures_a (g := (mkF m 23 #[.val (.ref a), .val (.ref b)] [(.ref a), (.long (q2 + r2)), (.long (q1 + r1)), (.ref b1), (.ref b1)])) rfl rfl (hb hby d3_23)
  obtain ⟨T7, X7, e7, st7⟩ := getF X6 hx hZ hown (host := "") (Or.inl (hw _ (List.mem_of_getElem? (i := 13) rfl))) Via.refl e6 F_newCaptures_b (g := (mkF m 27 #[.val (.ref a), .val (.ref b)] [(.ref b), (.long q3), (.long (q2 + r2)), (.long (q1 + r1)), (.ref b1), (.ref b1)])) rfl rfl (hb hby d3_27)
  obtain ⟨T8, X8, e8, st8⟩ := getF X7 hx hZ hown (host := "") (Or.inl (hw _ (List.mem_of_getElem? (i := 15) rfl))) Via.refl e7 F_alreadyRecorded_a (g := (mkF m 32 #[.val (.ref a), .val (.ref b)] [(.ref a), (.long (q3 + r3)), (.long (q2 + r2)), (.long (q1 + r1)), (.ref b1), (.ref b1)])) rfl rfl (hb hby d3_32)
  obtain ⟨T9, X9, e9, st9⟩ := getF X8 hx hZ hown (host := "") (Or.inl (hw _ (List.mem_of_getElem? (i := 15) rfl))) Via.refl e8 F_alreadyRecorded_b (g := (mkF m 36 #[.val (.ref a), .val (.ref b)] [(.ref b), (.long q4), (.long (q3 + r3)), (.long (q2 + r2)), (.long (q1 + r1)), (.ref b1), (.ref b1)])) rfl rfl (hb hby d3_36)
  obtain ⟨_, _, ⟨T10, L10, k10, n10⟩, -, X10, ⟨Lc10, hQ10, l10, y10, z10⟩, st10⟩ := X9.specialBack hx (y := (⟨"com/example/rolling_ledger/rollingledger/model/IngestReport", "<init>", "(JJJJ)V"⟩ : MethodName)) rfl hown (mvT hZ (hw _ (List.mem_of_getElem? (i := 23) rfl))) (mvT hZ (hw _ (List.mem_of_getElem? (i := 4) rfl))) (mvT hZ (hw _ (List.mem_of_getElem? (i := 5) rfl))) (by decide) (backOf (W := 1) (rm1 l Z a0 hw [] b1 (q1 + r1) (q2 + r2) (q3 + r3) (q4 + r4) h1 n0 O A1 F_files_b1 F_records_b1 F_newCaptures_b1 F_alreadyRecorded_b1 g_b1) hZ (hw _ (List.mem_of_getElem? (i := 5) rfl)) (hw _ (List.mem_of_getElem? (i := 2) rfl)) (by decide) (by decide)) (g := (mkF m 40 #[.val (.ref a), .val (.ref b)] [(.long (q4 + r4)), (.long (q3 + r3)), (.long (q2 + r2)), (.long (q1 + r1)), (.ref b1), (.ref b1)])) rfl (by rw [hml]; rfl) (Steps.refl _) (a := b1) (argsL := [(.long (q1 + r1)), (.long (q2 + r2)), (.long (q3 + r3)), (.long (q4 + r4))]) (rest := [(.ref b1)]) (lenOf pd__40JJJJ_41V rfl) rfl (by show 2 * 0 + _ ≤ _; exact Nat.le_of_eq rfl) (hb hby d3_40) (fun _ _ => ⟨rfl, e9, (by decide : 1 + 0 ≤ _), (by decide : 4 + 0 ≤ _)⟩)
  dsimp only [Pt.U, Pt.locs, Pt.cells, Pt.slots] at X10 l10 y10 z10 st10 hQ10
  subst l10 y10 z10
  obtain ⟨rfl, N10q, K10, F_files_a_c10, F_records_a_c10, F_newCaptures_a_c10, F_alreadyRecorded_a_c10⟩ := hQ10
  have N10 := Fr.app N0 N10q
  have F_files_a := F_files_a.keep K10 (ninS ne_a_b1 nin0)
  have F_records_a := F_records_a.keep K10 (ninS ne_a_b1 nin0)
  have F_newCaptures_a := F_newCaptures_a.keep K10 (ninS ne_a_b1 nin0)
  have F_alreadyRecorded_a := F_alreadyRecorded_a.keep K10 (ninS ne_a_b1 nin0)
  have F_files_b := F_files_b.keep K10 (ninS ne_b_b1 nin0)
  have F_records_b := F_records_b.keep K10 (ninS ne_b_b1 nin0)
  have F_newCaptures_b := F_newCaptures_b.keep K10 (ninS ne_b_b1 nin0)
  have F_alreadyRecorded_b := F_alreadyRecorded_b.keep K10 (ninS ne_b_b1 nin0)
  have A1 := A1.keep K10
  have O := O.keep K10 (allS g_b1 all0)
  have K := K.trans K10 (allS (Or.inr z_b1) all0)
  have w11 : ∀ t, Steps p.tables e below (T10.setTop (mkF m 43 #[.val (.ref a), .val (.ref b)] [(.ref b1)])) t → Steps p.tables e below (s₁.setTop (entryFrame m #[(.ref a), (.ref b)] 2)) t := fun t k => by
    refine pre0 t ?_
    refine st1 _ ?_
    show Steps p.tables e below (T1.setTop (mkF m 3 #[.val (.ref a), .val (.ref b)] [(.ref b1)])) _
    refine XS.dup X1.here hx rfl (hb hby d3_3) rfl rfl ?_
    show Steps p.tables e below (T1.setTop (mkF m 4 #[.val (.ref a), .val (.ref b)] [(.ref b1), (.ref b1)])) _
    refine XS.aloadN X1.here hx rfl (hb hby d3_4) rfl rfl ?_
    show Steps p.tables e below (T1.setTop (mkF m 5 #[.val (.ref a), .val (.ref b)] [(.ref a), (.ref b1), (.ref b1)])) _
    refine st2 _ ?_
    show Steps p.tables e below (T2.setTop (mkF m 8 #[.val (.ref a), .val (.ref b)] [(.long q1), (.ref b1), (.ref b1)])) _
    refine XS.aloadN X2.here hx rfl (hb hby d3_8) rfl rfl ?_
    show Steps p.tables e below (T2.setTop (mkF m 9 #[.val (.ref a), .val (.ref b)] [(.ref b), (.long q1), (.ref b1), (.ref b1)])) _
    refine st3 _ ?_
    show Steps p.tables e below (T3.setTop (mkF m 12 #[.val (.ref a), .val (.ref b)] [(.long r1), (.long q1), (.ref b1), (.ref b1)])) _
    refine XS.ladd X3.here hx rfl (hb hby d3_12) rfl ?_
    show Steps p.tables e below (T3.setTop (mkF m 13 #[.val (.ref a), .val (.ref b)] [(.long (q1 + r1)), (.ref b1), (.ref b1)])) _
    refine XS.aloadN X3.here hx rfl (hb hby d3_13) rfl rfl ?_
    show Steps p.tables e below (T3.setTop (mkF m 14 #[.val (.ref a), .val (.ref b)] [(.ref a), (.long (q1 + r1)), (.ref b1), (.ref b1)])) _
    refine st4 _ ?_
    show Steps p.tables e below (T4.setTop (mkF m 17 #[.val (.ref a), .val (.ref b)] [(.long q2), (.long (q1 + r1)), (.ref b1), (.ref b1)])) _
    refine XS.aloadN X4.here hx rfl (hb hby d3_17) rfl rfl ?_
    show Steps p.tables e below (T4.setTop (mkF m 18 #[.val (.ref a), .val (.ref b)] [(.ref b), (.long q2), (.long (q1 + r1)), (.ref b1), (.ref b1)])) _
    refine st5 _ ?_
    show Steps p.tables e below (T5.setTop (mkF m 21 #[.val (.ref a), .val (.ref b)] [(.long r2), (.long q2), (.long (q1 + r1)), (.ref b1), (.ref b1)])) _
    refine XS.ladd X5.here hx rfl (hb hby d3_21) rfl ?_
    show Steps p.tables e below (T5.setTop (mkF m 22 #[.val (.ref a), .val (.ref b)] [(.long (q2 + r2)), (.long (q1 + r1)), (.ref b1), (.ref b1)])) _
    refine XS.aloadN X5.here hx rfl (hb hby d3_22) rfl rfl ?_
    show Steps p.tables e below (T5.setTop (mkF m 23 #[.val (.ref a), .val (.ref b)] [(.ref a), (.long (q2 + r2)), (.long (q1 + r1)), (.ref b1), (.ref b1)])) _
    refine st6 _ ?_
    show Steps p.tables e below (T6.setTop (mkF m 26 #[.val (.ref a), .val (.ref b)] [(.long q3), (.long (q2 + r2)), (.long (q1 + r1)), (.ref b1), (.ref b1)])) _
    refine XS.aloadN X6.here hx rfl (hb hby d3_26) rfl rfl ?_
    show Steps p.tables e below (T6.setTop (mkF m 27 #[.val (.ref a), .val (.ref b)] [(.ref b), (.long q3), (.long (q2 + r2)), (.long (q1 + r1)), (.ref b1), (.ref b1)])) _
    refine st7 _ ?_
    show Steps p.tables e below (T7.setTop (mkF m 30 #[.val (.ref a), .val (.ref b)] [(.long r3), (.long q3), (.long (q2 + r2)), (.long (q1 + r1)), (.ref b1), (.ref b1)])) _
    refine XS.ladd X7.here hx rfl (hb hby d3_30) rfl ?_
    show Steps p.tables e below (T7.setTop (mkF m 31 #[.val (.ref a), .val (.ref b)] [(.long (q3 + r3)), (.long (q2 + r2)), (.long (q1 + r1)), (.ref b1), (.ref b1)])) _
    refine XS.aloadN X7.here hx rfl (hb hby d3_31) rfl rfl ?_
    show Steps p.tables e below (T7.setTop (mkF m 32 #[.val (.ref a), .val (.ref b)] [(.ref a), (.long (q3 + r3)), (.long (q2 + r2)), (.long (q1 + r1)), (.ref b1), (.ref b1)])) _
    refine st8 _ ?_
    show Steps p.tables e below (T8.setTop (mkF m 35 #[.val (.ref a), .val (.ref b)] [(.long q4), (.long (q3 + r3)), (.long (q2 + r2)), (.long (q1 + r1)), (.ref b1), (.ref b1)])) _
    refine XS.aloadN X8.here hx rfl (hb hby d3_35) rfl rfl ?_
    show Steps p.tables e below (T8.setTop (mkF m 36 #[.val (.ref a), .val (.ref b)] [(.ref b), (.long q4), (.long (q3 + r3)), (.long (q2 + r2)), (.long (q1 + r1)), (.ref b1), (.ref b1)])) _
    refine st9 _ ?_
    show Steps p.tables e below (T9.setTop (mkF m 39 #[.val (.ref a), .val (.ref b)] [(.long r4), (.long q4), (.long (q3 + r3)), (.long (q2 + r2)), (.long (q1 + r1)), (.ref b1), (.ref b1)])) _
    refine XS.ladd X9.here hx rfl (hb hby d3_39) rfl ?_
    show Steps p.tables e below (T9.setTop (mkF m 40 #[.val (.ref a), .val (.ref b)] [(.long (q4 + r4)), (.long (q3 + r3)), (.long (q2 + r2)), (.long (q1 + r1)), (.ref b1), (.ref b1)])) _
    refine st10.trans ?_
    show Steps p.tables e below (T10.setTop (mkF m 43 #[.val (.ref a), .val (.ref b)] [(.ref b1)])) _
    exact k
  obtain ⟨fs, hr, hrun, hended, hW, hsame⟩ := X10.leave (v := some (.ref b1)) (fun h => by rw [Bd.returns] at h; cases h)
  refine ⟨_, _, w11 _ ?_, hrun, hended, _, _, rfl, ?_, ⟨_, rfl⟩, hW, hsame.mono (by decide) (by decide)⟩
  · jvm_step X10.here [X10.here.top, hx, (hb hby d3_43), X10.method', Bd.returns, Value.isRef, FieldType.isReference]
    first | (intro acts; rw [hr _ acts rfl rfl rfl]) | rw [hr _ _ rfl rfl rfl]
    exact Steps.refl _
  · show Q3 Z a b q1 q2 q3 q4 r1 r2 r3 r4  h0 n0 _ T10.heap _
    exact ⟨b1, rfl, N10, K, A1, F_files_a_c10, F_records_a_c10, F_newCaptures_a_c10, F_alreadyRecorded_a_c10, z_b1, g_b1⟩
theorem d4_0 : decode prog_7_method_2_code 0 = .ok (.aload_n 0, 1) := by decide +kernel
theorem d4_1 : decode prog_7_method_2_code 1 = .ok (.getfield 7, 3) := by decide +kernel
theorem d4_4 : decode prog_7_method_2_code 4 = .ok (.lreturn, 1) := by decide +kernel
theorem ef_4 (m : MethodId) (x0 : Addr) : entryFrame m #[(.ref x0)] 1 = mkF m 0 #[.val (.ref x0)] [] := by first | (simp [entryFrame, mkF, argsToLocals, Value.category]; done) | rfl
def Q4 (Z : State) (a : Addr) (q : Int64) (h0 : Heap) (n0 : Nat) (v : Option Value) (h : Heap) (L : List Loc) : Prop := v = some (.long q) ∧ Fr n0 L ∧ h = h0
set_option maxRecDepth 65536 in
set_option maxHeartbeats 40000000 in
theorem rm4 (l : Launch) (Z : State) (a0 : Array Value) (hw : ∀ d ∈ tables_1, d.before a0 Z = true) (ws : List Jvm.Cond) (a : Addr) (q : Int64) (h0 : Heap) (n0 : Nat) (O0 : Old Z n0 h0) (F_files_a : Fld Z h0 a "com/example/rolling_ledger/rollingledger/model/IngestReport" "files" "J" (.long q)) :
    MetFree l (⟨"com/example/rolling_ledger/rollingledger/model/IngestReport", "files", "()J"⟩ : MethodName) (head1 (Jvm.Cond.code (⟨"com/example/rolling_ledger/rollingledger/model/IngestReport", "files", "()J"⟩ : MethodName) prog_7_method_2_code 1 (some .long) :: ws) ({ frames := 0, cells := 0, slots := 0, locals := 0 } : Room)) (fun aA uU => aA = #[(.ref a)] ∧ Z.Warmed39 uU.vm ∧ uU.heap = h0) (fun _ _ _ _ _ => True) (fun _ uU oO uU' => ∃ vV lL, oO = .returned vV ∧ Q4 Z a q  h0 n0 vV uU'.heap lL ∧ FrameEnd uU oO uU' lL ({ frames := 0, cells := 0, slots := 0, locals := 0 } : Room).cells ({ frames := 0, cells := 0, slots := 0, locals := 0 } : Room).slots) := by
  refine MetFree.of_bodySF (plainFor_of_name pn_com_example_rolling_ledger_rollingledger_model_IngestReport) hisR ?_
  intro p e s m args below meth c s₁ Bd hml0 hP hK
  obtain ⟨rfl, hZ, hh⟩ := hP
  have hx := Bd.exec
  have hby := Bd.bytes
  have hml : c.maxLocals = 1 := hml0
  have hown : s.vm.findClass "com/example/rolling_ledger/rollingledger/model/IngestReport" = some m.cls := findClass_of_methodNamed Bd.named
  have hnm := (name_of_methodNamed Bd.named Bd.method).1
  have X0 : Stand p l e ({ frames := 0, cells := 0, slots := 0, locals := 0 } : Room) s m #[(.ref a)] below meth c s₁ [] 0 0 := Stand.of_body Bd
  have e0 : s₁.heap = h0 := by rw [← hh, Bd.state]; rfl
  have N0 := Fr.nil n0
  have O := O0
  have pre0 : ∀ t, Steps p.tables e below (s₁.setTop (mkF m 0 #[.val (.ref a)] [])) t → Steps p.tables e below (s₁.setTop (entryFrame m #[(.ref a)] 1)) t := fun t k => castTop (ef_4 m a) k
  obtain ⟨T1, X1, e1, st1⟩ := getF X0 hx hZ hown (host := "") (Or.inl (hw _ (List.mem_of_getElem? (i := 9) rfl))) Via.refl e0 F_files_a (g := (mkF m 1 #[.val (.ref a)] [(.ref a)])) rfl rfl (hb hby d4_1)
  have w2 : ∀ t, Steps p.tables e below (T1.setTop (mkF m 4 #[.val (.ref a)] [(.long q)])) t → Steps p.tables e below (s₁.setTop (entryFrame m #[(.ref a)] 1)) t := fun t k => by
    refine pre0 t ?_
    refine XS.aloadN X0.here hx rfl (hb hby d4_0) rfl rfl ?_
    show Steps p.tables e below (s₁.setTop (mkF m 1 #[.val (.ref a)] [(.ref a)])) _
    refine st1 _ ?_
    show Steps p.tables e below (T1.setTop (mkF m 4 #[.val (.ref a)] [(.long q)])) _
    exact k
  obtain ⟨fs, hr, hrun, hended, hW, hsame⟩ := X1.leave (v := some (.long q)) (fun h => by rw [Bd.returns] at h; cases h)
  refine ⟨_, _, w2 _ ?_, hrun, hended, _, _, rfl, ?_, ⟨_, rfl⟩, hW, hsame.mono (by decide) (by decide)⟩
  · jvm_step X1.here [X1.here.top, hx, (hb hby d4_4), X1.method', Bd.returns, narrow]
    first | (intro acts; rw [hr _ acts rfl rfl rfl]) | rw [hr _ _ rfl rfl rfl]
    exact Steps.refl _
  · show Q4 Z a q  h0 n0 _ T1.heap _
    rw [e1]
    exact ⟨rfl, N0, rfl⟩
theorem d5_0 : decode prog_7_method_3_code 0 = .ok (.aload_n 0, 1) := by decide +kernel
theorem d5_1 : decode prog_7_method_3_code 1 = .ok (.getfield 13, 3) := by decide +kernel
theorem d5_4 : decode prog_7_method_3_code 4 = .ok (.lreturn, 1) := by decide +kernel
theorem ef_5 (m : MethodId) (x0 : Addr) : entryFrame m #[(.ref x0)] 1 = mkF m 0 #[.val (.ref x0)] [] := by first | (simp [entryFrame, mkF, argsToLocals, Value.category]; done) | rfl
def Q5 (Z : State) (a : Addr) (q : Int64) (h0 : Heap) (n0 : Nat) (v : Option Value) (h : Heap) (L : List Loc) : Prop := v = some (.long q) ∧ Fr n0 L ∧ h = h0
set_option maxRecDepth 65536 in
set_option maxHeartbeats 40000000 in
theorem rm5 (l : Launch) (Z : State) (a0 : Array Value) (hw : ∀ d ∈ tables_1, d.before a0 Z = true) (ws : List Jvm.Cond) (a : Addr) (q : Int64) (h0 : Heap) (n0 : Nat) (O0 : Old Z n0 h0) (F_records_a : Fld Z h0 a "com/example/rolling_ledger/rollingledger/model/IngestReport" "records" "J" (.long q)) :
    MetFree l (⟨"com/example/rolling_ledger/rollingledger/model/IngestReport", "records", "()J"⟩ : MethodName) (head1 (Jvm.Cond.code (⟨"com/example/rolling_ledger/rollingledger/model/IngestReport", "records", "()J"⟩ : MethodName) prog_7_method_3_code 1 (some .long) :: ws) ({ frames := 0, cells := 0, slots := 0, locals := 0 } : Room)) (fun aA uU => aA = #[(.ref a)] ∧ Z.Warmed39 uU.vm ∧ uU.heap = h0) (fun _ _ _ _ _ => True) (fun _ uU oO uU' => ∃ vV lL, oO = .returned vV ∧ Q5 Z a q  h0 n0 vV uU'.heap lL ∧ FrameEnd uU oO uU' lL ({ frames := 0, cells := 0, slots := 0, locals := 0 } : Room).cells ({ frames := 0, cells := 0, slots := 0, locals := 0 } : Room).slots) := by
  refine MetFree.of_bodySF (plainFor_of_name pn_com_example_rolling_ledger_rollingledger_model_IngestReport) hisR ?_
  intro p e s m args below meth c s₁ Bd hml0 hP hK
  obtain ⟨rfl, hZ, hh⟩ := hP
  have hx := Bd.exec
  have hby := Bd.bytes
  have hml : c.maxLocals = 1 := hml0
  have hown : s.vm.findClass "com/example/rolling_ledger/rollingledger/model/IngestReport" = some m.cls := findClass_of_methodNamed Bd.named
  have hnm := (name_of_methodNamed Bd.named Bd.method).1
  have X0 : Stand p l e ({ frames := 0, cells := 0, slots := 0, locals := 0 } : Room) s m #[(.ref a)] below meth c s₁ [] 0 0 := Stand.of_body Bd
  have e0 : s₁.heap = h0 := by rw [← hh, Bd.state]; rfl
  have N0 := Fr.nil n0
  have O := O0
  have pre0 : ∀ t, Steps p.tables e below (s₁.setTop (mkF m 0 #[.val (.ref a)] [])) t → Steps p.tables e below (s₁.setTop (entryFrame m #[(.ref a)] 1)) t := fun t k => castTop (ef_5 m a) k
  obtain ⟨T1, X1, e1, st1⟩ := getF X0 hx hZ hown (host := "") (Or.inl (hw _ (List.mem_of_getElem? (i := 11) rfl))) Via.refl e0 F_records_a (g := (mkF m 1 #[.val (.ref a)] [(.ref a)])) rfl rfl (hb hby d5_1)
  have w2 : ∀ t, Steps p.tables e below (T1.setTop (mkF m 4 #[.val (.ref a)] [(.long q)])) t → Steps p.tables e below (s₁.setTop (entryFrame m #[(.ref a)] 1)) t := fun t k => by
    refine pre0 t ?_
    refine XS.aloadN X0.here hx rfl (hb hby d5_0) rfl rfl ?_
    show Steps p.tables e below (s₁.setTop (mkF m 1 #[.val (.ref a)] [(.ref a)])) _
    refine st1 _ ?_
    show Steps p.tables e below (T1.setTop (mkF m 4 #[.val (.ref a)] [(.long q)])) _
    exact k
  obtain ⟨fs, hr, hrun, hended, hW, hsame⟩ := X1.leave (v := some (.long q)) (fun h => by rw [Bd.returns] at h; cases h)
  refine ⟨_, _, w2 _ ?_, hrun, hended, _, _, rfl, ?_, ⟨_, rfl⟩, hW, hsame.mono (by decide) (by decide)⟩
  · jvm_step X1.here [X1.here.top, hx, (hb hby d5_4), X1.method', Bd.returns, narrow]
    first | (intro acts; rw [hr _ acts rfl rfl rfl]) | rw [hr _ _ rfl rfl rfl]
    exact Steps.refl _
  · show Q5 Z a q  h0 n0 _ T1.heap _
    rw [e1]
    exact ⟨rfl, N0, rfl⟩
theorem d6_0 : decode prog_7_method_5_code 0 = .ok (.aload_n 0, 1) := by decide +kernel
theorem d6_1 : decode prog_7_method_5_code 1 = .ok (.getfield 16, 3) := by decide +kernel
theorem d6_4 : decode prog_7_method_5_code 4 = .ok (.lreturn, 1) := by decide +kernel
theorem ef_6 (m : MethodId) (x0 : Addr) : entryFrame m #[(.ref x0)] 1 = mkF m 0 #[.val (.ref x0)] [] := by first | (simp [entryFrame, mkF, argsToLocals, Value.category]; done) | rfl
def Q6 (Z : State) (a : Addr) (q : Int64) (h0 : Heap) (n0 : Nat) (v : Option Value) (h : Heap) (L : List Loc) : Prop := v = some (.long q) ∧ Fr n0 L ∧ h = h0
set_option maxRecDepth 65536 in
set_option maxHeartbeats 40000000 in
theorem rm6 (l : Launch) (Z : State) (a0 : Array Value) (hw : ∀ d ∈ tables_1, d.before a0 Z = true) (ws : List Jvm.Cond) (a : Addr) (q : Int64) (h0 : Heap) (n0 : Nat) (O0 : Old Z n0 h0) (F_newCaptures_a : Fld Z h0 a "com/example/rolling_ledger/rollingledger/model/IngestReport" "newCaptures" "J" (.long q)) :
    MetFree l (⟨"com/example/rolling_ledger/rollingledger/model/IngestReport", "newCaptures", "()J"⟩ : MethodName) (head1 (Jvm.Cond.code (⟨"com/example/rolling_ledger/rollingledger/model/IngestReport", "newCaptures", "()J"⟩ : MethodName) prog_7_method_5_code 1 (some .long) :: ws) ({ frames := 0, cells := 0, slots := 0, locals := 0 } : Room)) (fun aA uU => aA = #[(.ref a)] ∧ Z.Warmed39 uU.vm ∧ uU.heap = h0) (fun _ _ _ _ _ => True) (fun _ uU oO uU' => ∃ vV lL, oO = .returned vV ∧ Q6 Z a q  h0 n0 vV uU'.heap lL ∧ FrameEnd uU oO uU' lL ({ frames := 0, cells := 0, slots := 0, locals := 0 } : Room).cells ({ frames := 0, cells := 0, slots := 0, locals := 0 } : Room).slots) := by
  refine MetFree.of_bodySF (plainFor_of_name pn_com_example_rolling_ledger_rollingledger_model_IngestReport) hisR ?_
  intro p e s m args below meth c s₁ Bd hml0 hP hK
  obtain ⟨rfl, hZ, hh⟩ := hP
  have hx := Bd.exec
  have hby := Bd.bytes
  have hml : c.maxLocals = 1 := hml0
  have hown : s.vm.findClass "com/example/rolling_ledger/rollingledger/model/IngestReport" = some m.cls := findClass_of_methodNamed Bd.named
  have hnm := (name_of_methodNamed Bd.named Bd.method).1
  have X0 : Stand p l e ({ frames := 0, cells := 0, slots := 0, locals := 0 } : Room) s m #[(.ref a)] below meth c s₁ [] 0 0 := Stand.of_body Bd
  have e0 : s₁.heap = h0 := by rw [← hh, Bd.state]; rfl
  have N0 := Fr.nil n0
  have O := O0
  have pre0 : ∀ t, Steps p.tables e below (s₁.setTop (mkF m 0 #[.val (.ref a)] [])) t → Steps p.tables e below (s₁.setTop (entryFrame m #[(.ref a)] 1)) t := fun t k => castTop (ef_6 m a) k
  obtain ⟨T1, X1, e1, st1⟩ := getF X0 hx hZ hown (host := "") (Or.inl (hw _ (List.mem_of_getElem? (i := 13) rfl))) Via.refl e0 F_newCaptures_a (g := (mkF m 1 #[.val (.ref a)] [(.ref a)])) rfl rfl (hb hby d6_1)
  have w2 : ∀ t, Steps p.tables e below (T1.setTop (mkF m 4 #[.val (.ref a)] [(.long q)])) t → Steps p.tables e below (s₁.setTop (entryFrame m #[(.ref a)] 1)) t := fun t k => by
    refine pre0 t ?_
    refine XS.aloadN X0.here hx rfl (hb hby d6_0) rfl rfl ?_
    show Steps p.tables e below (s₁.setTop (mkF m 1 #[.val (.ref a)] [(.ref a)])) _
    refine st1 _ ?_
    show Steps p.tables e below (T1.setTop (mkF m 4 #[.val (.ref a)] [(.long q)])) _
    exact k
  obtain ⟨fs, hr, hrun, hended, hW, hsame⟩ := X1.leave (v := some (.long q)) (fun h => by rw [Bd.returns] at h; cases h)
  refine ⟨_, _, w2 _ ?_, hrun, hended, _, _, rfl, ?_, ⟨_, rfl⟩, hW, hsame.mono (by decide) (by decide)⟩
  · jvm_step X1.here [X1.here.top, hx, (hb hby d6_4), X1.method', Bd.returns, narrow]
    first | (intro acts; rw [hr _ acts rfl rfl rfl]) | rw [hr _ _ rfl rfl rfl]
    exact Steps.refl _
  · show Q6 Z a q  h0 n0 _ T1.heap _
    rw [e1]
    exact ⟨rfl, N0, rfl⟩
theorem d7_0 : decode prog_7_method_6_code 0 = .ok (.aload_n 0, 1) := by decide +kernel
theorem d7_1 : decode prog_7_method_6_code 1 = .ok (.getfield 19, 3) := by decide +kernel
theorem d7_4 : decode prog_7_method_6_code 4 = .ok (.lreturn, 1) := by decide +kernel
theorem ef_7 (m : MethodId) (x0 : Addr) : entryFrame m #[(.ref x0)] 1 = mkF m 0 #[.val (.ref x0)] [] := by first | (simp [entryFrame, mkF, argsToLocals, Value.category]; done) | rfl
def Q7 (Z : State) (a : Addr) (q : Int64) (h0 : Heap) (n0 : Nat) (v : Option Value) (h : Heap) (L : List Loc) : Prop := v = some (.long q) ∧ Fr n0 L ∧ h = h0
set_option maxRecDepth 65536 in
set_option maxHeartbeats 40000000 in
theorem rm7 (l : Launch) (Z : State) (a0 : Array Value) (hw : ∀ d ∈ tables_1, d.before a0 Z = true) (ws : List Jvm.Cond) (a : Addr) (q : Int64) (h0 : Heap) (n0 : Nat) (O0 : Old Z n0 h0) (F_alreadyRecorded_a : Fld Z h0 a "com/example/rolling_ledger/rollingledger/model/IngestReport" "alreadyRecorded" "J" (.long q)) :
    MetFree l (⟨"com/example/rolling_ledger/rollingledger/model/IngestReport", "alreadyRecorded", "()J"⟩ : MethodName) (head1 (Jvm.Cond.code (⟨"com/example/rolling_ledger/rollingledger/model/IngestReport", "alreadyRecorded", "()J"⟩ : MethodName) prog_7_method_6_code 1 (some .long) :: ws) ({ frames := 0, cells := 0, slots := 0, locals := 0 } : Room)) (fun aA uU => aA = #[(.ref a)] ∧ Z.Warmed39 uU.vm ∧ uU.heap = h0) (fun _ _ _ _ _ => True) (fun _ uU oO uU' => ∃ vV lL, oO = .returned vV ∧ Q7 Z a q  h0 n0 vV uU'.heap lL ∧ FrameEnd uU oO uU' lL ({ frames := 0, cells := 0, slots := 0, locals := 0 } : Room).cells ({ frames := 0, cells := 0, slots := 0, locals := 0 } : Room).slots) := by
  refine MetFree.of_bodySF (plainFor_of_name pn_com_example_rolling_ledger_rollingledger_model_IngestReport) hisR ?_
  intro p e s m args below meth c s₁ Bd hml0 hP hK
  obtain ⟨rfl, hZ, hh⟩ := hP
  have hx := Bd.exec
  have hby := Bd.bytes
  have hml : c.maxLocals = 1 := hml0
  have hown : s.vm.findClass "com/example/rolling_ledger/rollingledger/model/IngestReport" = some m.cls := findClass_of_methodNamed Bd.named
  have hnm := (name_of_methodNamed Bd.named Bd.method).1
  have X0 : Stand p l e ({ frames := 0, cells := 0, slots := 0, locals := 0 } : Room) s m #[(.ref a)] below meth c s₁ [] 0 0 := Stand.of_body Bd
  have e0 : s₁.heap = h0 := by rw [← hh, Bd.state]; rfl
  have N0 := Fr.nil n0
  have O := O0
  have pre0 : ∀ t, Steps p.tables e below (s₁.setTop (mkF m 0 #[.val (.ref a)] [])) t → Steps p.tables e below (s₁.setTop (entryFrame m #[(.ref a)] 1)) t := fun t k => castTop (ef_7 m a) k
  obtain ⟨T1, X1, e1, st1⟩ := getF X0 hx hZ hown (host := "") (Or.inl (hw _ (List.mem_of_getElem? (i := 15) rfl))) Via.refl e0 F_alreadyRecorded_a (g := (mkF m 1 #[.val (.ref a)] [(.ref a)])) rfl rfl (hb hby d7_1)
  have w2 : ∀ t, Steps p.tables e below (T1.setTop (mkF m 4 #[.val (.ref a)] [(.long q)])) t → Steps p.tables e below (s₁.setTop (entryFrame m #[(.ref a)] 1)) t := fun t k => by
    refine pre0 t ?_
    refine XS.aloadN X0.here hx rfl (hb hby d7_0) rfl rfl ?_
    show Steps p.tables e below (s₁.setTop (mkF m 1 #[.val (.ref a)] [(.ref a)])) _
    refine st1 _ ?_
    show Steps p.tables e below (T1.setTop (mkF m 4 #[.val (.ref a)] [(.long q)])) _
    exact k
  obtain ⟨fs, hr, hrun, hended, hW, hsame⟩ := X1.leave (v := some (.long q)) (fun h => by rw [Bd.returns] at h; cases h)
  refine ⟨_, _, w2 _ ?_, hrun, hended, _, _, rfl, ?_, ⟨_, rfl⟩, hW, hsame.mono (by decide) (by decide)⟩
  · jvm_step X1.here [X1.here.top, hx, (hb hby d7_4), X1.method', Bd.returns, narrow]
    first | (intro acts; rw [hr _ acts rfl rfl rfl]) | rw [hr _ _ rfl rfl rfl]
    exact Steps.refl _
  · show Q7 Z a q  h0 n0 _ T1.heap _
    rw [e1]
    exact ⟨rfl, N0, rfl⟩
theorem d8_0 : decode prog_7_method_4_code 0 = .ok (.aload_n 0, 1) := by decide +kernel
theorem d8_1 : decode prog_7_method_4_code 1 = .ok (.getfield 16, 3) := by decide +kernel
theorem d8_4 : decode prog_7_method_4_code 4 = .ok (.aload_n 0, 1) := by decide +kernel
theorem d8_5 : decode prog_7_method_4_code 5 = .ok (.getfield 19, 3) := by decide +kernel
theorem d8_8 : decode prog_7_method_4_code 8 = .ok (.ladd, 1) := by decide +kernel
theorem d8_9 : decode prog_7_method_4_code 9 = .ok (.lreturn, 1) := by decide +kernel
theorem ef_8 (m : MethodId) (x0 : Addr) : entryFrame m #[(.ref x0)] 1 = mkF m 0 #[.val (.ref x0)] [] := by first | (simp [entryFrame, mkF, argsToLocals, Value.category]; done) | rfl
def Q8 (Z : State) (a : Addr) (q : Int64) (r : Int64) (h0 : Heap) (n0 : Nat) (v : Option Value) (h : Heap) (L : List Loc) : Prop := v = some (.long (q + r)) ∧ Fr n0 L ∧ h = h0
set_option maxRecDepth 65536 in
set_option maxHeartbeats 40000000 in
theorem rm8 (l : Launch) (Z : State) (a0 : Array Value) (hw : ∀ d ∈ tables_1, d.before a0 Z = true) (ws : List Jvm.Cond) (a : Addr) (q : Int64) (r : Int64) (h0 : Heap) (n0 : Nat) (O0 : Old Z n0 h0) (F_newCaptures_a : Fld Z h0 a "com/example/rolling_ledger/rollingledger/model/IngestReport" "newCaptures" "J" (.long q)) (F_alreadyRecorded_a : Fld Z h0 a "com/example/rolling_ledger/rollingledger/model/IngestReport" "alreadyRecorded" "J" (.long r)) :
    MetFree l (⟨"com/example/rolling_ledger/rollingledger/model/IngestReport", "captures", "()J"⟩ : MethodName) (head1 (Jvm.Cond.code (⟨"com/example/rolling_ledger/rollingledger/model/IngestReport", "captures", "()J"⟩ : MethodName) prog_7_method_4_code 1 (some .long) :: ws) ({ frames := 0, cells := 0, slots := 0, locals := 0 } : Room)) (fun aA uU => aA = #[(.ref a)] ∧ Z.Warmed39 uU.vm ∧ uU.heap = h0) (fun _ _ _ _ _ => True) (fun _ uU oO uU' => ∃ vV lL, oO = .returned vV ∧ Q8 Z a q r  h0 n0 vV uU'.heap lL ∧ FrameEnd uU oO uU' lL ({ frames := 0, cells := 0, slots := 0, locals := 0 } : Room).cells ({ frames := 0, cells := 0, slots := 0, locals := 0 } : Room).slots) := by
  refine MetFree.of_bodySF (plainFor_of_name pn_com_example_rolling_ledger_rollingledger_model_IngestReport) hisR ?_
  intro p e s m args below meth c s₁ Bd hml0 hP hK
  obtain ⟨rfl, hZ, hh⟩ := hP
  have hx := Bd.exec
  have hby := Bd.bytes
  have hml : c.maxLocals = 1 := hml0
  have hown : s.vm.findClass "com/example/rolling_ledger/rollingledger/model/IngestReport" = some m.cls := findClass_of_methodNamed Bd.named
  have hnm := (name_of_methodNamed Bd.named Bd.method).1
  have X0 : Stand p l e ({ frames := 0, cells := 0, slots := 0, locals := 0 } : Room) s m #[(.ref a)] below meth c s₁ [] 0 0 := Stand.of_body Bd
  have e0 : s₁.heap = h0 := by rw [← hh, Bd.state]; rfl
  have N0 := Fr.nil n0
  have O := O0
  have pre0 : ∀ t, Steps p.tables e below (s₁.setTop (mkF m 0 #[.val (.ref a)] [])) t → Steps p.tables e below (s₁.setTop (entryFrame m #[(.ref a)] 1)) t := fun t k => castTop (ef_8 m a) k
  obtain ⟨T1, X1, e1, st1⟩ := getF X0 hx hZ hown (host := "") (Or.inl (hw _ (List.mem_of_getElem? (i := 13) rfl))) Via.refl e0 F_newCaptures_a (g := (mkF m 1 #[.val (.ref a)] [(.ref a)])) rfl rfl (hb hby d8_1)
  obtain ⟨T2, X2, e2, st2⟩ := getF X1 hx hZ hown (host := "") (Or.inl (hw _ (List.mem_of_getElem? (i := 15) rfl))) Via.refl e1 F_alreadyRecorded_a (g := (mkF m 5 #[.val (.ref a)] [(.ref a), (.long q)])) rfl rfl (hb hby d8_5)
  have w3 : ∀ t, Steps p.tables e below (T2.setTop (mkF m 9 #[.val (.ref a)] [(.long (q + r))])) t → Steps p.tables e below (s₁.setTop (entryFrame m #[(.ref a)] 1)) t := fun t k => by
    refine pre0 t ?_
    refine XS.aloadN X0.here hx rfl (hb hby d8_0) rfl rfl ?_
    show Steps p.tables e below (s₁.setTop (mkF m 1 #[.val (.ref a)] [(.ref a)])) _
    refine st1 _ ?_
    show Steps p.tables e below (T1.setTop (mkF m 4 #[.val (.ref a)] [(.long q)])) _
    refine XS.aloadN X1.here hx rfl (hb hby d8_4) rfl rfl ?_
    show Steps p.tables e below (T1.setTop (mkF m 5 #[.val (.ref a)] [(.ref a), (.long q)])) _
    refine st2 _ ?_
    show Steps p.tables e below (T2.setTop (mkF m 8 #[.val (.ref a)] [(.long r), (.long q)])) _
    refine XS.ladd X2.here hx rfl (hb hby d8_8) rfl ?_
    show Steps p.tables e below (T2.setTop (mkF m 9 #[.val (.ref a)] [(.long (q + r))])) _
    exact k
  obtain ⟨fs, hr, hrun, hended, hW, hsame⟩ := X2.leave (v := some (.long (q + r))) (fun h => by rw [Bd.returns] at h; cases h)
  refine ⟨_, _, w3 _ ?_, hrun, hended, _, _, rfl, ?_, ⟨_, rfl⟩, hW, hsame.mono (by decide) (by decide)⟩
  · jvm_step X2.here [X2.here.top, hx, (hb hby d8_9), X2.method', Bd.returns, narrow]
    first | (intro acts; rw [hr _ acts rfl rfl rfl]) | rw [hr _ _ rfl rfl rfl]
    exact Steps.refl _
  · show Q8 Z a q r  h0 n0 _ T2.heap _
    rw [e2]
    exact ⟨rfl, N0, rfl⟩
def own_F1 (x0 : Int64) (x2 : Int64) (x4 : Int64) (x6 : Int64) (x8 : Int64) (x10 : Int64) : Array Slot := #[.val (.long x0), .second, .val (.long x2), .second, .val (.long x4), .second, .val (.long x6), .second, .val (.long x8), .second, .val (.long x10), .second, .unset, .unset, .unset, .unset, .unset, .unset, .unset, .unset, .unset, .unset, .unset, .unset, .unset, .unset, .unset]
def own_F2 (x0 : Int64) (x2 : Int64) (x4 : Int64) (x6 : Int64) (x8 : Int64) (x10 : Int64) (x12 : Int64) : Array Slot := #[.val (.long x0), .second, .val (.long x2), .second, .val (.long x4), .second, .val (.long x6), .second, .val (.long x8), .second, .val (.long x10), .second, .val (.long x12), .second, .unset, .unset, .unset, .unset, .unset, .unset, .unset, .unset, .unset, .unset, .unset, .unset, .unset]
def own_F3 (x0 : Int64) (x2 : Int64) (x4 : Int64) (x6 : Int64) (x8 : Int64) (x10 : Int64) (x12 : Int64) (x14 : Int64) : Array Slot := #[.val (.long x0), .second, .val (.long x2), .second, .val (.long x4), .second, .val (.long x6), .second, .val (.long x8), .second, .val (.long x10), .second, .val (.long x12), .second, .val (.long x14), .second, .unset, .unset, .unset, .unset, .unset, .unset, .unset, .unset, .unset, .unset, .unset]
def own_F4 (x0 : Int64) (x2 : Int64) (x4 : Int64) (x6 : Int64) (x8 : Int64) (x10 : Int64) (x12 : Int64) (x14 : Int64) (x16 : Addr) : Array Slot := #[.val (.long x0), .second, .val (.long x2), .second, .val (.long x4), .second, .val (.long x6), .second, .val (.long x8), .second, .val (.long x10), .second, .val (.long x12), .second, .val (.long x14), .second, .val (.ref x16), .unset, .unset, .unset, .unset, .unset, .unset, .unset, .unset, .unset, .unset]
def own_F5 (x0 : Int64) (x2 : Int64) (x4 : Int64) (x6 : Int64) (x8 : Int64) (x10 : Int64) (x12 : Int64) (x14 : Int64) (x16 : Addr) (x17 : Addr) : Array Slot := #[.val (.long x0), .second, .val (.long x2), .second, .val (.long x4), .second, .val (.long x6), .second, .val (.long x8), .second, .val (.long x10), .second, .val (.long x12), .second, .val (.long x14), .second, .val (.ref x16), .val (.ref x17), .unset, .unset, .unset, .unset, .unset, .unset, .unset, .unset, .unset]
theorem pd__40Lcom_47example_47rolling_ledger_47rollingledger_47model_47IngestReport_59_41Lcom_47example_47rolling_ledger_47rollingledger_47model_47IngestReport_59 : parseMethodDescriptor "(Lcom/example/rolling_ledger/rollingledger/model/IngestReport;)Lcom/example/rolling_ledger/rollingledger/model/IngestReport;" = some ⟨[(.object "com/example/rolling_ledger/rollingledger/model/IngestReport")], some (.object "com/example/rolling_ledger/rollingledger/model/IngestReport")⟩ := by decide +kernel
def own_F6 (x0 : Int64) (x2 : Int64) (x4 : Int64) (x6 : Int64) (x8 : Int64) (x10 : Int64) (x12 : Int64) (x14 : Int64) (x16 : Addr) (x17 : Addr) (x18 : Addr) : Array Slot := #[.val (.long x0), .second, .val (.long x2), .second, .val (.long x4), .second, .val (.long x6), .second, .val (.long x8), .second, .val (.long x10), .second, .val (.long x12), .second, .val (.long x14), .second, .val (.ref x16), .val (.ref x17), .val (.ref x18), .unset, .unset, .unset, .unset, .unset, .unset, .unset, .unset]
def own_F7 (x0 : Int64) (x2 : Int64) (x4 : Int64) (x6 : Int64) (x8 : Int64) (x10 : Int64) (x12 : Int64) (x14 : Int64) (x16 : Addr) (x17 : Addr) (x18 : Addr) (x19 : Int64) : Array Slot := #[.val (.long x0), .second, .val (.long x2), .second, .val (.long x4), .second, .val (.long x6), .second, .val (.long x8), .second, .val (.long x10), .second, .val (.long x12), .second, .val (.long x14), .second, .val (.ref x16), .val (.ref x17), .val (.ref x18), .val (.long x19), .second, .unset, .unset, .unset, .unset, .unset, .unset]
def own_F8 (x0 : Int64) (x2 : Int64) (x4 : Int64) (x6 : Int64) (x8 : Int64) (x10 : Int64) (x12 : Int64) (x14 : Int64) (x16 : Addr) (x17 : Addr) (x18 : Addr) (x19 : Int64) (x21 : Int64) : Array Slot := #[.val (.long x0), .second, .val (.long x2), .second, .val (.long x4), .second, .val (.long x6), .second, .val (.long x8), .second, .val (.long x10), .second, .val (.long x12), .second, .val (.long x14), .second, .val (.ref x16), .val (.ref x17), .val (.ref x18), .val (.long x19), .second, .val (.long x21), .second, .unset, .unset, .unset, .unset]
def own_F9 (x0 : Int64) (x2 : Int64) (x4 : Int64) (x6 : Int64) (x8 : Int64) (x10 : Int64) (x12 : Int64) (x14 : Int64) (x16 : Addr) (x17 : Addr) (x18 : Addr) (x19 : Int64) (x21 : Int64) (x23 : Int64) : Array Slot := #[.val (.long x0), .second, .val (.long x2), .second, .val (.long x4), .second, .val (.long x6), .second, .val (.long x8), .second, .val (.long x10), .second, .val (.long x12), .second, .val (.long x14), .second, .val (.ref x16), .val (.ref x17), .val (.ref x18), .val (.long x19), .second, .val (.long x21), .second, .val (.long x23), .second, .unset, .unset]
def own_F10 (x0 : Int64) (x2 : Int64) (x4 : Int64) (x6 : Int64) (x8 : Int64) (x10 : Int64) (x12 : Int64) (x14 : Int64) (x16 : Addr) (x17 : Addr) (x18 : Addr) (x19 : Int64) (x21 : Int64) (x23 : Int64) (x25 : Int64) : Array Slot := #[.val (.long x0), .second, .val (.long x2), .second, .val (.long x4), .second, .val (.long x6), .second, .val (.long x8), .second, .val (.long x10), .second, .val (.long x12), .second, .val (.long x14), .second, .val (.ref x16), .val (.ref x17), .val (.ref x18), .val (.long x19), .second, .val (.long x21), .second, .val (.long x23), .second, .val (.long x25), .second]
theorem pd__40_41J : parseMethodDescriptor "()J" = some ⟨[], some .long⟩ := by decide +kernel
theorem pn_com_example_rolling_ledger_rollingledger_model_IngestReportPlusPinLaw : plainName "com/example/rolling_ledger/rollingledger/model/IngestReportPlusPinLaw" = true := by first | (simp [plainName, overriddenIn]; done) | decide +kernel
theorem ef_0 (m : MethodId) (x0 : Int64) (x1 : Int64) (x2 : Int64) (x3 : Int64) (x4 : Int64) (x5 : Int64) : entryFrame m #[(.long x0), (.long x1), (.long x2), (.long x3), (.long x4), (.long x5)] maxLocals = mkF m 0 #[.val (.long x0), .second, .val (.long x1), .second, .val (.long x2), .second, .val (.long x3), .second, .val (.long x4), .second, .val (.long x5), .second, .unset, .unset, .unset, .unset, .unset, .unset, .unset, .unset, .unset, .unset, .unset, .unset, .unset, .unset, .unset] [] := by first | (simp [entryFrame, mkF, argsToLocals, Value.category, maxLocals]; done) | rfl
def Q0 (Z : State) (q1 : Int64) (q2 : Int64) (q3 : Int64) (q4 : Int64) (q5 : Int64) (q6 : Int64) (h0 : Heap) (n0 : Nat) (v : Option Value) (h : Heap) (L : List Loc) : Prop := v = some (.int (1 : Int32)) ∧ Fr n0 L
set_option maxRecDepth 65536 in
set_option maxHeartbeats 40000000 in
theorem rm0 (l : Launch) (Z : State) (a0 : Array Value) (hw : ∀ d ∈ tables_1, d.before a0 Z = true) (ws : List Jvm.Cond) (q1 : Int64) (q2 : Int64) (q3 : Int64) (q4 : Int64) (q5 : Int64) (q6 : Int64) (h0 : Heap) (n0 : Nat) (O0 : Old Z n0 h0) :
    MetFree l x (head1 (Jvm.Cond.code x code maxLocals ret :: ws) room_1) (fun aA uU => aA = #[(.long q1), (.long q2), (.long q3), (.long q4), (.long q5), (.long q6)] ∧ Z.Warmed39 uU.vm ∧ uU.heap = h0) (fun _ _ _ _ _ => True) (fun _ uU oO uU' => ∃ vV lL, oO = .returned vV ∧ Q0 Z q1 q2 q3 q4 q5 q6  h0 n0 vV uU'.heap lL ∧ FrameEnd uU oO uU' lL room_1.cells room_1.slots) := by
  refine MetFree.of_bodySF (plainFor_of_name pn_com_example_rolling_ledger_rollingledger_model_IngestReportPlusPinLaw) hisR ?_
  intro p e s m args below meth c s₁ Bd hml0 hP hK
  obtain ⟨rfl, hZ, hh⟩ := hP
  have hx := Bd.exec
  have hby := Bd.bytes
  have hml : c.maxLocals = 27 := hml0
  have hown : s.vm.findClass "com/example/rolling_ledger/rollingledger/model/IngestReportPlusPinLaw" = some m.cls := findClass_of_methodNamed Bd.named
  have hnm := (name_of_methodNamed Bd.named Bd.method).1
  have X0 : Stand p l e room_1 s m #[(.long q1), (.long q2), (.long q3), (.long q4), (.long q5), (.long q6)] below meth c s₁ [] 0 0 := Stand.of_body Bd
  have e0 : s₁.heap = h0 := by rw [← hh, Bd.state]; rfl
  have N0 := Fr.nil n0
  have O := O0
  have pre0 : ∀ t, Steps p.tables e below (s₁.setTop (mkF m 0 #[.val (.long q1), .second, .val (.long q2), .second, .val (.long q3), .second, .val (.long q4), .second, .val (.long q5), .second, .val (.long q6), .second, .unset, .unset, .unset, .unset, .unset, .unset, .unset, .unset, .unset, .unset, .unset, .unset, .unset, .unset, .unset] [])) t → Steps p.tables e below (s₁.setTop (entryFrame m #[(.long q1), (.long q2), (.long q3), (.long q4), (.long q5), (.long q6)] maxLocals)) t := fun t k => castTop (ef_0 m q1 q2 q3 q4 q5 q6) k
  obtain ⟨T1, h1, X1, e1, E1, A1, D1, -, st1⟩ := newO X0 hx hZ hown (hw _ (List.mem_of_getElem? (i := 0) rfl)) (hw _ (List.mem_of_getElem? (i := 1) rfl)) (hw _ (List.mem_of_getElem? (i := 2) rfl)) e0 (g := (mkF m 12 (own_F3 q1 q2 q3 q4 q5 q6 (q5 ^^^ q2) (q6 - q1)) [])) rfl (hb hby at_12) (by decide) (by decide)
  obtain ⟨b1, gq1⟩ : ∃ z, z = Array.size h0 := ⟨_, rfl⟩
  rw [← gq1] at A1 D1 st1
  have g_b1 : n0 ≤ b1 := Nat.le_trans (O.1 ▸ O.2.1) (Nat.le_of_eq gq1.symm)
  have O := O.ext E1
  have F_files_b1 : Fld Z h1 b1 "com/example/rolling_ledger/rollingledger/model/IngestReport" "files" "J" (.long (0 : Int64)) := D1 (Or.inr (hw _ (List.mem_of_getElem? (i := 10) rfl))) (ty := .long) (by decide)
  have F_records_b1 : Fld Z h1 b1 "com/example/rolling_ledger/rollingledger/model/IngestReport" "records" "J" (.long (0 : Int64)) := D1 (Or.inr (hw _ (List.mem_of_getElem? (i := 12) rfl))) (ty := .long) (by decide)
  have F_newCaptures_b1 : Fld Z h1 b1 "com/example/rolling_ledger/rollingledger/model/IngestReport" "newCaptures" "J" (.long (0 : Int64)) := D1 (Or.inr (hw _ (List.mem_of_getElem? (i := 14) rfl))) (ty := .long) (by decide)
  have F_alreadyRecorded_b1 : Fld Z h1 b1 "com/example/rolling_ledger/rollingledger/model/IngestReport" "alreadyRecorded" "J" (.long (0 : Int64)) := D1 (Or.inr (hw _ (List.mem_of_getElem? (i := 16) rfl))) (ty := .long) (by decide)
  obtain ⟨_, _, ⟨T2, L2, k2, n2⟩, -, X2, ⟨Lc2, hQ2, l2, y2, z2⟩, st2⟩ := X1.specialBack hx (y := (⟨"com/example/rolling_ledger/rollingledger/model/IngestReport", "<init>", "(JJJJ)V"⟩ : MethodName)) rfl hown (mvT hZ (hw _ (List.mem_of_getElem? (i := 3) rfl))) (mvT hZ (hw _ (List.mem_of_getElem? (i := 4) rfl))) (mvT hZ (hw _ (List.mem_of_getElem? (i := 5) rfl))) (by decide) (backOf (W := 1) (rm1 l Z a0 hw [] b1 q1 q2 q3 q4 h1 n0 O A1 F_files_b1 F_records_b1 F_newCaptures_b1 F_alreadyRecorded_b1 g_b1) hZ (hw _ (List.mem_of_getElem? (i := 5) rfl)) (hw _ (List.mem_of_getElem? (i := 2) rfl)) (by decide) (by decide)) (g := (mkF m 22 (own_F3 q1 q2 q3 q4 q5 q6 (q5 ^^^ q2) (q6 - q1)) [(.long q4), (.long q3), (.long q2), (.long q1), (.ref b1), (.ref b1)])) rfl (by rw [hml]; rfl) (Steps.refl _) (a := b1) (argsL := [(.long q1), (.long q2), (.long q3), (.long q4)]) (rest := [(.ref b1)]) (lenOf pd__40JJJJ_41V rfl) rfl (by show 2 * 0 + _ ≤ _; exact Nat.le_of_eq rfl) (hb hby at_22) (fun _ _ => ⟨rfl, e1, (by decide : 1 + 0 ≤ _), (by decide : 4 + 0 ≤ _)⟩)
  dsimp only [Pt.U, Pt.locs, Pt.cells, Pt.slots] at X2 l2 y2 z2 st2 hQ2
  subst l2 y2 z2
  obtain ⟨rfl, N2q, K2, F_files_a_c2, F_records_a_c2, F_newCaptures_a_c2, F_alreadyRecorded_a_c2⟩ := hQ2
  have N2 := Fr.app N0 N2q
  have A1 := A1.keep K2
  have O := O.keep K2 (allS g_b1 all0)
  obtain ⟨T3, h3, X3, e3, E3, A3, D3, -, st3⟩ := newO X2 hx hZ hown (hw _ (List.mem_of_getElem? (i := 0) rfl)) (hw _ (List.mem_of_getElem? (i := 1) rfl)) (hw _ (List.mem_of_getElem? (i := 2) rfl)) rfl (g := (mkF m 27 (own_F4 q1 q2 q3 q4 q5 q6 (q5 ^^^ q2) (q6 - q1) b1) [])) rfl (hb hby at_27) (by decide) (by decide)
  obtain ⟨b3, gq3⟩ : ∃ z, z = Array.size T2.heap := ⟨_, rfl⟩
  rw [← gq3] at A3 D3 st3
  have ne_b1_b3 : b1 ≠ b3 := Nat.ne_of_lt (Nat.lt_of_lt_of_le A1.lt (Nat.le_of_eq gq3.symm))
  have g_b3 : n0 ≤ b3 := Nat.le_trans (O.1 ▸ O.2.1) (Nat.le_of_eq gq3.symm)
  have A1 := A1.ext E3
  have F_files_a_c2 := F_files_a_c2.ext E3
  have F_records_a_c2 := F_records_a_c2.ext E3
  have F_newCaptures_a_c2 := F_newCaptures_a_c2.ext E3
  have F_alreadyRecorded_a_c2 := F_alreadyRecorded_a_c2.ext E3
  have O := O.ext E3
  have F_files_b3 : Fld Z h3 b3 "com/example/rolling_ledger/rollingledger/model/IngestReport" "files" "J" (.long (0 : Int64)) := D3 (Or.inr (hw _ (List.mem_of_getElem? (i := 10) rfl))) (ty := .long) (by decide)
  have F_records_b3 : Fld Z h3 b3 "com/example/rolling_ledger/rollingledger/model/IngestReport" "records" "J" (.long (0 : Int64)) := D3 (Or.inr (hw _ (List.mem_of_getElem? (i := 12) rfl))) (ty := .long) (by decide)
  have F_newCaptures_b3 : Fld Z h3 b3 "com/example/rolling_ledger/rollingledger/model/IngestReport" "newCaptures" "J" (.long (0 : Int64)) := D3 (Or.inr (hw _ (List.mem_of_getElem? (i := 14) rfl))) (ty := .long) (by decide)
  have F_alreadyRecorded_b3 : Fld Z h3 b3 "com/example/rolling_ledger/rollingledger/model/IngestReport" "alreadyRecorded" "J" (.long (0 : Int64)) := D3 (Or.inr (hw _ (List.mem_of_getElem? (i := 16) rfl))) (ty := .long) (by decide)
  obtain ⟨_, _, ⟨T4, L4, k4, n4⟩, -, X4, ⟨Lc4, hQ4, l4, y4, z4⟩, st4⟩ := X3.specialBack hx (y := (⟨"com/example/rolling_ledger/rollingledger/model/IngestReport", "<init>", "(JJJJ)V"⟩ : MethodName)) rfl hown (mvT hZ (hw _ (List.mem_of_getElem? (i := 3) rfl))) (mvT hZ (hw _ (List.mem_of_getElem? (i := 4) rfl))) (mvT hZ (hw _ (List.mem_of_getElem? (i := 5) rfl))) (by decide) (backOf (W := 1) (rm1 l Z a0 hw [] b3 q5 q6 (q5 ^^^ q2) (q6 - q1) h3 n0 O A3 F_files_b3 F_records_b3 F_newCaptures_b3 F_alreadyRecorded_b3 g_b3) hZ (hw _ (List.mem_of_getElem? (i := 5) rfl)) (hw _ (List.mem_of_getElem? (i := 2) rfl)) (by decide) (by decide)) (g := (mkF m 39 (own_F4 q1 q2 q3 q4 q5 q6 (q5 ^^^ q2) (q6 - q1) b1) [(.long (q6 - q1)), (.long (q5 ^^^ q2)), (.long q6), (.long q5), (.ref b3), (.ref b3)])) rfl (by rw [hml]; rfl) (Steps.refl _) (a := b3) (argsL := [(.long q5), (.long q6), (.long (q5 ^^^ q2)), (.long (q6 - q1))]) (rest := [(.ref b3)]) (lenOf pd__40JJJJ_41V rfl) rfl (by show 2 * 0 + _ ≤ _; exact Nat.le_of_eq rfl) (hb hby at_39) (fun _ _ => ⟨rfl, e3, (by decide : 2 + 0 ≤ _), (by decide : 8 + 0 ≤ _)⟩)
  dsimp only [Pt.U, Pt.locs, Pt.cells, Pt.slots] at X4 l4 y4 z4 st4 hQ4
  subst l4 y4 z4
  obtain ⟨rfl, N4q, K4, F_files_a_c4, F_records_a_c4, F_newCaptures_a_c4, F_alreadyRecorded_a_c4⟩ := hQ4
  have N4 := Fr.app N2 N4q
  have A1 := A1.keep K4
  have F_files_a_c2 := F_files_a_c2.keep K4 (ninS ne_b1_b3 nin0)
  have F_records_a_c2 := F_records_a_c2.keep K4 (ninS ne_b1_b3 nin0)
  have F_newCaptures_a_c2 := F_newCaptures_a_c2.keep K4 (ninS ne_b1_b3 nin0)
  have F_alreadyRecorded_a_c2 := F_alreadyRecorded_a_c2.keep K4 (ninS ne_b1_b3 nin0)
  have A3 := A3.keep K4
  have O := O.keep K4 (allS g_b3 all0)
  obtain ⟨cq5, kq5, q5a, q5b, q5c⟩ := isOf hZ rfl A1
  have lt5_b1 := A1.lt
  have lt5_b3 := A3.lt
  obtain ⟨_, _, ⟨T5, L5, k5, n5⟩, -, X5, ⟨Lc5, hQ5, l5, y5, z5⟩, st5⟩ := X4.virtualBack hx (y := (⟨"com/example/rolling_ledger/rollingledger/model/IngestReport", "plus", "(Lcom/example/rolling_ledger/rollingledger/model/IngestReport;)Lcom/example/rolling_ledger/rollingledger/model/IngestReport;"⟩ : MethodName)) (z := (⟨"com/example/rolling_ledger/rollingledger/model/IngestReport", "plus", "(Lcom/example/rolling_ledger/rollingledger/model/IngestReport;)Lcom/example/rolling_ledger/rollingledger/model/IngestReport;"⟩ : MethodName)) hown (mvT hZ (hw _ (List.mem_of_getElem? (i := 17) rfl))) (mvT hZ (hw _ (List.mem_of_getElem? (i := 18) rfl))) (notFace_of_selects (args := #[]) (mvT hZ (hw _ (List.mem_of_getElem? (i := 20) rfl)))) (mvT hZ (hw _ (List.mem_of_getElem? (i := 20) rfl))) (mvT hZ (hw _ (List.mem_of_getElem? (i := 19) rfl))) (by decide) (backOf (W := 0) (rm3 l Z a0 hw [] b1 b3 q1 q2 q3 q4 q5 q6 (q5 ^^^ q2) (q6 - q1) T4.heap n0 O F_files_a_c2 F_records_a_c2 F_newCaptures_a_c2 F_alreadyRecorded_a_c2 F_files_a_c4 F_records_a_c4 F_newCaptures_a_c4 F_alreadyRecorded_a_c4) hZ (hw _ (List.mem_of_getElem? (i := 21) rfl)) (hw _ (List.mem_of_getElem? (i := 2) rfl)) (by decide) (by decide)) q5a q5c (g := (mkF m 48 (own_F5 q1 q2 q3 q4 q5 q6 (q5 ^^^ q2) (q6 - q1) b1 b3) [(.ref b3), (.ref b1)])) rfl (by rw [hml]; rfl) (Steps.refl _) (argsL := [(.ref b3)]) (rest := []) (lenOf pd__40Lcom_47example_47rolling_ledger_47rollingledger_47model_47IngestReport_59_41Lcom_47example_47rolling_ledger_47rollingledger_47model_47IngestReport_59 rfl) rfl (by show 2 * 0 + _ ≤ _; exact Nat.le_of_eq rfl) (hb hby at_48) (fun _ _ => ⟨rfl, rfl, (by decide : 2 + 1 ≤ _), (by decide : 8 + 4 ≤ _)⟩)
  dsimp only [Pt.U, Pt.locs, Pt.cells, Pt.slots] at X5 l5 y5 z5 st5 hQ5
  subst l5 y5 z5
  obtain ⟨z_5, rfl, N5q, K5, E_z_c5, F_files_z_c5, F_records_z_c5, F_newCaptures_z_c5, F_alreadyRecorded_z_c5, gz_5, gn_5⟩ := hQ5
  have N5 := Fr.app N4 N5q
  have A1 := A1.keep K5
  have F_files_a_c2 := F_files_a_c2.keep K5 nin0
  have F_records_a_c2 := F_records_a_c2.keep K5 nin0
  have F_newCaptures_a_c2 := F_newCaptures_a_c2.keep K5 nin0
  have F_alreadyRecorded_a_c2 := F_alreadyRecorded_a_c2.keep K5 nin0
  have A3 := A3.keep K5
  have F_files_a_c4 := F_files_a_c4.keep K5 nin0
  have F_records_a_c4 := F_records_a_c4.keep K5 nin0
  have F_newCaptures_a_c4 := F_newCaptures_a_c4.keep K5 nin0
  have F_alreadyRecorded_a_c4 := F_alreadyRecorded_a_c4.keep K5 nin0
  have ne_b1_z_5 : b1 ≠ z_5 := Nat.ne_of_lt (Nat.lt_of_lt_of_le lt5_b1 gz_5)
  have ne_b3_z_5 : b3 ≠ z_5 := Nat.ne_of_lt (Nat.lt_of_lt_of_le lt5_b3 gz_5)
  have g_z_5 := gn_5
  have O := O.keep K5 all0
  obtain ⟨cq6, kq6, q6a, q6b, q6c⟩ := isOf hZ rfl E_z_c5
  obtain ⟨_, _, ⟨T6, L6, k6, n6⟩, -, X6, ⟨Lc6, hQ6, l6, y6, z6⟩, st6⟩ := X5.virtualBack hx (y := (⟨"com/example/rolling_ledger/rollingledger/model/IngestReport", "files", "()J"⟩ : MethodName)) (z := (⟨"com/example/rolling_ledger/rollingledger/model/IngestReport", "files", "()J"⟩ : MethodName)) hown (mvT hZ (hw _ (List.mem_of_getElem? (i := 24) rfl))) (mvT hZ (hw _ (List.mem_of_getElem? (i := 25) rfl))) (notFace_of_selects (args := #[]) (mvT hZ (hw _ (List.mem_of_getElem? (i := 27) rfl)))) (mvT hZ (hw _ (List.mem_of_getElem? (i := 27) rfl))) (mvT hZ (hw _ (List.mem_of_getElem? (i := 26) rfl))) (by decide) (backOf (W := 0) (rm4 l Z a0 hw [] z_5 (q1 + q5) T5.heap n0 O F_files_z_c5) hZ (hw _ (List.mem_of_getElem? (i := 28) rfl)) (hw _ (List.mem_of_getElem? (i := 2) rfl)) (by decide) (by decide)) q6a q6c (g := (mkF m 81 (own_F10 q1 q2 q3 q4 q5 q6 (q5 ^^^ q2) (q6 - q1) b1 b3 z_5 (q1 + q5) (q2 + q6) (q3 + (q5 ^^^ q2)) (q4 + (q6 - q1))) [(.ref z_5)])) rfl (by rw [hml]; rfl) (Steps.refl _) (argsL := []) (rest := []) (lenOf pd__40_41J rfl) rfl (by show 2 * 0 + _ ≤ _; exact Nat.le_of_eq rfl) (hb hby at_81) (fun _ _ => ⟨rfl, rfl, (by decide : 3 + 0 ≤ _), (by decide : 12 + 0 ≤ _)⟩)
  dsimp only [Pt.U, Pt.locs, Pt.cells, Pt.slots] at X6 l6 y6 z6 st6 hQ6
  subst l6 y6 z6
  obtain ⟨rfl, N6q, eh6⟩ := hQ6
  have N6 := Fr.app N5 N6q
  obtain ⟨cq7, kq7, q7a, q7b, q7c⟩ := isOf hZ eh6 E_z_c5
  obtain ⟨_, _, ⟨T7, L7, k7, n7⟩, -, X7, ⟨Lc7, hQ7, l7, y7, z7⟩, st7⟩ := X6.virtualBack hx (y := (⟨"com/example/rolling_ledger/rollingledger/model/IngestReport", "records", "()J"⟩ : MethodName)) (z := (⟨"com/example/rolling_ledger/rollingledger/model/IngestReport", "records", "()J"⟩ : MethodName)) hown (mvT hZ (hw _ (List.mem_of_getElem? (i := 29) rfl))) (mvT hZ (hw _ (List.mem_of_getElem? (i := 30) rfl))) (notFace_of_selects (args := #[]) (mvT hZ (hw _ (List.mem_of_getElem? (i := 32) rfl)))) (mvT hZ (hw _ (List.mem_of_getElem? (i := 32) rfl))) (mvT hZ (hw _ (List.mem_of_getElem? (i := 31) rfl))) (by decide) (backOf (W := 0) (rm5 l Z a0 hw [] z_5 (q2 + q6) T5.heap n0 O F_records_z_c5) hZ (hw _ (List.mem_of_getElem? (i := 33) rfl)) (hw _ (List.mem_of_getElem? (i := 2) rfl)) (by decide) (by decide)) q7a q7c (g := (mkF m 92 (own_F10 q1 q2 q3 q4 q5 q6 (q5 ^^^ q2) (q6 - q1) b1 b3 z_5 (q1 + q5) (q2 + q6) (q3 + (q5 ^^^ q2)) (q4 + (q6 - q1))) [(.ref z_5)])) rfl (by rw [hml]; rfl) (Steps.refl _) (argsL := []) (rest := []) (lenOf pd__40_41J rfl) rfl (by show 2 * 0 + _ ≤ _; exact Nat.le_of_eq rfl) (hb hby at_92) (fun _ _ => ⟨rfl, eh6, (by decide : 3 + 0 ≤ _), (by decide : 12 + 0 ≤ _)⟩)
  dsimp only [Pt.U, Pt.locs, Pt.cells, Pt.slots] at X7 l7 y7 z7 st7 hQ7
  subst l7 y7 z7
  obtain ⟨rfl, N7q, eh7⟩ := hQ7
  have N7 := Fr.app N6 N7q
  obtain ⟨cq8, kq8, q8a, q8b, q8c⟩ := isOf hZ eh7 E_z_c5
  obtain ⟨_, _, ⟨T8, L8, k8, n8⟩, -, X8, ⟨Lc8, hQ8, l8, y8, z8⟩, st8⟩ := X7.virtualBack hx (y := (⟨"com/example/rolling_ledger/rollingledger/model/IngestReport", "newCaptures", "()J"⟩ : MethodName)) (z := (⟨"com/example/rolling_ledger/rollingledger/model/IngestReport", "newCaptures", "()J"⟩ : MethodName)) hown (mvT hZ (hw _ (List.mem_of_getElem? (i := 34) rfl))) (mvT hZ (hw _ (List.mem_of_getElem? (i := 35) rfl))) (notFace_of_selects (args := #[]) (mvT hZ (hw _ (List.mem_of_getElem? (i := 37) rfl)))) (mvT hZ (hw _ (List.mem_of_getElem? (i := 37) rfl))) (mvT hZ (hw _ (List.mem_of_getElem? (i := 36) rfl))) (by decide) (backOf (W := 0) (rm6 l Z a0 hw [] z_5 (q3 + (q5 ^^^ q2)) T5.heap n0 O F_newCaptures_z_c5) hZ (hw _ (List.mem_of_getElem? (i := 38) rfl)) (hw _ (List.mem_of_getElem? (i := 2) rfl)) (by decide) (by decide)) q8a q8c (g := (mkF m 103 (own_F10 q1 q2 q3 q4 q5 q6 (q5 ^^^ q2) (q6 - q1) b1 b3 z_5 (q1 + q5) (q2 + q6) (q3 + (q5 ^^^ q2)) (q4 + (q6 - q1))) [(.ref z_5)])) rfl (by rw [hml]; rfl) (Steps.refl _) (argsL := []) (rest := []) (lenOf pd__40_41J rfl) rfl (by show 2 * 0 + _ ≤ _; exact Nat.le_of_eq rfl) (hb hby at_103) (fun _ _ => ⟨rfl, eh7, (by decide : 3 + 0 ≤ _), (by decide : 12 + 0 ≤ _)⟩)
  dsimp only [Pt.U, Pt.locs, Pt.cells, Pt.slots] at X8 l8 y8 z8 st8 hQ8
  subst l8 y8 z8
  obtain ⟨rfl, N8q, eh8⟩ := hQ8
  have N8 := Fr.app N7 N8q
  obtain ⟨cq9, kq9, q9a, q9b, q9c⟩ := isOf hZ eh8 E_z_c5
  obtain ⟨_, _, ⟨T9, L9, k9, n9⟩, -, X9, ⟨Lc9, hQ9, l9, y9, z9⟩, st9⟩ := X8.virtualBack hx (y := (⟨"com/example/rolling_ledger/rollingledger/model/IngestReport", "alreadyRecorded", "()J"⟩ : MethodName)) (z := (⟨"com/example/rolling_ledger/rollingledger/model/IngestReport", "alreadyRecorded", "()J"⟩ : MethodName)) hown (mvT hZ (hw _ (List.mem_of_getElem? (i := 39) rfl))) (mvT hZ (hw _ (List.mem_of_getElem? (i := 40) rfl))) (notFace_of_selects (args := #[]) (mvT hZ (hw _ (List.mem_of_getElem? (i := 42) rfl)))) (mvT hZ (hw _ (List.mem_of_getElem? (i := 42) rfl))) (mvT hZ (hw _ (List.mem_of_getElem? (i := 41) rfl))) (by decide) (backOf (W := 0) (rm7 l Z a0 hw [] z_5 (q4 + (q6 - q1)) T5.heap n0 O F_alreadyRecorded_z_c5) hZ (hw _ (List.mem_of_getElem? (i := 43) rfl)) (hw _ (List.mem_of_getElem? (i := 2) rfl)) (by decide) (by decide)) q9a q9c (g := (mkF m 114 (own_F10 q1 q2 q3 q4 q5 q6 (q5 ^^^ q2) (q6 - q1) b1 b3 z_5 (q1 + q5) (q2 + q6) (q3 + (q5 ^^^ q2)) (q4 + (q6 - q1))) [(.ref z_5)])) rfl (by rw [hml]; rfl) (Steps.refl _) (argsL := []) (rest := []) (lenOf pd__40_41J rfl) rfl (by show 2 * 0 + _ ≤ _; exact Nat.le_of_eq rfl) (hb hby at_114) (fun _ _ => ⟨rfl, eh8, (by decide : 3 + 0 ≤ _), (by decide : 12 + 0 ≤ _)⟩)
  dsimp only [Pt.U, Pt.locs, Pt.cells, Pt.slots] at X9 l9 y9 z9 st9 hQ9
  subst l9 y9 z9
  obtain ⟨rfl, N9q, eh9⟩ := hQ9
  have N9 := Fr.app N8 N9q
  obtain ⟨cq10, kq10, q10a, q10b, q10c⟩ := isOf hZ eh9 E_z_c5
  obtain ⟨_, _, ⟨T10, L10, k10, n10⟩, -, X10, ⟨Lc10, hQ10, l10, y10, z10⟩, st10⟩ := X9.virtualBack hx (y := (⟨"com/example/rolling_ledger/rollingledger/model/IngestReport", "captures", "()J"⟩ : MethodName)) (z := (⟨"com/example/rolling_ledger/rollingledger/model/IngestReport", "captures", "()J"⟩ : MethodName)) hown (mvT hZ (hw _ (List.mem_of_getElem? (i := 44) rfl))) (mvT hZ (hw _ (List.mem_of_getElem? (i := 45) rfl))) (notFace_of_selects (args := #[]) (mvT hZ (hw _ (List.mem_of_getElem? (i := 47) rfl)))) (mvT hZ (hw _ (List.mem_of_getElem? (i := 47) rfl))) (mvT hZ (hw _ (List.mem_of_getElem? (i := 46) rfl))) (by decide) (backOf (W := 0) (rm8 l Z a0 hw [] z_5 (q3 + (q5 ^^^ q2)) (q4 + (q6 - q1)) T5.heap n0 O F_newCaptures_z_c5 F_alreadyRecorded_z_c5) hZ (hw _ (List.mem_of_getElem? (i := 48) rfl)) (hw _ (List.mem_of_getElem? (i := 2) rfl)) (by decide) (by decide)) q10a q10c (g := (mkF m 125 (own_F10 q1 q2 q3 q4 q5 q6 (q5 ^^^ q2) (q6 - q1) b1 b3 z_5 (q1 + q5) (q2 + q6) (q3 + (q5 ^^^ q2)) (q4 + (q6 - q1))) [(.ref z_5)])) rfl (by rw [hml]; rfl) (Steps.refl _) (argsL := []) (rest := []) (lenOf pd__40_41J rfl) rfl (by show 2 * 0 + _ ≤ _; exact Nat.le_of_eq rfl) (hb hby at_125) (fun _ _ => ⟨rfl, eh9, (by decide : 3 + 0 ≤ _), (by decide : 12 + 0 ≤ _)⟩)
  dsimp only [Pt.U, Pt.locs, Pt.cells, Pt.slots] at X10 l10 y10 z10 st10 hQ10
  subst l10 y10 z10
  obtain ⟨rfl, N10q, eh10⟩ := hQ10
  have N10 := Fr.app N9 N10q
  have w11 : ∀ t, Steps p.tables e below (T10.setTop (mkF m 142 (own_F10 q1 q2 q3 q4 q5 q6 (q5 ^^^ q2) (q6 - q1) b1 b3 z_5 (q1 + q5) (q2 + q6) (q3 + (q5 ^^^ q2)) (q4 + (q6 - q1))) [(.int (1 : Int32))])) t → Steps p.tables e below (s₁.setTop (entryFrame m #[(.long q1), (.long q2), (.long q3), (.long q4), (.long q5), (.long q6)] maxLocals)) t := fun t k => by
    refine pre0 t ?_
    refine XS.lload X0.here hx rfl (hb hby at_0) rfl ?_
    show Steps p.tables e below (s₁.setTop (mkF m 2 (own_F1 q1 q2 q3 q4 q5 q6) [(.long q5)])) _
    refine XS.lloadN X0.here hx rfl (hb hby at_2) rfl ?_
    show Steps p.tables e below (s₁.setTop (mkF m 3 (own_F1 q1 q2 q3 q4 q5 q6) [(.long q2), (.long q5)])) _
    refine XS.lxor X0.here hx rfl (hb hby at_3) rfl ?_
    show Steps p.tables e below (s₁.setTop (mkF m 4 (own_F1 q1 q2 q3 q4 q5 q6) [(.long (q5 ^^^ q2))])) _
    refine XS.lstore X0.here hx rfl (hb hby at_4) rfl (l' := (own_F2 q1 q2 q3 q4 q5 q6 (q5 ^^^ q2))) rfl ?_
    show Steps p.tables e below (s₁.setTop (mkF m 6 (own_F2 q1 q2 q3 q4 q5 q6 (q5 ^^^ q2)) [])) _
    refine XS.lload X0.here hx rfl (hb hby at_6) rfl ?_
    show Steps p.tables e below (s₁.setTop (mkF m 8 (own_F2 q1 q2 q3 q4 q5 q6 (q5 ^^^ q2)) [(.long q6)])) _
    refine XS.lloadN X0.here hx rfl (hb hby at_8) rfl ?_
    show Steps p.tables e below (s₁.setTop (mkF m 9 (own_F2 q1 q2 q3 q4 q5 q6 (q5 ^^^ q2)) [(.long q1), (.long q6)])) _
    refine XS.lsub X0.here hx rfl (hb hby at_9) rfl ?_
    show Steps p.tables e below (s₁.setTop (mkF m 10 (own_F2 q1 q2 q3 q4 q5 q6 (q5 ^^^ q2)) [(.long (q6 - q1))])) _
    refine XS.lstore X0.here hx rfl (hb hby at_10) rfl (l' := (own_F3 q1 q2 q3 q4 q5 q6 (q5 ^^^ q2) (q6 - q1))) rfl ?_
    show Steps p.tables e below (s₁.setTop (mkF m 12 (own_F3 q1 q2 q3 q4 q5 q6 (q5 ^^^ q2) (q6 - q1)) [])) _
    refine st1 _ ?_
    show Steps p.tables e below (T1.setTop (mkF m 15 (own_F3 q1 q2 q3 q4 q5 q6 (q5 ^^^ q2) (q6 - q1)) [(.ref b1)])) _
    refine XS.dup X1.here hx rfl (hb hby at_15) rfl rfl ?_
    show Steps p.tables e below (T1.setTop (mkF m 16 (own_F3 q1 q2 q3 q4 q5 q6 (q5 ^^^ q2) (q6 - q1)) [(.ref b1), (.ref b1)])) _
    refine XS.lloadN X1.here hx rfl (hb hby at_16) rfl ?_
    show Steps p.tables e below (T1.setTop (mkF m 17 (own_F3 q1 q2 q3 q4 q5 q6 (q5 ^^^ q2) (q6 - q1)) [(.long q1), (.ref b1), (.ref b1)])) _
    refine XS.lloadN X1.here hx rfl (hb hby at_17) rfl ?_
    show Steps p.tables e below (T1.setTop (mkF m 18 (own_F3 q1 q2 q3 q4 q5 q6 (q5 ^^^ q2) (q6 - q1)) [(.long q2), (.long q1), (.ref b1), (.ref b1)])) _
    refine XS.lload X1.here hx rfl (hb hby at_18) rfl ?_
    show Steps p.tables e below (T1.setTop (mkF m 20 (own_F3 q1 q2 q3 q4 q5 q6 (q5 ^^^ q2) (q6 - q1)) [(.long q3), (.long q2), (.long q1), (.ref b1), (.ref b1)])) _
    refine XS.lload X1.here hx rfl (hb hby at_20) rfl ?_
    show Steps p.tables e below (T1.setTop (mkF m 22 (own_F3 q1 q2 q3 q4 q5 q6 (q5 ^^^ q2) (q6 - q1)) [(.long q4), (.long q3), (.long q2), (.long q1), (.ref b1), (.ref b1)])) _
    refine st2.trans ?_
    show Steps p.tables e below (T2.setTop (mkF m 25 (own_F3 q1 q2 q3 q4 q5 q6 (q5 ^^^ q2) (q6 - q1)) [(.ref b1)])) _
    refine XS.astore X2.here hx rfl (hb hby at_25) rfl rfl (l' := (own_F4 q1 q2 q3 q4 q5 q6 (q5 ^^^ q2) (q6 - q1) b1)) rfl ?_
    show Steps p.tables e below (T2.setTop (mkF m 27 (own_F4 q1 q2 q3 q4 q5 q6 (q5 ^^^ q2) (q6 - q1) b1) [])) _
    refine st3 _ ?_
    show Steps p.tables e below (T3.setTop (mkF m 30 (own_F4 q1 q2 q3 q4 q5 q6 (q5 ^^^ q2) (q6 - q1) b1) [(.ref b3)])) _
    refine XS.dup X3.here hx rfl (hb hby at_30) rfl rfl ?_
    show Steps p.tables e below (T3.setTop (mkF m 31 (own_F4 q1 q2 q3 q4 q5 q6 (q5 ^^^ q2) (q6 - q1) b1) [(.ref b3), (.ref b3)])) _
    refine XS.lload X3.here hx rfl (hb hby at_31) rfl ?_
    show Steps p.tables e below (T3.setTop (mkF m 33 (own_F4 q1 q2 q3 q4 q5 q6 (q5 ^^^ q2) (q6 - q1) b1) [(.long q5), (.ref b3), (.ref b3)])) _
    refine XS.lload X3.here hx rfl (hb hby at_33) rfl ?_
    show Steps p.tables e below (T3.setTop (mkF m 35 (own_F4 q1 q2 q3 q4 q5 q6 (q5 ^^^ q2) (q6 - q1) b1) [(.long q6), (.long q5), (.ref b3), (.ref b3)])) _
    refine XS.lload X3.here hx rfl (hb hby at_35) rfl ?_
    show Steps p.tables e below (T3.setTop (mkF m 37 (own_F4 q1 q2 q3 q4 q5 q6 (q5 ^^^ q2) (q6 - q1) b1) [(.long (q5 ^^^ q2)), (.long q6), (.long q5), (.ref b3), (.ref b3)])) _
    refine XS.lload X3.here hx rfl (hb hby at_37) rfl ?_
    show Steps p.tables e below (T3.setTop (mkF m 39 (own_F4 q1 q2 q3 q4 q5 q6 (q5 ^^^ q2) (q6 - q1) b1) [(.long (q6 - q1)), (.long (q5 ^^^ q2)), (.long q6), (.long q5), (.ref b3), (.ref b3)])) _
    refine st4.trans ?_
    show Steps p.tables e below (T4.setTop (mkF m 42 (own_F4 q1 q2 q3 q4 q5 q6 (q5 ^^^ q2) (q6 - q1) b1) [(.ref b3)])) _
    refine XS.astore X4.here hx rfl (hb hby at_42) rfl rfl (l' := (own_F5 q1 q2 q3 q4 q5 q6 (q5 ^^^ q2) (q6 - q1) b1 b3)) rfl ?_
    show Steps p.tables e below (T4.setTop (mkF m 44 (own_F5 q1 q2 q3 q4 q5 q6 (q5 ^^^ q2) (q6 - q1) b1 b3) [])) _
    refine XS.aload X4.here hx rfl (hb hby at_44) rfl rfl ?_
    show Steps p.tables e below (T4.setTop (mkF m 46 (own_F5 q1 q2 q3 q4 q5 q6 (q5 ^^^ q2) (q6 - q1) b1 b3) [(.ref b1)])) _
    refine XS.aload X4.here hx rfl (hb hby at_46) rfl rfl ?_
    show Steps p.tables e below (T4.setTop (mkF m 48 (own_F5 q1 q2 q3 q4 q5 q6 (q5 ^^^ q2) (q6 - q1) b1 b3) [(.ref b3), (.ref b1)])) _
    refine st5.trans ?_
    show Steps p.tables e below (T5.setTop (mkF m 51 (own_F5 q1 q2 q3 q4 q5 q6 (q5 ^^^ q2) (q6 - q1) b1 b3) [(.ref z_5)])) _
    refine XS.astore X5.here hx rfl (hb hby at_51) rfl rfl (l' := (own_F6 q1 q2 q3 q4 q5 q6 (q5 ^^^ q2) (q6 - q1) b1 b3 z_5)) rfl ?_
    show Steps p.tables e below (T5.setTop (mkF m 53 (own_F6 q1 q2 q3 q4 q5 q6 (q5 ^^^ q2) (q6 - q1) b1 b3 z_5) [])) _
    refine XS.lloadN X5.here hx rfl (hb hby at_53) rfl ?_
    show Steps p.tables e below (T5.setTop (mkF m 54 (own_F6 q1 q2 q3 q4 q5 q6 (q5 ^^^ q2) (q6 - q1) b1 b3 z_5) [(.long q1)])) _
    refine XS.lload X5.here hx rfl (hb hby at_54) rfl ?_
    show Steps p.tables e below (T5.setTop (mkF m 56 (own_F6 q1 q2 q3 q4 q5 q6 (q5 ^^^ q2) (q6 - q1) b1 b3 z_5) [(.long q5), (.long q1)])) _
    refine XS.ladd X5.here hx rfl (hb hby at_56) rfl ?_
    show Steps p.tables e below (T5.setTop (mkF m 57 (own_F6 q1 q2 q3 q4 q5 q6 (q5 ^^^ q2) (q6 - q1) b1 b3 z_5) [(.long (q1 + q5))])) _
    refine XS.lstore X5.here hx rfl (hb hby at_57) rfl (l' := (own_F7 q1 q2 q3 q4 q5 q6 (q5 ^^^ q2) (q6 - q1) b1 b3 z_5 (q1 + q5))) rfl ?_
    show Steps p.tables e below (T5.setTop (mkF m 59 (own_F7 q1 q2 q3 q4 q5 q6 (q5 ^^^ q2) (q6 - q1) b1 b3 z_5 (q1 + q5)) [])) _
    refine XS.lloadN X5.here hx rfl (hb hby at_59) rfl ?_
    show Steps p.tables e below (T5.setTop (mkF m 60 (own_F7 q1 q2 q3 q4 q5 q6 (q5 ^^^ q2) (q6 - q1) b1 b3 z_5 (q1 + q5)) [(.long q2)])) _
    refine XS.lload X5.here hx rfl (hb hby at_60) rfl ?_
    show Steps p.tables e below (T5.setTop (mkF m 62 (own_F7 q1 q2 q3 q4 q5 q6 (q5 ^^^ q2) (q6 - q1) b1 b3 z_5 (q1 + q5)) [(.long q6), (.long q2)])) _
    refine XS.ladd X5.here hx rfl (hb hby at_62) rfl ?_
    show Steps p.tables e below (T5.setTop (mkF m 63 (own_F7 q1 q2 q3 q4 q5 q6 (q5 ^^^ q2) (q6 - q1) b1 b3 z_5 (q1 + q5)) [(.long (q2 + q6))])) _
    refine XS.lstore X5.here hx rfl (hb hby at_63) rfl (l' := (own_F8 q1 q2 q3 q4 q5 q6 (q5 ^^^ q2) (q6 - q1) b1 b3 z_5 (q1 + q5) (q2 + q6))) rfl ?_
    show Steps p.tables e below (T5.setTop (mkF m 65 (own_F8 q1 q2 q3 q4 q5 q6 (q5 ^^^ q2) (q6 - q1) b1 b3 z_5 (q1 + q5) (q2 + q6)) [])) _
    refine XS.lload X5.here hx rfl (hb hby at_65) rfl ?_
    show Steps p.tables e below (T5.setTop (mkF m 67 (own_F8 q1 q2 q3 q4 q5 q6 (q5 ^^^ q2) (q6 - q1) b1 b3 z_5 (q1 + q5) (q2 + q6)) [(.long q3)])) _
    refine XS.lload X5.here hx rfl (hb hby at_67) rfl ?_
    show Steps p.tables e below (T5.setTop (mkF m 69 (own_F8 q1 q2 q3 q4 q5 q6 (q5 ^^^ q2) (q6 - q1) b1 b3 z_5 (q1 + q5) (q2 + q6)) [(.long (q5 ^^^ q2)), (.long q3)])) _
    refine XS.ladd X5.here hx rfl (hb hby at_69) rfl ?_
    show Steps p.tables e below (T5.setTop (mkF m 70 (own_F8 q1 q2 q3 q4 q5 q6 (q5 ^^^ q2) (q6 - q1) b1 b3 z_5 (q1 + q5) (q2 + q6)) [(.long (q3 + (q5 ^^^ q2)))])) _
    refine XS.lstore X5.here hx rfl (hb hby at_70) rfl (l' := (own_F9 q1 q2 q3 q4 q5 q6 (q5 ^^^ q2) (q6 - q1) b1 b3 z_5 (q1 + q5) (q2 + q6) (q3 + (q5 ^^^ q2)))) rfl ?_
    show Steps p.tables e below (T5.setTop (mkF m 72 (own_F9 q1 q2 q3 q4 q5 q6 (q5 ^^^ q2) (q6 - q1) b1 b3 z_5 (q1 + q5) (q2 + q6) (q3 + (q5 ^^^ q2))) [])) _
    refine XS.lload X5.here hx rfl (hb hby at_72) rfl ?_
    show Steps p.tables e below (T5.setTop (mkF m 74 (own_F9 q1 q2 q3 q4 q5 q6 (q5 ^^^ q2) (q6 - q1) b1 b3 z_5 (q1 + q5) (q2 + q6) (q3 + (q5 ^^^ q2))) [(.long q4)])) _
    refine XS.lload X5.here hx rfl (hb hby at_74) rfl ?_
    show Steps p.tables e below (T5.setTop (mkF m 76 (own_F9 q1 q2 q3 q4 q5 q6 (q5 ^^^ q2) (q6 - q1) b1 b3 z_5 (q1 + q5) (q2 + q6) (q3 + (q5 ^^^ q2))) [(.long (q6 - q1)), (.long q4)])) _
    refine XS.ladd X5.here hx rfl (hb hby at_76) rfl ?_
    show Steps p.tables e below (T5.setTop (mkF m 77 (own_F9 q1 q2 q3 q4 q5 q6 (q5 ^^^ q2) (q6 - q1) b1 b3 z_5 (q1 + q5) (q2 + q6) (q3 + (q5 ^^^ q2))) [(.long (q4 + (q6 - q1)))])) _
    refine XS.lstore X5.here hx rfl (hb hby at_77) rfl (l' := (own_F10 q1 q2 q3 q4 q5 q6 (q5 ^^^ q2) (q6 - q1) b1 b3 z_5 (q1 + q5) (q2 + q6) (q3 + (q5 ^^^ q2)) (q4 + (q6 - q1)))) rfl ?_
    show Steps p.tables e below (T5.setTop (mkF m 79 (own_F10 q1 q2 q3 q4 q5 q6 (q5 ^^^ q2) (q6 - q1) b1 b3 z_5 (q1 + q5) (q2 + q6) (q3 + (q5 ^^^ q2)) (q4 + (q6 - q1))) [])) _
    refine XS.aload X5.here hx rfl (hb hby at_79) rfl rfl ?_
    show Steps p.tables e below (T5.setTop (mkF m 81 (own_F10 q1 q2 q3 q4 q5 q6 (q5 ^^^ q2) (q6 - q1) b1 b3 z_5 (q1 + q5) (q2 + q6) (q3 + (q5 ^^^ q2)) (q4 + (q6 - q1))) [(.ref z_5)])) _
    refine st6.trans ?_
    show Steps p.tables e below (T6.setTop (mkF m 84 (own_F10 q1 q2 q3 q4 q5 q6 (q5 ^^^ q2) (q6 - q1) b1 b3 z_5 (q1 + q5) (q2 + q6) (q3 + (q5 ^^^ q2)) (q4 + (q6 - q1))) [(.long (q1 + q5))])) _
    refine XS.lload X6.here hx rfl (hb hby at_84) rfl ?_
    show Steps p.tables e below (T6.setTop (mkF m 86 (own_F10 q1 q2 q3 q4 q5 q6 (q5 ^^^ q2) (q6 - q1) b1 b3 z_5 (q1 + q5) (q2 + q6) (q3 + (q5 ^^^ q2)) (q4 + (q6 - q1))) [(.long (q1 + q5)), (.long (q1 + q5))])) _
    refine XS.lcmp X6.here hx rfl (hb hby at_86) rfl ?_
    show Steps p.tables e below (T6.setTop (mkF m 87 (own_F10 q1 q2 q3 q4 q5 q6 (q5 ^^^ q2) (q6 - q1) b1 b3 z_5 (q1 + q5) (q2 + q6) (q3 + (q5 ^^^ q2)) (q4 + (q6 - q1))) [(.int (lcmpW (q1 + q5) (q1 + q5)))])) _
    refine XS.ifNo X6.here hx rfl (hb hby at_87) rfl ((if0 _ _).trans (teq ((lw_eq _ _).mpr rfl : (lcmpW (q1 + q5) (q1 + q5)) = (0 : Int32))).2) ?_
    show Steps p.tables e below (T6.setTop (mkF m 90 (own_F10 q1 q2 q3 q4 q5 q6 (q5 ^^^ q2) (q6 - q1) b1 b3 z_5 (q1 + q5) (q2 + q6) (q3 + (q5 ^^^ q2)) (q4 + (q6 - q1))) [])) _
    refine XS.aload X6.here hx rfl (hb hby at_90) rfl rfl ?_
    show Steps p.tables e below (T6.setTop (mkF m 92 (own_F10 q1 q2 q3 q4 q5 q6 (q5 ^^^ q2) (q6 - q1) b1 b3 z_5 (q1 + q5) (q2 + q6) (q3 + (q5 ^^^ q2)) (q4 + (q6 - q1))) [(.ref z_5)])) _
    refine st7.trans ?_
    show Steps p.tables e below (T7.setTop (mkF m 95 (own_F10 q1 q2 q3 q4 q5 q6 (q5 ^^^ q2) (q6 - q1) b1 b3 z_5 (q1 + q5) (q2 + q6) (q3 + (q5 ^^^ q2)) (q4 + (q6 - q1))) [(.long (q2 + q6))])) _
    refine XS.lload X7.here hx rfl (hb hby at_95) rfl ?_
    show Steps p.tables e below (T7.setTop (mkF m 97 (own_F10 q1 q2 q3 q4 q5 q6 (q5 ^^^ q2) (q6 - q1) b1 b3 z_5 (q1 + q5) (q2 + q6) (q3 + (q5 ^^^ q2)) (q4 + (q6 - q1))) [(.long (q2 + q6)), (.long (q2 + q6))])) _
    refine XS.lcmp X7.here hx rfl (hb hby at_97) rfl ?_
    show Steps p.tables e below (T7.setTop (mkF m 98 (own_F10 q1 q2 q3 q4 q5 q6 (q5 ^^^ q2) (q6 - q1) b1 b3 z_5 (q1 + q5) (q2 + q6) (q3 + (q5 ^^^ q2)) (q4 + (q6 - q1))) [(.int (lcmpW (q2 + q6) (q2 + q6)))])) _
    refine XS.ifNo X7.here hx rfl (hb hby at_98) rfl ((if0 _ _).trans (teq ((lw_eq _ _).mpr rfl : (lcmpW (q2 + q6) (q2 + q6)) = (0 : Int32))).2) ?_
    show Steps p.tables e below (T7.setTop (mkF m 101 (own_F10 q1 q2 q3 q4 q5 q6 (q5 ^^^ q2) (q6 - q1) b1 b3 z_5 (q1 + q5) (q2 + q6) (q3 + (q5 ^^^ q2)) (q4 + (q6 - q1))) [])) _
    refine XS.aload X7.here hx rfl (hb hby at_101) rfl rfl ?_
    show Steps p.tables e below (T7.setTop (mkF m 103 (own_F10 q1 q2 q3 q4 q5 q6 (q5 ^^^ q2) (q6 - q1) b1 b3 z_5 (q1 + q5) (q2 + q6) (q3 + (q5 ^^^ q2)) (q4 + (q6 - q1))) [(.ref z_5)])) _
    refine st8.trans ?_
    show Steps p.tables e below (T8.setTop (mkF m 106 (own_F10 q1 q2 q3 q4 q5 q6 (q5 ^^^ q2) (q6 - q1) b1 b3 z_5 (q1 + q5) (q2 + q6) (q3 + (q5 ^^^ q2)) (q4 + (q6 - q1))) [(.long (q3 + (q5 ^^^ q2)))])) _
    refine XS.lload X8.here hx rfl (hb hby at_106) rfl ?_
    show Steps p.tables e below (T8.setTop (mkF m 108 (own_F10 q1 q2 q3 q4 q5 q6 (q5 ^^^ q2) (q6 - q1) b1 b3 z_5 (q1 + q5) (q2 + q6) (q3 + (q5 ^^^ q2)) (q4 + (q6 - q1))) [(.long (q3 + (q5 ^^^ q2))), (.long (q3 + (q5 ^^^ q2)))])) _
    refine XS.lcmp X8.here hx rfl (hb hby at_108) rfl ?_
    show Steps p.tables e below (T8.setTop (mkF m 109 (own_F10 q1 q2 q3 q4 q5 q6 (q5 ^^^ q2) (q6 - q1) b1 b3 z_5 (q1 + q5) (q2 + q6) (q3 + (q5 ^^^ q2)) (q4 + (q6 - q1))) [(.int (lcmpW (q3 + (q5 ^^^ q2)) (q3 + (q5 ^^^ q2))))])) _
    refine XS.ifNo X8.here hx rfl (hb hby at_109) rfl ((if0 _ _).trans (teq ((lw_eq _ _).mpr rfl : (lcmpW (q3 + (q5 ^^^ q2)) (q3 + (q5 ^^^ q2))) = (0 : Int32))).2) ?_
    show Steps p.tables e below (T8.setTop (mkF m 112 (own_F10 q1 q2 q3 q4 q5 q6 (q5 ^^^ q2) (q6 - q1) b1 b3 z_5 (q1 + q5) (q2 + q6) (q3 + (q5 ^^^ q2)) (q4 + (q6 - q1))) [])) _
    refine XS.aload X8.here hx rfl (hb hby at_112) rfl rfl ?_
    show Steps p.tables e below (T8.setTop (mkF m 114 (own_F10 q1 q2 q3 q4 q5 q6 (q5 ^^^ q2) (q6 - q1) b1 b3 z_5 (q1 + q5) (q2 + q6) (q3 + (q5 ^^^ q2)) (q4 + (q6 - q1))) [(.ref z_5)])) _
    refine st9.trans ?_
    show Steps p.tables e below (T9.setTop (mkF m 117 (own_F10 q1 q2 q3 q4 q5 q6 (q5 ^^^ q2) (q6 - q1) b1 b3 z_5 (q1 + q5) (q2 + q6) (q3 + (q5 ^^^ q2)) (q4 + (q6 - q1))) [(.long (q4 + (q6 - q1)))])) _
    refine XS.lload X9.here hx rfl (hb hby at_117) rfl ?_
    show Steps p.tables e below (T9.setTop (mkF m 119 (own_F10 q1 q2 q3 q4 q5 q6 (q5 ^^^ q2) (q6 - q1) b1 b3 z_5 (q1 + q5) (q2 + q6) (q3 + (q5 ^^^ q2)) (q4 + (q6 - q1))) [(.long (q4 + (q6 - q1))), (.long (q4 + (q6 - q1)))])) _
    refine XS.lcmp X9.here hx rfl (hb hby at_119) rfl ?_
    show Steps p.tables e below (T9.setTop (mkF m 120 (own_F10 q1 q2 q3 q4 q5 q6 (q5 ^^^ q2) (q6 - q1) b1 b3 z_5 (q1 + q5) (q2 + q6) (q3 + (q5 ^^^ q2)) (q4 + (q6 - q1))) [(.int (lcmpW (q4 + (q6 - q1)) (q4 + (q6 - q1))))])) _
    refine XS.ifNo X9.here hx rfl (hb hby at_120) rfl ((if0 _ _).trans (teq ((lw_eq _ _).mpr rfl : (lcmpW (q4 + (q6 - q1)) (q4 + (q6 - q1))) = (0 : Int32))).2) ?_
    show Steps p.tables e below (T9.setTop (mkF m 123 (own_F10 q1 q2 q3 q4 q5 q6 (q5 ^^^ q2) (q6 - q1) b1 b3 z_5 (q1 + q5) (q2 + q6) (q3 + (q5 ^^^ q2)) (q4 + (q6 - q1))) [])) _
    refine XS.aload X9.here hx rfl (hb hby at_123) rfl rfl ?_
    show Steps p.tables e below (T9.setTop (mkF m 125 (own_F10 q1 q2 q3 q4 q5 q6 (q5 ^^^ q2) (q6 - q1) b1 b3 z_5 (q1 + q5) (q2 + q6) (q3 + (q5 ^^^ q2)) (q4 + (q6 - q1))) [(.ref z_5)])) _
    refine st10.trans ?_
    show Steps p.tables e below (T10.setTop (mkF m 128 (own_F10 q1 q2 q3 q4 q5 q6 (q5 ^^^ q2) (q6 - q1) b1 b3 z_5 (q1 + q5) (q2 + q6) (q3 + (q5 ^^^ q2)) (q4 + (q6 - q1))) [(.long ((q3 + (q5 ^^^ q2)) + (q4 + (q6 - q1))))])) _
    refine XS.lload X10.here hx rfl (hb hby at_128) rfl ?_
    show Steps p.tables e below (T10.setTop (mkF m 130 (own_F10 q1 q2 q3 q4 q5 q6 (q5 ^^^ q2) (q6 - q1) b1 b3 z_5 (q1 + q5) (q2 + q6) (q3 + (q5 ^^^ q2)) (q4 + (q6 - q1))) [(.long (q3 + (q5 ^^^ q2))), (.long ((q3 + (q5 ^^^ q2)) + (q4 + (q6 - q1))))])) _
    refine XS.lload X10.here hx rfl (hb hby at_130) rfl ?_
    show Steps p.tables e below (T10.setTop (mkF m 132 (own_F10 q1 q2 q3 q4 q5 q6 (q5 ^^^ q2) (q6 - q1) b1 b3 z_5 (q1 + q5) (q2 + q6) (q3 + (q5 ^^^ q2)) (q4 + (q6 - q1))) [(.long (q4 + (q6 - q1))), (.long (q3 + (q5 ^^^ q2))), (.long ((q3 + (q5 ^^^ q2)) + (q4 + (q6 - q1))))])) _
    refine XS.ladd X10.here hx rfl (hb hby at_132) rfl ?_
    show Steps p.tables e below (T10.setTop (mkF m 133 (own_F10 q1 q2 q3 q4 q5 q6 (q5 ^^^ q2) (q6 - q1) b1 b3 z_5 (q1 + q5) (q2 + q6) (q3 + (q5 ^^^ q2)) (q4 + (q6 - q1))) [(.long ((q3 + (q5 ^^^ q2)) + (q4 + (q6 - q1)))), (.long ((q3 + (q5 ^^^ q2)) + (q4 + (q6 - q1))))])) _
    refine XS.lcmp X10.here hx rfl (hb hby at_133) rfl ?_
    show Steps p.tables e below (T10.setTop (mkF m 134 (own_F10 q1 q2 q3 q4 q5 q6 (q5 ^^^ q2) (q6 - q1) b1 b3 z_5 (q1 + q5) (q2 + q6) (q3 + (q5 ^^^ q2)) (q4 + (q6 - q1))) [(.int (lcmpW ((q3 + (q5 ^^^ q2)) + (q4 + (q6 - q1))) ((q3 + (q5 ^^^ q2)) + (q4 + (q6 - q1)))))])) _
    refine XS.ifNo X10.here hx rfl (hb hby at_134) rfl ((if0 _ _).trans (teq ((lw_eq _ _).mpr rfl : (lcmpW ((q3 + (q5 ^^^ q2)) + (q4 + (q6 - q1))) ((q3 + (q5 ^^^ q2)) + (q4 + (q6 - q1)))) = (0 : Int32))).2) ?_
    show Steps p.tables e below (T10.setTop (mkF m 137 (own_F10 q1 q2 q3 q4 q5 q6 (q5 ^^^ q2) (q6 - q1) b1 b3 z_5 (q1 + q5) (q2 + q6) (q3 + (q5 ^^^ q2)) (q4 + (q6 - q1))) [])) _
    refine XS.iconst X10.here hx rfl (hb hby at_137) ?_
    show Steps p.tables e below (T10.setTop (mkF m 138 (own_F10 q1 q2 q3 q4 q5 q6 (q5 ^^^ q2) (q6 - q1) b1 b3 z_5 (q1 + q5) (q2 + q6) (q3 + (q5 ^^^ q2)) (q4 + (q6 - q1))) [(.int (1 : Int32))])) _
    refine XS.goto X10.here hx rfl (pc0 := 138) (pc' := 142) rfl (hb hby at_138) (by decide) (by decide) ?_
    show Steps p.tables e below (T10.setTop (mkF m 142 (own_F10 q1 q2 q3 q4 q5 q6 (q5 ^^^ q2) (q6 - q1) b1 b3 z_5 (q1 + q5) (q2 + q6) (q3 + (q5 ^^^ q2)) (q4 + (q6 - q1))) [(.int (1 : Int32))])) _
    exact k
  obtain ⟨fs, hr, hrun, hended, hW, hsame⟩ := X10.leave (v := some (.int (1 : Int32))) (fun h => by rw [Bd.returns] at h; cases h)
  refine ⟨_, _, w11 _ ?_, hrun, hended, _, _, rfl, ?_, ⟨_, rfl⟩, hW, hsame.mono (by decide) (by decide)⟩
  · exact retN X10 hx (t := .boolean) Bd.returns (by simp) (hb hby at_142) hr
  · show Q0 Z q1 q2 q3 q4 q5 q6  h0 n0 _ T10.heap _
    rw [eh10]
    exact ⟨rfl, N10⟩
set_option maxRecDepth 65536 in
set_option maxHeartbeats 40000000 in
theorem comes_1 {Post : Tables → Env → Array Value → State → Outcome → State → Prop} (hpost : ∀ tb e args s v u, (limb_1_1.after args s (.returned v) u = true ∧ limb_1_2.after args s (.returned v) u = true ∧ True) → FrameEnd s (.returned v) u (Jvm.fieldLocs frame_1_writes args s ++ Jvm.arrayLocs frame_1_arrays args s ++ Jvm.staticLocs frame_1_statics s) 16 128 → Post tb e args s (.returned v) u) :
    ArmFor flags0 classFile x code maxLocals ret World_1 tables_1 room_1 Calls_1 rest_1 Pre_1 Post := by
  intro l hfl _ _ p e ha hc hk s m args below hf hA hF happ hP
  obtain ⟨hcalls, hrest, hpre⟩ := hP
  obtain ⟨-, -, -, hnamed, -, -, -, hat⟩ := (Spec.applies_iff hf).mp happ
  obtain ⟨hg, hn⟩ := and_e (Cond.before_iff.mp (show (Jvm.Cond.and given_1 narrow_1).before args s = true from hpre))
  obtain ⟨g1, g2⟩ := and_e hg
  obtain ⟨g3, g4⟩ := and_e g2
  obtain ⟨g5, g6⟩ := and_e g4
  obtain ⟨g7, g8⟩ := and_e g6
  obtain ⟨g9, g10⟩ := and_e g8
  obtain ⟨g11, g12⟩ := and_e g10
  obtain ⟨w0, w1, w2, w3, w4, w5, rfl⟩ : ∃ w0 w1 w2 w3 w4 w5 : Value, args = #[w0, w1, w2, w3, w4, w5] := by
    have hs : args.size = 6 := by simpa [Cond.value, given_1] using g1
    obtain ⟨L⟩ := args
    match L, hs with
    | [w0, w1, w2, w3, w4, w5], _ => exact ⟨w0, w1, w2, w3, w4, w5, rfl⟩
  have hw := fun d (hd : d ∈ tables_1) => atoms_spec (ws := Jvm.Cond.code x code maxLocals ret :: tables_1) hat d (List.mem_cons_of_mem _ hd)
  have hfit : Fit s := fun {y c} hc i hi => by
    obtain ⟨ha, rfl⟩ := Array.getElem?_eq_some_iff.mp hc
    have q := List.all_eq_true.mp ((Array.all_eq_true_iff_forall_mem.mp hF) _ (Array.getElem_mem ha)) i (List.mem_range.mpr hi)
    simpa [Array.getElem?_eq_getElem hi] using q
  obtain ⟨i0, ei0⟩ := isL_v g3
  obtain rfl : w0 = (.long i0) := Option.some.inj ei0
  obtain ⟨i1, ei1⟩ := isL_v g5
  obtain rfl : w1 = (.long i1) := Option.some.inj ei1
  obtain ⟨i2, ei2⟩ := isL_v g7
  obtain rfl : w2 = (.long i2) := Option.some.inj ei2
  obtain ⟨i3, ei3⟩ := isL_v g9
  obtain rfl : w3 = (.long i3) := Option.some.inj ei3
  obtain ⟨i4, ei4⟩ := isL_v g11
  obtain rfl : w4 = (.long i4) := Option.some.inj ei4
  obtain ⟨i5, ei5⟩ := isL_v g12
  obtain rfl : w5 = (.long i5) := Option.some.inj ei5
  obtain ⟨n, o, h1, h2, h3, _, L, rfl, ⟨rfl, N⟩, hq⟩ := rm0 l s _ hw tables_1 i0 i1 i2 i3 i4 i5 s.heap s.heap.size (Old.start s)  p e ha hc hk s m _ below hf ((Spec.applies_iff_loose hf).mp happ).1 ⟨rfl, State.Warmed39.refl s, rfl⟩ trivial
  refine ⟨n, _, h1, h2, h3, hpost _ _ _ _ _ _ ⟨Cond.after_iff.mpr rfl, Cond.after_iff.mpr (eq_i res_at (Term.int_eval (1)) rfl), trivial⟩ ⟨hq.1, hq.2.1, (hq.2.2.sift fun y hy => Or.inr (N y hy)).mono (by decide) (by decide)⟩⟩
theorem main_1_1 : Claimed_1_1 := comes_1 fun _ _ _ _ _ _ h hF => ⟨h.1, hF⟩
theorem main_1_2 : Claimed_1_2 := comes_1 fun _ _ _ _ _ _ h hF => ⟨h.2.1, hF⟩
end Jvm.Pilot.@@N@@
namespace Jvm.Pilot.@@N@@
open Jvm Jvm.ClassFile Sem Op Lib Jvm.Free Jvm.Stand Jvm.Pilot.@@N@@.Jvm.D
/-! MADE BY PROGRAM (witnessworld.py) out of the Statement's table words and the real class files: 9 classes; the members and pool entries that the words name. The judged class is class 1, her method 1. -/
namespace start1
open Jvm.ClassFile
def u (s : String) : CpInfo := .utf8 (stringToUtf16 s)
/-- a pool by its gaps: so many unusable entries, then the entry; so many at the end -/
def gap : Nat → List CpInfo → List CpInfo
  | 0, r => r
  | n + 1, r => .unusable :: gap n r
def poolList (es : List (Nat × CpInfo)) (last : Nat) : List CpInfo := es.foldr (fun e r => gap e.1 (e.2 :: r)) (gap last [])
def pool (es : List (Nat × CpInfo)) (last : Nat) : Array CpInfo := ⟨poolList es last⟩
def fileOf (pool : Array CpInfo) (this : Nat) (attrs : Array Attribute := #[]) (ms : Array MethodInfo := #[]) (fl : Nat := 33) (sup : Nat := 0) (ifs : Array Nat := #[]) (fds : Array FieldInfo := #[]) : ClassFile where
  minorVersion := 0
  majorVersion := 65
  constantPool := pool
  accessFlags := fl
  thisClass := this
  superClass := sup
  interfaces := ifs
  fields := fds
  methods := ms
  attributes := attrs
def plain (name : String) (sup : Option ClassId) : Class where
  name := name
  kind := .ordinary
  loader := none
  accessFlags := 33
  super := sup
  interfaces := #[]
  cf := none
  fields := #[]
  methods := #[]
  instanceTypes := #[]
  staticTypes := #[]
  resolved := #[]
  callSites := []
  init := .initialized
  statics := none
  mirror := none

def pool0 : Array CpInfo := pool [(5, u "<init>"), (0, u "()V"), (1, .class_ 10), (1, u "java/lang/Object")] 113

def k0c0 : Code := { maxStack := 0, maxLocals := 1, code := object_method_1_code, exceptionTable := #[], attributes := #[] }
def k0m0 : Method := { name := "<init>", desc := "()V", sig := { parameters := [], returnType := none }, accessFlags := 1, code := some k0c0 }
/-- java/lang/Object -/
def k0 : Class := { plain "java/lang/Object" none with
  accessFlags := 33
  interfaces := #[]
  cf := some (fileOf pool0 8 #[] #[{ accessFlags := 1, nameIndex := 5, descriptorIndex := 6, attributes := #[] }] 33 0 #[] #[])
  fields := #[]
  methods := #[k0m0]
  instanceTypes := #[]
  staticTypes := #[]
  resolved := Array.replicate 124 none
  statics := none }

def pool1 : Array CpInfo := pool [(2, .class_ 4), (1, u "java/lang/Object"), (0, u "<init>"), (0, u "()V"), (0, .class_ 8), (0, u "com/example/rolling_ledger/rollingledger/model/IngestReport"), (0, .methodref 7 10), (0, .nameAndType 5 11), (0, u "(JJJJ)V"), (0, .methodref 7 13), (0, .nameAndType 14 15), (0, u "plus"), (0, u "(Lcom/example/rolling_ledger/rollingledger/model/IngestReport;)Lcom/example/rolling_ledger/rollingledger/model/IngestReport;"), (0, .methodref 7 17), (0, .nameAndType 18 19), (0, u "files"), (0, u "()J"), (0, .methodref 7 21), (0, .nameAndType 22 19), (0, u "records"), (0, .methodref 7 24), (0, .nameAndType 25 19), (0, u "newCaptures"), (0, .methodref 7 27), (0, .nameAndType 28 19), (0, u "alreadyRecorded"), (0, .methodref 7 30), (0, .nameAndType 31 19), (0, u "captures"), (0, .class_ 33), (0, u "com/example/rolling_ledger/rollingledger/model/IngestReportPlusPinLaw"), (2, u "law"), (0, u "(JJJJJJ)Z")] 3

def k1m0 : Method := { name := "<init>", desc := "()V", sig := { parameters := [], returnType := none }, accessFlags := 1, code := none }
def k1c1 : Code := { maxStack := 10, maxLocals := 27, code := code, exceptionTable := #[], attributes := #[] }
def k1m1 : Method := { name := "law", desc := "(JJJJJJ)Z", sig := { parameters := [.long, .long, .long, .long, .long, .long], returnType := some .boolean }, accessFlags := 9, code := some k1c1 }
/-- com/example/rolling_ledger/rollingledger/model/IngestReportPlusPinLaw -/
def k1 : Class := { plain "com/example/rolling_ledger/rollingledger/model/IngestReportPlusPinLaw" (some 0) with
  accessFlags := 49
  interfaces := #[]
  cf := some (fileOf pool1 32 #[] #[{ accessFlags := 1, nameIndex := 5, descriptorIndex := 6, attributes := #[] }, { accessFlags := 9, nameIndex := 36, descriptorIndex := 37, attributes := #[] }] 49 2 #[] #[])
  fields := #[]
  methods := #[k1m0, k1m1]
  instanceTypes := #[]
  staticTypes := #[]
  resolved := Array.replicate 41 none
  statics := none }

def pool2 : Array CpInfo := pool [(1, .methodref 2 3), (0, .class_ 4), (0, .nameAndType 5 6), (0, u "java/lang/Object"), (0, u "<init>"), (0, u "()V"), (0, .fieldref 8 9), (0, .class_ 10), (0, .nameAndType 11 12), (0, u "com/example/rolling_ledger/rollingledger/model/IngestReport"), (0, u "files"), (0, u "J"), (0, .fieldref 8 14), (0, .nameAndType 15 12), (0, u "records"), (0, .fieldref 8 17), (0, .nameAndType 18 12), (0, u "newCaptures"), (0, .fieldref 8 20), (0, .nameAndType 21 12), (0, u "alreadyRecorded"), (0, .methodref 8 23), (0, .nameAndType 5 24), (0, u "(JJJJ)V"), (2, u "()J"), (0, u "captures"), (0, u "plus"), (0, u "(Lcom/example/rolling_ledger/rollingledger/model/IngestReport;)Lcom/example/rolling_ledger/rollingledger/model/IngestReport;")] 2

def k2c0 : Code := { maxStack := 3, maxLocals := 9, code := prog_7_method_1_code, exceptionTable := #[], attributes := #[] }
def k2m0 : Method := { name := "<init>", desc := "(JJJJ)V", sig := { parameters := [.long, .long, .long, .long], returnType := none }, accessFlags := 1, code := some k2c0 }
def k2c1 : Code := { maxStack := 2, maxLocals := 1, code := prog_7_method_2_code, exceptionTable := #[], attributes := #[] }
def k2m1 : Method := { name := "files", desc := "()J", sig := { parameters := [], returnType := some .long }, accessFlags := 1, code := some k2c1 }
def k2c2 : Code := { maxStack := 2, maxLocals := 1, code := prog_7_method_3_code, exceptionTable := #[], attributes := #[] }
def k2m2 : Method := { name := "records", desc := "()J", sig := { parameters := [], returnType := some .long }, accessFlags := 1, code := some k2c2 }
def k2c3 : Code := { maxStack := 4, maxLocals := 1, code := prog_7_method_4_code, exceptionTable := #[], attributes := #[] }
def k2m3 : Method := { name := "captures", desc := "()J", sig := { parameters := [], returnType := some .long }, accessFlags := 1, code := some k2c3 }
def k2c4 : Code := { maxStack := 2, maxLocals := 1, code := prog_7_method_5_code, exceptionTable := #[], attributes := #[] }
def k2m4 : Method := { name := "newCaptures", desc := "()J", sig := { parameters := [], returnType := some .long }, accessFlags := 1, code := some k2c4 }
def k2c5 : Code := { maxStack := 2, maxLocals := 1, code := prog_7_method_6_code, exceptionTable := #[], attributes := #[] }
def k2m5 : Method := { name := "alreadyRecorded", desc := "()J", sig := { parameters := [], returnType := some .long }, accessFlags := 1, code := some k2c5 }
def k2c6 : Code := { maxStack := 12, maxLocals := 2, code := prog_7_method_7_code, exceptionTable := #[], attributes := #[] }
def k2m6 : Method := { name := "plus", desc := "(Lcom/example/rolling_ledger/rollingledger/model/IngestReport;)Lcom/example/rolling_ledger/rollingledger/model/IngestReport;", sig := { parameters := [(.object "com/example/rolling_ledger/rollingledger/model/IngestReport")], returnType := some (.object "com/example/rolling_ledger/rollingledger/model/IngestReport") }, accessFlags := 1, code := some k2c6 }
/-- com/example/rolling_ledger/rollingledger/model/IngestReport -/
def k2 : Class := { plain "com/example/rolling_ledger/rollingledger/model/IngestReport" (some 0) with
  accessFlags := 49
  interfaces := #[]
  cf := some (fileOf pool2 8 #[] #[{ accessFlags := 1, nameIndex := 5, descriptorIndex := 24, attributes := #[] }, { accessFlags := 1, nameIndex := 11, descriptorIndex := 27, attributes := #[] }, { accessFlags := 1, nameIndex := 15, descriptorIndex := 27, attributes := #[] }, { accessFlags := 1, nameIndex := 28, descriptorIndex := 27, attributes := #[] }, { accessFlags := 1, nameIndex := 18, descriptorIndex := 27, attributes := #[] }, { accessFlags := 1, nameIndex := 21, descriptorIndex := 27, attributes := #[] }, { accessFlags := 1, nameIndex := 29, descriptorIndex := 30, attributes := #[] }] 49 2 #[] #[{ accessFlags := 18, nameIndex := 11, descriptorIndex := 12, attributes := #[] }, { accessFlags := 18, nameIndex := 15, descriptorIndex := 12, attributes := #[] }, { accessFlags := 18, nameIndex := 18, descriptorIndex := 12, attributes := #[] }, { accessFlags := 18, nameIndex := 21, descriptorIndex := 12, attributes := #[] }])
  fields := #[{ name := "files", type := .long, accessFlags := 18, slot := 0, constantValue := 0 }, { name := "records", type := .long, accessFlags := 18, slot := 1, constantValue := 0 }, { name := "newCaptures", type := .long, accessFlags := 18, slot := 2, constantValue := 0 }, { name := "alreadyRecorded", type := .long, accessFlags := 18, slot := 3, constantValue := 0 }]
  methods := #[k2m0, k2m1, k2m2, k2m3, k2m4, k2m5, k2m6]
  instanceTypes := #[.long, .long, .long, .long]
  staticTypes := #[]
  resolved := Array.replicate 33 none
  statics := none }

def pool3 : Array CpInfo := pool [(1, u "java/lang/Cloneable"), (0, .class_ 1), (0, u "java/lang/Object"), (0, .class_ 3)] 3

/-- java/lang/Cloneable -/
def k3 : Class := { plain "java/lang/Cloneable" (some 0) with
  accessFlags := 1537
  interfaces := #[]
  cf := some (fileOf pool3 2 #[] #[] 1537 4 #[] #[])
  fields := #[]
  methods := #[]
  instanceTypes := #[]
  staticTypes := #[]
  resolved := Array.replicate 8 none
  statics := none }

def pool4 : Array CpInfo := pool [(1, u "java/io/Serializable"), (0, .class_ 1), (0, u "java/lang/Object"), (0, .class_ 3)] 3

/-- java/io/Serializable -/
def k4 : Class := { plain "java/io/Serializable" (some 0) with
  accessFlags := 1537
  interfaces := #[]
  cf := some (fileOf pool4 2 #[] #[] 1537 4 #[] #[])
  fields := #[]
  methods := #[]
  instanceTypes := #[]
  staticTypes := #[]
  resolved := Array.replicate 8 none
  statics := none }

/-- the primitive byte -/
def k5 : Class := { plain "byte" none with kind := .primitive 'B', accessFlags := 0x411 }
/-- [B -/
def k6 : Class := { plain "[B" (some 0) with kind := .array 5 .byte, interfaces := #[3, 4], accessFlags := 1041 }

/-- the primitive int -/
def k7 : Class := { plain "int" none with kind := .primitive 'I', accessFlags := 0x411 }
/-- [I -/
def k8 : Class := { plain "[I" (some 0) with kind := .array 7 .int, interfaces := #[3, 4], accessFlags := 1041 }

def heap : Heap := #[]
def classes : Array Class := #[k0, k1, k2, k3, k4, k5, k6, k7, k8]
def interned : List (Array UInt16 × Addr) := []
def slotsUsed : Nat := 0
def theMethod : MethodId := ⟨1, 1⟩
def args0 : Array Value := #[.long 0, .long 1, .long 2, .long 3, .long 4, .long 5]
def aboutOver (below : List Frame) : State where
  vm := { classes := classes, interned := interned.toArray }
  heap := heap
  slotsUsed := slotsUsed
  threads := #[{ frames := .invoking theMethod args0 :: below }]
def below0 : List Frame := [.native { method := ⟨0, 0⟩, args := #[] }]
def about1 : State := aboutOver below0
def p0 : Program := .bare "" "" ""
def e0 : Env := launch0.env 0 0 0
theorem w_frames : about1.frames = Frame.invoking theMethod args0 :: below0 := rfl
set_option maxRecDepth 65536 in
theorem w_args : argsFit about1.vm theMethod args0 = true := by decide +kernel
set_option maxRecDepth 65536 in
theorem w_heap : heapFits about1 = true := by decide +kernel
set_option maxRecDepth 65536 in
theorem w_runnable : about1.curStatus? = some .runnable := by decide +kernel
set_option maxRecDepth 65536 in
theorem w_alone : about1.alone = true := by decide +kernel
set_option maxRecDepth 65536 in
theorem w_named : about1.methodNamed? x = some theMethod := by decide +kernel
set_option maxRecDepth 65536 in
theorem w_hears : about1.hears theMethod below0 = true := by decide +kernel
set_option maxRecDepth 65536 in
theorem w_ripe : about1.ripe theMethod args0 below0 = true := by decide +kernel
theorem w_running : about1.status = .running := rfl
set_option maxRecDepth 65536 in
theorem w_room : about1.hasRoom e0.platform room_1 = true :=
  launch0.hasRoom_least _ room_1 (by decide +kernel) (by decide +kernel) (by decide +kernel) (by decide +kernel) (by decide +kernel) (by decide +kernel)
theorem allAtoms_all (ts : List Jvm.Cond) (a : Array Jvm.Value) (st : Jvm.State) : (allAtoms ts).before a st = ts.all (fun c => c.before a st) := by
  induction ts with
  | nil => rfl
  | cons c t ih =>
    show (Jvm.Cond.and c (allAtoms t)).before a st = _
    rw [Jvm.Cond.before_and, ih, List.all_cons]
def words1 : List Jvm.Cond := Jvm.Cond.code x code maxLocals ret :: tables_1
/-- a 'code' word, met by the world's own term for the bytes: nothing is compared byte by byte -/
theorem code_word {y : MethodName} {bytes : ByteArray} {mx : Nat} {rt : Option FieldType} {a : Array Value} {s : State} {m : MethodId} {meth : Method} {c : Code} (h1 : s.methodNamed? y = some m) (h2 : s.vm.method? m = some meth) (h3 : meth.code = some c) (h4 : c.code = bytes)
    (h5 : (c.maxLocals == mx && c.exceptionTable.isEmpty && decide (c.maxStack ≤ mostOperands) && decide (meth.sig.returnType = rt) && !meth.locks && decide (parseMethodDescriptor y.desc = some meth.sig)) = true) : (Jvm.Cond.code y bytes mx rt).before a s = true := by
  simp only [Bool.and_eq_true, beq_iff_eq, Bool.not_eq_true', decide_eq_true_eq] at h5
  obtain ⟨⟨⟨⟨⟨g1, g2⟩, g3⟩, g4⟩, g5⟩, g6⟩ := h5
  simp [Cond.before, Cond.holds, Cond.value, h1, h2, h3, h4, g1, g2, g3, g4, g5, g6]
def isCode : Jvm.Cond → Bool
  | .code _ _ _ _ => true
  | _ => false
theorem all_split {L : List Jvm.Cond} {P : Jvm.Cond → Bool} (h1 : L.all (fun c => isCode c || P c) = true) (h2 : ∀ c ∈ L.filter isCode, P c = true) : L.all P = true := by
  refine List.all_eq_true.mpr fun c hc => ?_
  have h := List.all_eq_true.mp h1 c hc
  rcases Bool.eq_false_or_eq_true (isCode c) with hi | hi
  · exact h2 c (List.mem_filter.mpr ⟨hc, hi⟩)
  · simpa [hi] using h
set_option maxRecDepth 65536 in
theorem w_c0 : (Jvm.Cond.code x code maxLocals ret).before args0 about1 = true := code_word (m := ⟨1, 1⟩) (meth := k1m1) (c := k1c1) (by decide +kernel) rfl rfl rfl (by decide +kernel)
set_option maxRecDepth 65536 in
theorem w_c1 : (Jvm.Cond.code ({ cls := "com/example/rolling_ledger/rollingledger/model/IngestReport", name := "<init>", desc := "(JJJJ)V" } : Jvm.MethodName) prog_7_method_1_code (9 : Nat) (Option.none : Option Jvm.ClassFile.FieldType)).before args0 about1 = true := code_word (m := ⟨2, 0⟩) (meth := k2m0) (c := k2c0) (by decide +kernel) rfl rfl rfl (by decide +kernel)
set_option maxRecDepth 65536 in
theorem w_c2 : (Jvm.Cond.code ({ cls := "java/lang/Object", name := "<init>", desc := "()V" } : Jvm.MethodName) object_method_1_code (1 : Nat) (Option.none : Option Jvm.ClassFile.FieldType)).before args0 about1 = true := code_word (m := ⟨0, 0⟩) (meth := k0m0) (c := k0c0) (by decide +kernel) rfl rfl rfl (by decide +kernel)
set_option maxRecDepth 65536 in
theorem w_c3 : (Jvm.Cond.code ({ cls := "com/example/rolling_ledger/rollingledger/model/IngestReport", name := "plus", desc := "(Lcom/example/rolling_ledger/rollingledger/model/IngestReport;)Lcom/example/rolling_ledger/rollingledger/model/IngestReport;" } : Jvm.MethodName) prog_7_method_7_code (2 : Nat) (Option.some (Jvm.ClassFile.FieldType.object "com/example/rolling_ledger/rollingledger/model/IngestReport"))).before args0 about1 = true := code_word (m := ⟨2, 6⟩) (meth := k2m6) (c := k2c6) (by decide +kernel) rfl rfl rfl (by decide +kernel)
set_option maxRecDepth 65536 in
theorem w_c4 : (Jvm.Cond.code ({ cls := "com/example/rolling_ledger/rollingledger/model/IngestReport", name := "files", desc := "()J" } : Jvm.MethodName) prog_7_method_2_code (1 : Nat) (Option.some Jvm.ClassFile.FieldType.long)).before args0 about1 = true := code_word (m := ⟨2, 1⟩) (meth := k2m1) (c := k2c1) (by decide +kernel) rfl rfl rfl (by decide +kernel)
set_option maxRecDepth 65536 in
theorem w_c5 : (Jvm.Cond.code ({ cls := "com/example/rolling_ledger/rollingledger/model/IngestReport", name := "records", desc := "()J" } : Jvm.MethodName) prog_7_method_3_code (1 : Nat) (Option.some Jvm.ClassFile.FieldType.long)).before args0 about1 = true := code_word (m := ⟨2, 2⟩) (meth := k2m2) (c := k2c2) (by decide +kernel) rfl rfl rfl (by decide +kernel)
set_option maxRecDepth 65536 in
theorem w_c6 : (Jvm.Cond.code ({ cls := "com/example/rolling_ledger/rollingledger/model/IngestReport", name := "newCaptures", desc := "()J" } : Jvm.MethodName) prog_7_method_5_code (1 : Nat) (Option.some Jvm.ClassFile.FieldType.long)).before args0 about1 = true := code_word (m := ⟨2, 4⟩) (meth := k2m4) (c := k2c4) (by decide +kernel) rfl rfl rfl (by decide +kernel)
set_option maxRecDepth 65536 in
theorem w_c7 : (Jvm.Cond.code ({ cls := "com/example/rolling_ledger/rollingledger/model/IngestReport", name := "alreadyRecorded", desc := "()J" } : Jvm.MethodName) prog_7_method_6_code (1 : Nat) (Option.some Jvm.ClassFile.FieldType.long)).before args0 about1 = true := code_word (m := ⟨2, 5⟩) (meth := k2m5) (c := k2c5) (by decide +kernel) rfl rfl rfl (by decide +kernel)
set_option maxRecDepth 65536 in
theorem w_c8 : (Jvm.Cond.code ({ cls := "com/example/rolling_ledger/rollingledger/model/IngestReport", name := "captures", desc := "()J" } : Jvm.MethodName) prog_7_method_4_code (1 : Nat) (Option.some Jvm.ClassFile.FieldType.long)).before args0 about1 = true := code_word (m := ⟨2, 3⟩) (meth := k2m3) (c := k2c3) (by decide +kernel) rfl rfl rfl (by decide +kernel)
def codes1 : List Jvm.Cond := [Jvm.Cond.code x code maxLocals ret, Jvm.Cond.code ({ cls := "com/example/rolling_ledger/rollingledger/model/IngestReport", name := "<init>", desc := "(JJJJ)V" } : Jvm.MethodName) prog_7_method_1_code (9 : Nat) (Option.none : Option Jvm.ClassFile.FieldType), Jvm.Cond.code ({ cls := "java/lang/Object", name := "<init>", desc := "()V" } : Jvm.MethodName) object_method_1_code (1 : Nat) (Option.none : Option Jvm.ClassFile.FieldType), Jvm.Cond.code ({ cls := "com/example/rolling_ledger/rollingledger/model/IngestReport", name := "plus", desc := "(Lcom/example/rolling_ledger/rollingledger/model/IngestReport;)Lcom/example/rolling_ledger/rollingledger/model/IngestReport;" } : Jvm.MethodName) prog_7_method_7_code (2 : Nat) (Option.some (Jvm.ClassFile.FieldType.object "com/example/rolling_ledger/rollingledger/model/IngestReport")), Jvm.Cond.code ({ cls := "com/example/rolling_ledger/rollingledger/model/IngestReport", name := "files", desc := "()J" } : Jvm.MethodName) prog_7_method_2_code (1 : Nat) (Option.some Jvm.ClassFile.FieldType.long), Jvm.Cond.code ({ cls := "com/example/rolling_ledger/rollingledger/model/IngestReport", name := "records", desc := "()J" } : Jvm.MethodName) prog_7_method_3_code (1 : Nat) (Option.some Jvm.ClassFile.FieldType.long), Jvm.Cond.code ({ cls := "com/example/rolling_ledger/rollingledger/model/IngestReport", name := "newCaptures", desc := "()J" } : Jvm.MethodName) prog_7_method_5_code (1 : Nat) (Option.some Jvm.ClassFile.FieldType.long), Jvm.Cond.code ({ cls := "com/example/rolling_ledger/rollingledger/model/IngestReport", name := "alreadyRecorded", desc := "()J" } : Jvm.MethodName) prog_7_method_6_code (1 : Nat) (Option.some Jvm.ClassFile.FieldType.long), Jvm.Cond.code ({ cls := "com/example/rolling_ledger/rollingledger/model/IngestReport", name := "captures", desc := "()J" } : Jvm.MethodName) prog_7_method_4_code (1 : Nat) (Option.some Jvm.ClassFile.FieldType.long)]
set_option maxRecDepth 65536 in
theorem codes_eq : words1.filter isCode = codes1 := rfl
theorem w_codes : ∀ c ∈ words1.filter isCode, c.before args0 about1 = true := by
  rw [codes_eq]
  intro c hc
  simp only [codes1, List.mem_cons, List.not_mem_nil, or_false] at hc
  rcases hc with rfl | rfl | rfl | rfl | rfl | rfl | rfl | rfl | rfl
  · exact w_c0
  · exact w_c1
  · exact w_c2
  · exact w_c3
  · exact w_c4
  · exact w_c5
  · exact w_c6
  · exact w_c7
  · exact w_c8
set_option maxRecDepth 65536 in
theorem w_t1 : (words1.take 24).all (fun c => isCode c || c.before args0 about1) = true := by decide +kernel
set_option maxRecDepth 65536 in
theorem w_t2 : ((words1.drop 24).take 24).all (fun c => isCode c || c.before args0 about1) = true := by decide +kernel
set_option maxRecDepth 65536 in
theorem w_t3 : ((words1.drop 24).drop 24).all (fun c => isCode c || c.before args0 about1) = true := by decide +kernel
theorem w_tables : (allAtoms (Jvm.Cond.code x code maxLocals ret :: tables_1)).before args0 about1 = true := by
  rw [allAtoms_all]
  show words1.all (fun c => c.before args0 about1) = true
  refine all_split ?_ w_codes
  rw [← List.take_append_drop 24 words1, List.all_append, w_t1, ← List.take_append_drop 24 (words1.drop 24), List.all_append, w_t2, w_t3]
  rfl
set_option maxRecDepth 65536 in
theorem w_case : (Jvm.Cond.and given_1 narrow_1).before args0 about1 = true := by decide +kernel
theorem w_applies : (headSpec (Jvm.Cond.code x code maxLocals ret :: tables_1) room_1).applies x e0.platform about1 = true :=
  (Spec.applies_iff w_frames).mpr ⟨w_running, w_runnable, w_alone, w_named, w_hears, w_ripe, w_room, w_tables⟩
theorem atStart : AtStart classFile x code maxLocals ret World_1 tables_1 room_1 Calls_1 rest_1 Pre_1 launch0 p0 e0 about1 theMethod args0 below0 :=
  ⟨lists_1, trivial, launch0.admits_env _ _ _, launch0.least_env, fairChoices_fair.cas, fairChoices_fair.clock, w_frames, w_args, w_heap, w_applies, trivial, trivial, w_case⟩
end start1
theorem witness_1 : WitnessClaimed_1 := ⟨start1.p0, start1.e0, start1.about1, start1.theMethod, start1.args0, start1.below0, start1.atStart⟩
end Jvm.Pilot.@@N@@
