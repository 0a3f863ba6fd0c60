import JvmDerived
import JvmDerived.Pilot.@@N@@Statement
import JvmDerived.Pilot.@@N@@Code
set_option linter.unusedVariables false
set_option linter.unusedSimpArgs false
namespace Jvm.RoadKit
open Sem ClassFile Op Lib Jvm.Stand Jvm.Free Jvm.LawKit
section New
variable {p : Program} {l : Launch} {e : Env} {R : Room} {s : State} {m : MethodId} {args : Array Value} {below : List Frame} {meth : Method} {c : Code} {T : State} {locs : List Loc} {cells slots : Nat}
theorem retI (X : Stand p l e R s m args below meth c T locs cells slots) (hx : p.tables.exec = Jvm.exec) {pc : Nat} {Ls : Array Slot} {z : Int32} {rest : List Value} (hret : meth.sig.returnType = some .int) (hd : decode c.code pc = .ok (.ireturn, 1)) {fs : List Frame}
    (hl : ∀ (f : JFrame) (acts : List Action), f.method = m → f.locked = none → f.entered = [] → (doReturn e (T.setTop f) acts (some (.int z))).1 = T.setFrames fs) : Steps p.tables e below (T.setTop (mkF m pc Ls (.int z :: rest))) (T.setFrames fs) := by
  have hm' : T.vm.method? m = some meth := X.method'
  have hn : narrow .int (.int z) = .int z := rfl
  show Steps p.tables e below (T.setTop { method := m, pc := pc, locals := Ls, stack := _ :: rest, locked := none }) _
  jvm_step X.here [X.here.top, hx, hd, hm', hret, hn]
  first | (intro acts; rw [hl _ acts rfl rfl rfl]) | rw [hl _ _ rfl rfl rfl]
  exact Steps.refl _
end New
end Jvm.RoadKit
namespace Jvm.Pilot.@@N@@
open Jvm Jvm.ClassFile Sem Op Lib Jvm.Free Jvm.Stand Jvm.LawKit Jvm.RoadKit Bundle Jvm.Pilot.@@N@@.Jvm.D
def own_w (x y : Int32) : Int32 := if x = 0 then (if y = 0 then 1 else 0) else 0
theorem own_4 (x : Int32) : x &&& 3 = 0 ∨ x &&& 3 = 1 ∨ x &&& 3 = 2 ∨ x &&& 3 = 3 := by
  have e := c_mask x 3 2 (by decide) (by decide)
  simp only [← Int32.toInt_inj, show (0 : Int32).toInt = 0 from rfl, show (1 : Int32).toInt = 1 from rfl, show (2 : Int32).toInt = 2 from rfl, show (3 : Int32).toInt = 3 from rfl]
  omega
theorem own_byte (x : Int32) : x.toInt8.toInt32 = 0 ↔ (x &&& 255).toInt = 0 := by
  have e := c_mask x 255 8 (by decide) (by decide)
  have f := c_i2b x
  rw [← Int32.toInt_inj, show (0 : Int32).toInt = 0 from rfl]
  omega
theorem own_or (x y : Int32) : (((x &&& (255 : Int32)) <<< ((8 : Int32) &&& 31)) ||| (y &&& (255 : Int32))) = 0 ↔ (x &&& 255).toInt = 0 ∧ (y &&& 255).toInt = 0 := by
  have e1 := c_mask x 255 8 (by decide) (by decide)
  have e2 := c_mask y 255 8 (by decide) (by decide)
  have e3 := c_ishl (x &&& 255) 8 8 (by decide)
  have r3 := rng32 ((x &&& 255) <<< ((8 : Int32) &&& 31))
  have e4 := c_or ((x &&& 255) <<< ((8 : Int32) &&& 31)) (y &&& 255) 8 (by decide) 256 (by decide) (by omega) (by omega) (by omega)
  have r4 := rng32 (((x &&& (255 : Int32)) <<< ((8 : Int32) &&& 31)) ||| (y &&& (255 : Int32)))
  rw [← Int32.toInt_inj, show (0 : Int32).toInt = 0 from rfl]
  omega
theorem own_y {x y : Int32} (h : (((x &&& (255 : Int32)) <<< ((8 : Int32) &&& 31)) ||| (y &&& (255 : Int32))) = 0) : own_w x.toInt8.toInt32 y.toInt8.toInt32 = 1 := by
  obtain ⟨h1, h2⟩ := (own_or x y).mp h
  simp [own_w, (own_byte x).mpr h1, (own_byte y).mpr h2]
theorem own_n {x y : Int32} (h : ¬ (((x &&& (255 : Int32)) <<< ((8 : Int32) &&& 31)) ||| (y &&& (255 : Int32))) = 0) : own_w x.toInt8.toInt32 y.toInt8.toInt32 = 0 := by
  unfold own_w
  split
  · split
    · exact absurd ((own_or x y).mpr ⟨(own_byte x).mp ‹_›, (own_byte y).mp ‹_›⟩) h
    · rfl
  · rfl
theorem own_len (x : Int32) : ¬ ((2 : Int32) + (x &&& 7)) < 0 ∧ ((2 : Int32) + (x &&& 7)).toNatClampNeg ≤ 9 ∧ ¬ ((2 : Int32) + (x &&& 7)) < 2 := by
  have e := c_mask x 7 3 (by decide) (by decide)
  have f := c_iadd 2 (x &&& 7)
  have r := rng32 ((2 : Int32) + (x &&& 7))
  simp only [show (2 : Int32).toInt = 2 from rfl] at f
  refine ⟨?_, ?_, ?_⟩
  · rw [Int32.lt_iff_toInt_lt, show (0 : Int32).toInt = 0 from rfl]; omega
  · simp only [Int32.toNatClampNeg]; omega
  · rw [Int32.lt_iff_toInt_lt, show (2 : Int32).toInt = 2 from rfl]; omega
theorem own_in {n : Int32} (h : ¬ n < 2) : (0 : Int32) < n ∧ (1 : Int32) < n := by
  rw [Int32.lt_iff_toInt_lt, show (2 : Int32).toInt = 2 from rfl] at h
  rw [Int32.lt_iff_toInt_lt, Int32.lt_iff_toInt_lt, show (0 : Int32).toInt = 0 from rfl, show (1 : Int32).toInt = 1 from rfl]; omega
theorem d1_0 : decode prog_143_method_11_code 0 = .ok (.iconst 2, 1) := by decide +kernel
theorem d1_1 : decode prog_143_method_11_code 1 = .ok (.iload_n 0, 1) := by decide +kernel
theorem d1_2 : decode prog_143_method_11_code 2 = .ok (.iadd, 1) := by decide +kernel
theorem d1_3 : decode prog_143_method_11_code 3 = .ok (.newarray .byte, 2) := by decide +kernel
theorem d1_5 : decode prog_143_method_11_code 5 = .ok (.areturn, 1) := by decide +kernel
theorem pn_com_example_hashmesh_hashmesh_wire_Packet : plainName "com/example/hashmesh/hashmesh/wire/Packet" = true := by first | (simp [plainName, overriddenIn]; done) | decide +kernel
theorem ef_1 (m : MethodId) (x0 : Int32) : entryFrame m #[(.int x0)] 1 = mkF m 0 #[.val (.int x0)] [] := by first | (simp [entryFrame, mkF, argsToLocals, Value.category]; done) | rfl
def Q1 (Z : State) (i : Int32) (h0 : Heap) (n0 : Nat) (v : Option Value) (h : Heap) (L : List Loc) : Prop := ∃ z : Addr, ∃ kz : ClassId, v = some (.ref z) ∧ Fr n0 L ∧ Keep h0 h [] ∧ Arv Z h z kz .byte ((2 : Int32) + i) [] (.int (0 : Int32)) ∧ h0.size ≤ z ∧ n0 ≤ z
set_option maxRecDepth 65536 in
set_option maxHeartbeats 40000000 in
theorem rm1 (l : Launch) (Z : State) (a0 : Array Value) (hw : ∀ d ∈ tables_1, d.before a0 Z = true) (ws : List Jvm.Cond) (i : Int32) (h0 : Heap) (n0 : Nat) (O0 : Old Z n0 h0) (hn : ¬ ((2 : Int32) + i) < 0) (hl : ((2 : Int32) + i).toNatClampNeg ≤ 9) :
    MetFree l (⟨"com/example/hashmesh/hashmesh/wire/Packet", "encodeWithoutJson", "(I)[B"⟩ : MethodName) (head1 (Jvm.Cond.code (⟨"com/example/hashmesh/hashmesh/wire/Packet", "encodeWithoutJson", "(I)[B"⟩ : MethodName) prog_143_method_11_code 1 (some (.array .byte)) :: ws) ({ frames := 0, cells := 1, slots := 9, locals := 0 } : Room)) (fun aA uU => aA = #[(.int i)] ∧ Z.Warmed39 uU.vm ∧ uU.heap = h0) (fun _ _ _ _ _ => True) (fun _ uU oO uU' => ∃ vV lL, oO = .returned vV ∧ Q1 Z i  h0 n0 vV uU'.heap lL ∧ FrameEnd uU oO uU' lL ({ frames := 0, cells := 1, slots := 9, locals := 0 } : Room).cells ({ frames := 0, cells := 1, slots := 9, locals := 0 } : Room).slots) := by
  refine MetFree.of_bodySF (plainFor_of_name pn_com_example_hashmesh_hashmesh_wire_Packet) hisR ?_
  intro p e s m args below meth c s₁ Bd hml0 hP hK
  obtain ⟨rfl, hZ, hh⟩ := hP
  have hx := Bd.exec
  have hby := Bd.bytes
  have hml : c.maxLocals = 1 := hml0
  have hown : s.vm.findClass "com/example/hashmesh/hashmesh/wire/Packet" = some m.cls := findClass_of_methodNamed Bd.named
  have hnm := (name_of_methodNamed Bd.named Bd.method).1
  have X0 : Stand p l e ({ frames := 0, cells := 1, slots := 9, locals := 0 } : Room) s m #[(.int i)] below meth c s₁ [] 0 0 := Stand.of_body Bd
  have e0 : s₁.heap = h0 := by rw [← hh, Bd.state]; rfl
  have N0 := Fr.nil n0
  have O := O0
  have K := Keep.refl h0 []
  have pre0 : ∀ t, Steps p.tables e below (s₁.setTop (mkF m 0 #[.val (.int i)] [])) t → Steps p.tables e below (s₁.setTop (entryFrame m #[(.int i)] 1)) t := fun t k => castTop (ef_1 m i) k
  obtain ⟨T1, h1, k1, X1, e1, E1, A1, st1⟩ := newP X0 hx hZ (hw _ (List.mem_of_getElem? (i := 0) rfl)) e0 (g := (mkF m 3 #[.val (.int i)] [(.int ((2 : Int32) + i))])) rfl (hb hby d1_3) rfl hn (cap := 9) hl (by decide) (by decide) (by decide)
  obtain ⟨b1, gq1⟩ : ∃ z, z = Array.size h0 := ⟨_, rfl⟩
  rw [← gq1] at A1 st1
  have g_b1 : n0 ≤ b1 := Nat.le_trans (O.1 ▸ O.2.1) (Nat.le_of_eq gq1.symm)
  have z_b1 : h0.size ≤ b1 := Nat.le_trans K.1 (Nat.le_of_eq gq1.symm)
  have O := O.ext E1
  have K := K.ext E1
  have V_b1 : Arv Z h1 b1 k1 .byte ((2 : Int32) + i) [] (.int (0 : Int32)) := (Arv.new A1 hn)
  have w2 : ∀ t, Steps p.tables e below (T1.setTop (mkF m 5 #[.val (.int i)] [(.ref b1)])) t → Steps p.tables e below (s₁.setTop (entryFrame m #[(.int i)] 1)) t := fun t k => by
    refine pre0 t ?_
    refine XS.iconst X0.here hx rfl (hb hby d1_0) ?_
    show Steps p.tables e below (s₁.setTop (mkF m 1 #[.val (.int i)] [(.int (2 : Int32))])) _
    refine XS.iloadN X0.here hx rfl (hb hby d1_1) rfl ?_
    show Steps p.tables e below (s₁.setTop (mkF m 2 #[.val (.int i)] [(.int i), (.int (2 : Int32))])) _
    refine XS.iadd X0.here hx rfl (hb hby d1_2) rfl ?_
    show Steps p.tables e below (s₁.setTop (mkF m 3 #[.val (.int i)] [(.int ((2 : Int32) + i))])) _
    refine st1 _ ?_
    show Steps p.tables e below (T1.setTop (mkF m 5 #[.val (.int i)] [(.ref b1)])) _
    exact k
  obtain ⟨fs, hr, hrun, hended, hW, hsame⟩ := X1.leave (v := some (.ref b1)) (fun h => by rw [Bd.returns] at h; cases h)
  refine ⟨_, _, w2 _ ?_, hrun, hended, _, _, rfl, ?_, ⟨_, rfl⟩, hW, hsame.mono (by decide) (by decide)⟩
  · jvm_step X1.here [X1.here.top, hx, (hb hby d1_5), X1.method', Bd.returns, Value.isRef, FieldType.isReference]
    first | (intro acts; rw [hr _ acts rfl rfl rfl]) | rw [hr _ _ rfl rfl rfl]
    exact Steps.refl _
  · show Q1 Z i  h0 n0 _ T1.heap _
    rw [e1]
    exact ⟨b1, k1, rfl, N0, K, V_b1, z_b1, g_b1⟩
theorem d2_0 : decode prog_143_method_12_code 0 = .ok (.aload_n 0, 1) := by decide +kernel
theorem d2_1 : decode prog_143_method_12_code 1 = .ok (.arraylength, 1) := by decide +kernel
theorem d2_2 : decode prog_143_method_12_code 2 = .ok (.iconst 2, 1) := by decide +kernel
theorem d2_3 : decode prog_143_method_12_code 3 = .ok (.if_icmp .lt 19, 3) := by decide +kernel
theorem d2_6 : decode prog_143_method_12_code 6 = .ok (.aload_n 0, 1) := by decide +kernel
theorem d2_7 : decode prog_143_method_12_code 7 = .ok (.iconst 0, 1) := by decide +kernel
theorem d2_8 : decode prog_143_method_12_code 8 = .ok (.baload, 1) := by decide +kernel
theorem d2_9 : decode prog_143_method_12_code 9 = .ok (.ifCond .ne 13, 3) := by decide +kernel
theorem d2_12 : decode prog_143_method_12_code 12 = .ok (.aload_n 0, 1) := by decide +kernel
theorem d2_13 : decode prog_143_method_12_code 13 = .ok (.iconst 1, 1) := by decide +kernel
theorem d2_14 : decode prog_143_method_12_code 14 = .ok (.baload, 1) := by decide +kernel
theorem d2_15 : decode prog_143_method_12_code 15 = .ok (.ifCond .ne 7, 3) := by decide +kernel
theorem d2_18 : decode prog_143_method_12_code 18 = .ok (.iconst 1, 1) := by decide +kernel
theorem d2_19 : decode prog_143_method_12_code 19 = .ok (.goto 4, 3) := by decide +kernel
theorem d2_23 : decode prog_143_method_12_code 23 = .ok (.ireturn, 1) := by decide +kernel
theorem ef_2_f (m : MethodId) (x0 : Addr) : entryFrame m #[(.ref x0)] 1 = mkF m 0 #[.val (.ref x0)] [] := by first | (simp [entryFrame, mkF, argsToLocals, Value.category]; done) | rfl
def Q2_f (Z : State) (a : Addr) (kz : ClassId) (n : Int32) (h0 : Heap) (n0 : Nat) (v : Option Value) (h : Heap) (L : List Loc) : Prop := v = some (.int (1 : Int32)) ∧ Fr n0 L ∧ h = h0
set_option maxRecDepth 65536 in
set_option maxHeartbeats 40000000 in
theorem rm2_f (l : Launch) (Z : State) (a0 : Array Value) (hw : ∀ d ∈ tables_1, d.before a0 Z = true) (ws : List Jvm.Cond) (a : Addr) (kz : ClassId) (n : Int32) (h0 : Heap) (n0 : Nat) (O0 : Old Z n0 h0) (V_a : Arv Z h0 a kz .byte n [] (.int (0 : Int32))) (h2 : ¬ n < (2 : Int32)) :
    MetFree l (⟨"com/example/hashmesh/hashmesh/wire/Packet", "isWithoutJson", "([B)Z"⟩ : MethodName) (head1 (Jvm.Cond.code (⟨"com/example/hashmesh/hashmesh/wire/Packet", "isWithoutJson", "([B)Z"⟩ : MethodName) prog_143_method_12_code 1 (some .boolean) :: ws) ({ frames := 0, cells := 0, slots := 0, locals := 0 } : Room)) (fun aA uU => aA = #[(.ref a)] ∧ Z.Warmed39 uU.vm ∧ uU.heap = h0) (fun _ _ _ _ _ => True) (fun _ uU oO uU' => ∃ vV lL, oO = .returned vV ∧ Q2_f Z a kz n  h0 n0 vV uU'.heap lL ∧ FrameEnd uU oO uU' lL ({ frames := 0, cells := 0, slots := 0, locals := 0 } : Room).cells ({ frames := 0, cells := 0, slots := 0, locals := 0 } : Room).slots) := by
  refine MetFree.of_bodySF (plainFor_of_name pn_com_example_hashmesh_hashmesh_wire_Packet) hisR ?_
  intro p e s m args below meth c s₁ Bd hml0 hP hK
  obtain ⟨rfl, hZ, hh⟩ := hP
  have hx := Bd.exec
  have hby := Bd.bytes
  have hml : c.maxLocals = 1 := hml0
  have hown : s.vm.findClass "com/example/hashmesh/hashmesh/wire/Packet" = some m.cls := findClass_of_methodNamed Bd.named
  have hnm := (name_of_methodNamed Bd.named Bd.method).1
  have X0 : Stand p l e ({ frames := 0, cells := 0, slots := 0, locals := 0 } : Room) s m #[(.ref a)] below meth c s₁ [] 0 0 := Stand.of_body Bd
  have e0 : s₁.heap = h0 := by rw [← hh, Bd.state]; rfl
  have N0 := Fr.nil n0
  have O := O0
  have pre0 : ∀ t, Steps p.tables e below (s₁.setTop (mkF m 0 #[.val (.ref a)] [])) t → Steps p.tables e below (s₁.setTop (entryFrame m #[(.ref a)] 1)) t := fun t k => castTop (ef_2_f m a) k
  obtain ⟨cl1, Ar1, -, Z1, N1, -, -⟩ := id V_a
  obtain ⟨cl2, Ar2, q2, Z2, N2, H2, G2⟩ := id V_a
  have hin2 : ¬ ((0 : Int32) < 0 ∨ cl2.slots.size ≤ ((0 : Int32)).toNatClampNeg) := inb_of Z2 ⟨by decide, (own_in h2).1⟩
  have hat2 : cl2.slots[((0 : Int32)).toNatClampNeg]? = some (.int (0 : Int32)) := H2.at hin2 rfl
  obtain ⟨cl3, Ar3, q3, Z3, N3, H3, G3⟩ := id V_a
  have hin3 : ¬ ((1 : Int32) < 0 ∨ cl3.slots.size ≤ ((1 : Int32)).toNatClampNeg) := inb_of Z3 ⟨by decide, (own_in h2).2⟩
  have hat3 : cl3.slots[((1 : Int32)).toNatClampNeg]? = some (.int (0 : Int32)) := H3.at hin3 rfl
  have w4 : ∀ t, Steps p.tables e below (s₁.setTop (mkF m 23 #[.val (.ref a)] [(.int (1 : Int32))])) t → Steps p.tables e below (s₁.setTop (entryFrame m #[(.ref a)] 1)) t := fun t k => by
    refine pre0 t ?_
    refine XS.aloadN X0.here hx rfl (hb hby d2_0) rfl rfl ?_
    show Steps p.tables e below (s₁.setTop (mkF m 1 #[.val (.ref a)] [(.ref a)])) _
    refine X0.arraylength hx (by rw [e0]; exact Ar1.1) (State.isArrayOf_alike hZ.alike Ar1.2.1) (g := (mkF m 1 #[.val (.ref a)] [(.ref a)])) rfl rfl (hb hby d2_1) _ ?_
    rw [len_of Z1 N1]
    show Steps p.tables e below (s₁.setTop (mkF m 2 #[.val (.ref a)] [(.int n)])) _
    refine XS.iconst X0.here hx rfl (hb hby d2_2) ?_
    show Steps p.tables e below (s₁.setTop (mkF m 3 #[.val (.ref a)] [(.int (2 : Int32)), (.int n)])) _
    refine XS.icmpNo X0.here hx rfl (hb hby d2_3) rfl (flt (h2 : ¬ (n < (2 : Int32)))).1 ?_
    show Steps p.tables e below (s₁.setTop (mkF m 6 #[.val (.ref a)] [])) _
    refine XS.aloadN X0.here hx rfl (hb hby d2_6) rfl rfl ?_
    show Steps p.tables e below (s₁.setTop (mkF m 7 #[.val (.ref a)] [(.ref a)])) _
    refine XS.iconst X0.here hx rfl (hb hby d2_7) ?_
    show Steps p.tables e below (s₁.setTop (mkF m 8 #[.val (.ref a)] [(.int (0 : Int32)), (.ref a)])) _
    refine X0.baloadBytes hx (j := (0 : Int32)) (v := (.int (0 : Int32))) (by rw [e0]; exact Ar2.1) (State.isArrayOf_alike hZ.alike Ar2.2.1) Ar2.2.2 hin2 hat2 (g := (mkF m 8 #[.val (.ref a)] [(.int (0 : Int32)), (.ref a)])) rfl rfl (hb hby d2_8) _ ?_
    show Steps p.tables e below (s₁.setTop (mkF m 9 #[.val (.ref a)] [(.int (0 : Int32))])) _
    refine XS.ifNo X0.here hx rfl (hb hby d2_9) rfl ((if0 _ _).trans (teq (rfl : (0 : Int32) = (0 : Int32))).2) ?_
    show Steps p.tables e below (s₁.setTop (mkF m 12 #[.val (.ref a)] [])) _
    refine XS.aloadN X0.here hx rfl (hb hby d2_12) rfl rfl ?_
    show Steps p.tables e below (s₁.setTop (mkF m 13 #[.val (.ref a)] [(.ref a)])) _
    refine XS.iconst X0.here hx rfl (hb hby d2_13) ?_
    show Steps p.tables e below (s₁.setTop (mkF m 14 #[.val (.ref a)] [(.int (1 : Int32)), (.ref a)])) _
    refine X0.baloadBytes hx (j := (1 : Int32)) (v := (.int (0 : Int32))) (by rw [e0]; exact Ar3.1) (State.isArrayOf_alike hZ.alike Ar3.2.1) Ar3.2.2 hin3 hat3 (g := (mkF m 14 #[.val (.ref a)] [(.int (1 : Int32)), (.ref a)])) rfl rfl (hb hby d2_14) _ ?_
    show Steps p.tables e below (s₁.setTop (mkF m 15 #[.val (.ref a)] [(.int (0 : Int32))])) _
    refine XS.ifNo X0.here hx rfl (hb hby d2_15) rfl ((if0 _ _).trans (teq (rfl : (0 : Int32) = (0 : Int32))).2) ?_
    show Steps p.tables e below (s₁.setTop (mkF m 18 #[.val (.ref a)] [])) _
    refine XS.iconst X0.here hx rfl (hb hby d2_18) ?_
    show Steps p.tables e below (s₁.setTop (mkF m 19 #[.val (.ref a)] [(.int (1 : Int32))])) _
    refine XS.goto X0.here hx rfl (pc0 := 19) (pc' := 23) rfl (hb hby d2_19) (by decide) (by decide) ?_
    show Steps p.tables e below (s₁.setTop (mkF m 23 #[.val (.ref a)] [(.int (1 : Int32))])) _
    exact k
  obtain ⟨fs, hr, hrun, hended, hW, hsame⟩ := X0.leave (v := some (.int (1 : Int32))) (fun h => by rw [Bd.returns] at h; cases h)
  refine ⟨_, _, w4 _ ?_, hrun, hended, _, _, rfl, ?_, ⟨_, rfl⟩, hW, hsame.mono (by decide) (by decide)⟩
  · exact retN X0 hx (t := .boolean) Bd.returns (by simp) (hb hby d2_23) hr
  · show Q2_f Z a kz n  h0 n0 _ s₁.heap _
    rw [e0]
    exact ⟨rfl, N0, rfl⟩
theorem d2_22 : decode prog_143_method_12_code 22 = .ok (.iconst 0, 1) := by decide +kernel
theorem ef_2_0 (m : MethodId) (x0 : Addr) : entryFrame m #[(.ref x0)] 1 = mkF m 0 #[.val (.ref x0)] [] := by first | (simp [entryFrame, mkF, argsToLocals, Value.category]; done) | rfl
def Q2_0 (Z : State) (a : Addr) (kz : ClassId) (h0 : Heap) (n0 : Nat) (v : Option Value) (h : Heap) (L : List Loc) : Prop := v = some (.int (0 : Int32)) ∧ Fr n0 L ∧ h = h0
set_option maxRecDepth 65536 in
set_option maxHeartbeats 40000000 in
theorem rm2_0 (l : Launch) (Z : State) (a0 : Array Value) (hw : ∀ d ∈ tables_1, d.before a0 Z = true) (ws : List Jvm.Cond) (a : Addr) (kz : ClassId) (h0 : Heap) (n0 : Nat) (O0 : Old Z n0 h0) (V_a : Arv Z h0 a kz .byte (0 : Int32) [] (.int (0 : Int32))) :
    MetFree l (⟨"com/example/hashmesh/hashmesh/wire/Packet", "isWithoutJson", "([B)Z"⟩ : MethodName) (head1 (Jvm.Cond.code (⟨"com/example/hashmesh/hashmesh/wire/Packet", "isWithoutJson", "([B)Z"⟩ : MethodName) prog_143_method_12_code 1 (some .boolean) :: ws) ({ frames := 0, cells := 0, slots := 0, locals := 0 } : Room)) (fun aA uU => aA = #[(.ref a)] ∧ Z.Warmed39 uU.vm ∧ uU.heap = h0) (fun _ _ _ _ _ => True) (fun _ uU oO uU' => ∃ vV lL, oO = .returned vV ∧ Q2_0 Z a kz  h0 n0 vV uU'.heap lL ∧ FrameEnd uU oO uU' lL ({ frames := 0, cells := 0, slots := 0, locals := 0 } : Room).cells ({ frames := 0, cells := 0, slots := 0, locals := 0 } : Room).slots) := by
  refine MetFree.of_bodySF (plainFor_of_name pn_com_example_hashmesh_hashmesh_wire_Packet) hisR ?_
  intro p e s m args below meth c s₁ Bd hml0 hP hK
  obtain ⟨rfl, hZ, hh⟩ := hP
  have hx := Bd.exec
  have hby := Bd.bytes
  have hml : c.maxLocals = 1 := hml0
  have hown : s.vm.findClass "com/example/hashmesh/hashmesh/wire/Packet" = some m.cls := findClass_of_methodNamed Bd.named
  have hnm := (name_of_methodNamed Bd.named Bd.method).1
  have X0 : Stand p l e ({ frames := 0, cells := 0, slots := 0, locals := 0 } : Room) s m #[(.ref a)] below meth c s₁ [] 0 0 := Stand.of_body Bd
  have e0 : s₁.heap = h0 := by rw [← hh, Bd.state]; rfl
  have N0 := Fr.nil n0
  have O := O0
  have pre0 : ∀ t, Steps p.tables e below (s₁.setTop (mkF m 0 #[.val (.ref a)] [])) t → Steps p.tables e below (s₁.setTop (entryFrame m #[(.ref a)] 1)) t := fun t k => castTop (ef_2_0 m a) k
  obtain ⟨cl1, Ar1, -, Z1, N1, -, -⟩ := id V_a
  have w2 : ∀ t, Steps p.tables e below (s₁.setTop (mkF m 23 #[.val (.ref a)] [(.int (0 : Int32))])) t → Steps p.tables e below (s₁.setTop (entryFrame m #[(.ref a)] 1)) t := fun t k => by
    refine pre0 t ?_
    refine XS.aloadN X0.here hx rfl (hb hby d2_0) rfl rfl ?_
    show Steps p.tables e below (s₁.setTop (mkF m 1 #[.val (.ref a)] [(.ref a)])) _
    refine X0.arraylength hx (by rw [e0]; exact Ar1.1) (State.isArrayOf_alike hZ.alike Ar1.2.1) (g := (mkF m 1 #[.val (.ref a)] [(.ref a)])) rfl rfl (hb hby d2_1) _ ?_
    rw [len_of Z1 N1]
    show Steps p.tables e below (s₁.setTop (mkF m 2 #[.val (.ref a)] [(.int (0 : Int32))])) _
    refine XS.iconst X0.here hx rfl (hb hby d2_2) ?_
    show Steps p.tables e below (s₁.setTop (mkF m 3 #[.val (.ref a)] [(.int (2 : Int32)), (.int (0 : Int32))])) _
    refine XS.icmpYes X0.here hx rfl (pc0 := 3) (pc' := 22) rfl (hb hby d2_3) rfl (tlt ((by decide) : (0 : Int32) < (2 : Int32))).1 (by decide) (by decide) ?_
    show Steps p.tables e below (s₁.setTop (mkF m 22 #[.val (.ref a)] [])) _
    refine XS.iconst X0.here hx rfl (hb hby d2_22) ?_
    show Steps p.tables e below (s₁.setTop (mkF m 23 #[.val (.ref a)] [(.int (0 : Int32))])) _
    exact k
  obtain ⟨fs, hr, hrun, hended, hW, hsame⟩ := X0.leave (v := some (.int (0 : Int32))) (fun h => by rw [Bd.returns] at h; cases h)
  refine ⟨_, _, w2 _ ?_, hrun, hended, _, _, rfl, ?_, ⟨_, rfl⟩, hW, hsame.mono (by decide) (by decide)⟩
  · exact retN X0 hx (t := .boolean) Bd.returns (by simp) (hb hby d2_23) hr
  · show Q2_0 Z a kz  h0 n0 _ s₁.heap _
    rw [e0]
    exact ⟨rfl, N0, rfl⟩
theorem ef_2_1 (m : MethodId) (x0 : Addr) : entryFrame m #[(.ref x0)] 1 = mkF m 0 #[.val (.ref x0)] [] := by first | (simp [entryFrame, mkF, argsToLocals, Value.category]; done) | rfl
def Q2_1 (Z : State) (a : Addr) (kz : ClassId) (x0 : Int32) (h0 : Heap) (n0 : Nat) (v : Option Value) (h : Heap) (L : List Loc) : Prop := v = some (.int (0 : Int32)) ∧ Fr n0 L ∧ h = h0
set_option maxRecDepth 65536 in
set_option maxHeartbeats 40000000 in
theorem rm2_1 (l : Launch) (Z : State) (a0 : Array Value) (hw : ∀ d ∈ tables_1, d.before a0 Z = true) (ws : List Jvm.Cond) (a : Addr) (kz : ClassId) (x0 : Int32) (h0 : Heap) (n0 : Nat) (O0 : Old Z n0 h0) (V_a : Arv Z h0 a kz .byte (1 : Int32) [(.int x0)] (.int (0 : Int32))) :
    MetFree l (⟨"com/example/hashmesh/hashmesh/wire/Packet", "isWithoutJson", "([B)Z"⟩ : MethodName) (head1 (Jvm.Cond.code (⟨"com/example/hashmesh/hashmesh/wire/Packet", "isWithoutJson", "([B)Z"⟩ : MethodName) prog_143_method_12_code 1 (some .boolean) :: ws) ({ frames := 0, cells := 0, slots := 0, locals := 0 } : Room)) (fun aA uU => aA = #[(.ref a)] ∧ Z.Warmed39 uU.vm ∧ uU.heap = h0) (fun _ _ _ _ _ => True) (fun _ uU oO uU' => ∃ vV lL, oO = .returned vV ∧ Q2_1 Z a kz x0  h0 n0 vV uU'.heap lL ∧ FrameEnd uU oO uU' lL ({ frames := 0, cells := 0, slots := 0, locals := 0 } : Room).cells ({ frames := 0, cells := 0, slots := 0, locals := 0 } : Room).slots) := by
  refine MetFree.of_bodySF (plainFor_of_name pn_com_example_hashmesh_hashmesh_wire_Packet) hisR ?_
  intro p e s m args below meth c s₁ Bd hml0 hP hK
  obtain ⟨rfl, hZ, hh⟩ := hP
  have hx := Bd.exec
  have hby := Bd.bytes
  have hml : c.maxLocals = 1 := hml0
  have hown : s.vm.findClass "com/example/hashmesh/hashmesh/wire/Packet" = some m.cls := findClass_of_methodNamed Bd.named
  have hnm := (name_of_methodNamed Bd.named Bd.method).1
  have X0 : Stand p l e ({ frames := 0, cells := 0, slots := 0, locals := 0 } : Room) s m #[(.ref a)] below meth c s₁ [] 0 0 := Stand.of_body Bd
  have e0 : s₁.heap = h0 := by rw [← hh, Bd.state]; rfl
  have N0 := Fr.nil n0
  have O := O0
  have pre0 : ∀ t, Steps p.tables e below (s₁.setTop (mkF m 0 #[.val (.ref a)] [])) t → Steps p.tables e below (s₁.setTop (entryFrame m #[(.ref a)] 1)) t := fun t k => castTop (ef_2_1 m a) k
  obtain ⟨cl1, Ar1, -, Z1, N1, -, -⟩ := id V_a
  have w2 : ∀ t, Steps p.tables e below (s₁.setTop (mkF m 23 #[.val (.ref a)] [(.int (0 : Int32))])) t → Steps p.tables e below (s₁.setTop (entryFrame m #[(.ref a)] 1)) t := fun t k => by
    refine pre0 t ?_
    refine XS.aloadN X0.here hx rfl (hb hby d2_0) rfl rfl ?_
    show Steps p.tables e below (s₁.setTop (mkF m 1 #[.val (.ref a)] [(.ref a)])) _
    refine X0.arraylength hx (by rw [e0]; exact Ar1.1) (State.isArrayOf_alike hZ.alike Ar1.2.1) (g := (mkF m 1 #[.val (.ref a)] [(.ref a)])) rfl rfl (hb hby d2_1) _ ?_
    rw [len_of Z1 N1]
    show Steps p.tables e below (s₁.setTop (mkF m 2 #[.val (.ref a)] [(.int (1 : Int32))])) _
    refine XS.iconst X0.here hx rfl (hb hby d2_2) ?_
    show Steps p.tables e below (s₁.setTop (mkF m 3 #[.val (.ref a)] [(.int (2 : Int32)), (.int (1 : Int32))])) _
    refine XS.icmpYes X0.here hx rfl (pc0 := 3) (pc' := 22) rfl (hb hby d2_3) rfl (tlt ((by decide) : (1 : Int32) < (2 : Int32))).1 (by decide) (by decide) ?_
    show Steps p.tables e below (s₁.setTop (mkF m 22 #[.val (.ref a)] [])) _
    refine XS.iconst X0.here hx rfl (hb hby d2_22) ?_
    show Steps p.tables e below (s₁.setTop (mkF m 23 #[.val (.ref a)] [(.int (0 : Int32))])) _
    exact k
  obtain ⟨fs, hr, hrun, hended, hW, hsame⟩ := X0.leave (v := some (.int (0 : Int32))) (fun h => by rw [Bd.returns] at h; cases h)
  refine ⟨_, _, w2 _ ?_, hrun, hended, _, _, rfl, ?_, ⟨_, rfl⟩, hW, hsame.mono (by decide) (by decide)⟩
  · exact retN X0 hx (t := .boolean) Bd.returns (by simp) (hb hby d2_23) hr
  · show Q2_1 Z a kz x0  h0 n0 _ s₁.heap _
    rw [e0]
    exact ⟨rfl, N0, rfl⟩
theorem ef_2_2 (m : MethodId) (x0 : Addr) : entryFrame m #[(.ref x0)] 1 = mkF m 0 #[.val (.ref x0)] [] := by first | (simp [entryFrame, mkF, argsToLocals, Value.category]; done) | rfl
def Q2_2 (Z : State) (a : Addr) (kz : ClassId) (x0 : Int32) (x1 : Int32) (h0 : Heap) (n0 : Nat) (v : Option Value) (h : Heap) (L : List Loc) : Prop := v = some (.int (own_w x0 x1)) ∧ Fr n0 L ∧ h = h0
set_option maxRecDepth 65536 in
set_option maxHeartbeats 40000000 in
theorem rm2_2 (l : Launch) (Z : State) (a0 : Array Value) (hw : ∀ d ∈ tables_1, d.before a0 Z = true) (ws : List Jvm.Cond) (a : Addr) (kz : ClassId) (x0 : Int32) (x1 : Int32) (h0 : Heap) (n0 : Nat) (O0 : Old Z n0 h0) (V_a : Arv Z h0 a kz .byte (2 : Int32) [(.int x0), (.int x1)] (.int (0 : Int32))) :
    MetFree l (⟨"com/example/hashmesh/hashmesh/wire/Packet", "isWithoutJson", "([B)Z"⟩ : MethodName) (head1 (Jvm.Cond.code (⟨"com/example/hashmesh/hashmesh/wire/Packet", "isWithoutJson", "([B)Z"⟩ : MethodName) prog_143_method_12_code 1 (some .boolean) :: ws) ({ frames := 0, cells := 0, slots := 0, locals := 0 } : Room)) (fun aA uU => aA = #[(.ref a)] ∧ Z.Warmed39 uU.vm ∧ uU.heap = h0) (fun _ _ _ _ _ => True) (fun _ uU oO uU' => ∃ vV lL, oO = .returned vV ∧ Q2_2 Z a kz x0 x1  h0 n0 vV uU'.heap lL ∧ FrameEnd uU oO uU' lL ({ frames := 0, cells := 0, slots := 0, locals := 0 } : Room).cells ({ frames := 0, cells := 0, slots := 0, locals := 0 } : Room).slots) := by
  refine MetFree.of_bodySF (plainFor_of_name pn_com_example_hashmesh_hashmesh_wire_Packet) hisR ?_
  intro p e s m args below meth c s₁ Bd hml0 hP hK
  obtain ⟨rfl, hZ, hh⟩ := hP
  have hx := Bd.exec
  have hby := Bd.bytes
  have hml : c.maxLocals = 1 := hml0
  have hown : s.vm.findClass "com/example/hashmesh/hashmesh/wire/Packet" = some m.cls := findClass_of_methodNamed Bd.named
  have hnm := (name_of_methodNamed Bd.named Bd.method).1
  have X0 : Stand p l e ({ frames := 0, cells := 0, slots := 0, locals := 0 } : Room) s m #[(.ref a)] below meth c s₁ [] 0 0 := Stand.of_body Bd
  have e0 : s₁.heap = h0 := by rw [← hh, Bd.state]; rfl
  have N0 := Fr.nil n0
  have O := O0
  have pre0 : ∀ t, Steps p.tables e below (s₁.setTop (mkF m 0 #[.val (.ref a)] [])) t → Steps p.tables e below (s₁.setTop (entryFrame m #[(.ref a)] 1)) t := fun t k => castTop (ef_2_2 m a) k
  obtain ⟨cl1, Ar1, -, Z1, N1, -, -⟩ := id V_a
  obtain ⟨cl2, Ar2, q2, Z2, N2, H2, G2⟩ := id V_a
  have hin2 : ¬ ((0 : Int32) < 0 ∨ cl2.slots.size ≤ ((0 : Int32)).toNatClampNeg) := inb_of Z2 ⟨by decide, by decide⟩
  have hat2 : cl2.slots[((0 : Int32)).toNatClampNeg]? = some (.int x0) := H2.at hin2 rfl
  have w3 : ∀ t, Steps p.tables e below (s₁.setTop (mkF m 9 #[.val (.ref a)] [(.int x0)])) t → Steps p.tables e below (s₁.setTop (entryFrame m #[(.ref a)] 1)) t := fun t k => by
    refine pre0 t ?_
    refine XS.aloadN X0.here hx rfl (hb hby d2_0) rfl rfl ?_
    show Steps p.tables e below (s₁.setTop (mkF m 1 #[.val (.ref a)] [(.ref a)])) _
    refine X0.arraylength hx (by rw [e0]; exact Ar1.1) (State.isArrayOf_alike hZ.alike Ar1.2.1) (g := (mkF m 1 #[.val (.ref a)] [(.ref a)])) rfl rfl (hb hby d2_1) _ ?_
    rw [len_of Z1 N1]
    show Steps p.tables e below (s₁.setTop (mkF m 2 #[.val (.ref a)] [(.int (2 : Int32))])) _
    refine XS.iconst X0.here hx rfl (hb hby d2_2) ?_
    show Steps p.tables e below (s₁.setTop (mkF m 3 #[.val (.ref a)] [(.int (2 : Int32)), (.int (2 : Int32))])) _
    refine XS.icmpNo X0.here hx rfl (hb hby d2_3) rfl (flt ((by decide) : ¬ ((2 : Int32) < (2 : Int32)))).1 ?_
    show Steps p.tables e below (s₁.setTop (mkF m 6 #[.val (.ref a)] [])) _
    refine XS.aloadN X0.here hx rfl (hb hby d2_6) rfl rfl ?_
    show Steps p.tables e below (s₁.setTop (mkF m 7 #[.val (.ref a)] [(.ref a)])) _
    refine XS.iconst X0.here hx rfl (hb hby d2_7) ?_
    show Steps p.tables e below (s₁.setTop (mkF m 8 #[.val (.ref a)] [(.int (0 : Int32)), (.ref a)])) _
    refine X0.baloadBytes hx (j := (0 : Int32)) (v := (.int x0)) (by rw [e0]; exact Ar2.1) (State.isArrayOf_alike hZ.alike Ar2.2.1) Ar2.2.2 hin2 hat2 (g := (mkF m 8 #[.val (.ref a)] [(.int (0 : Int32)), (.ref a)])) rfl rfl (hb hby d2_8) _ ?_
    show Steps p.tables e below (s₁.setTop (mkF m 9 #[.val (.ref a)] [(.int x0)])) _
    exact k
  by_cases hc9_4 : x0 = (0 : Int32)
  · obtain ⟨cl5, Ar5, q5, Z5, N5, H5, G5⟩ := id V_a
    have hin5 : ¬ ((1 : Int32) < 0 ∨ cl5.slots.size ≤ ((1 : Int32)).toNatClampNeg) := inb_of Z5 ⟨by decide, by decide⟩
    have hat5 : cl5.slots[((1 : Int32)).toNatClampNeg]? = some (.int x1) := H5.at hin5 rfl
    have w6 : ∀ t, Steps p.tables e below (s₁.setTop (mkF m 15 #[.val (.ref a)] [(.int x1)])) t → Steps p.tables e below (s₁.setTop (entryFrame m #[(.ref a)] 1)) t := fun t k => by
      refine w3 t ?_
      refine XS.ifNo X0.here hx rfl (hb hby d2_9) rfl ((if0 _ _).trans (teq hc9_4).2) ?_
      show Steps p.tables e below (s₁.setTop (mkF m 12 #[.val (.ref a)] [])) _
      refine XS.aloadN X0.here hx rfl (hb hby d2_12) rfl rfl ?_
      show Steps p.tables e below (s₁.setTop (mkF m 13 #[.val (.ref a)] [(.ref a)])) _
      refine XS.iconst X0.here hx rfl (hb hby d2_13) ?_
      show Steps p.tables e below (s₁.setTop (mkF m 14 #[.val (.ref a)] [(.int (1 : Int32)), (.ref a)])) _
      refine X0.baloadBytes hx (j := (1 : Int32)) (v := (.int x1)) (by rw [e0]; exact Ar5.1) (State.isArrayOf_alike hZ.alike Ar5.2.1) Ar5.2.2 hin5 hat5 (g := (mkF m 14 #[.val (.ref a)] [(.int (1 : Int32)), (.ref a)])) rfl rfl (hb hby d2_14) _ ?_
      show Steps p.tables e below (s₁.setTop (mkF m 15 #[.val (.ref a)] [(.int x1)])) _
      exact k
    by_cases hc15_7 : x1 = (0 : Int32)
    · have w8 : ∀ t, Steps p.tables e below (s₁.setTop (mkF m 23 #[.val (.ref a)] [(.int (1 : Int32))])) t → Steps p.tables e below (s₁.setTop (entryFrame m #[(.ref a)] 1)) t := fun t k => by
        refine w6 t ?_
        refine XS.ifNo X0.here hx rfl (hb hby d2_15) rfl ((if0 _ _).trans (teq hc15_7).2) ?_
        show Steps p.tables e below (s₁.setTop (mkF m 18 #[.val (.ref a)] [])) _
        refine XS.iconst X0.here hx rfl (hb hby d2_18) ?_
        show Steps p.tables e below (s₁.setTop (mkF m 19 #[.val (.ref a)] [(.int (1 : Int32))])) _
        refine XS.goto X0.here hx rfl (pc0 := 19) (pc' := 23) rfl (hb hby d2_19) (by decide) (by decide) ?_
        show Steps p.tables e below (s₁.setTop (mkF m 23 #[.val (.ref a)] [(.int (1 : Int32))])) _
        exact k
      obtain ⟨fs, hr, hrun, hended, hW, hsame⟩ := X0.leave (v := some (.int (1 : Int32))) (fun h => by rw [Bd.returns] at h; cases h)
      refine ⟨_, _, w8 _ ?_, hrun, hended, _, _, rfl, ?_, ⟨_, rfl⟩, hW, hsame.mono (by decide) (by decide)⟩
      · exact retN X0 hx (t := .boolean) Bd.returns (by simp) (hb hby d2_23) hr
      · show Q2_2 Z a kz x0 x1  h0 n0 _ s₁.heap _
        rw [e0]
        exact ⟨(by simp [own_w, hc15_7, hc9_4]), N0, rfl⟩
    · have w9 : ∀ t, Steps p.tables e below (s₁.setTop (mkF m 23 #[.val (.ref a)] [(.int (0 : Int32))])) t → Steps p.tables e below (s₁.setTop (entryFrame m #[(.ref a)] 1)) t := fun t k => by
        refine w6 t ?_
        refine XS.ifYes X0.here hx rfl (pc0 := 15) (pc' := 22) rfl (hb hby d2_15) rfl ((if0 _ _).trans (feq hc15_7).2) (by decide) (by decide) ?_
        show Steps p.tables e below (s₁.setTop (mkF m 22 #[.val (.ref a)] [])) _
        refine XS.iconst X0.here hx rfl (hb hby d2_22) ?_
        show Steps p.tables e below (s₁.setTop (mkF m 23 #[.val (.ref a)] [(.int (0 : Int32))])) _
        exact k
      obtain ⟨fs, hr, hrun, hended, hW, hsame⟩ := X0.leave (v := some (.int (0 : Int32))) (fun h => by rw [Bd.returns] at h; cases h)
      refine ⟨_, _, w9 _ ?_, hrun, hended, _, _, rfl, ?_, ⟨_, rfl⟩, hW, hsame.mono (by decide) (by decide)⟩
      · exact retN X0 hx (t := .boolean) Bd.returns (by simp) (hb hby d2_23) hr
      · show Q2_2 Z a kz x0 x1  h0 n0 _ s₁.heap _
        rw [e0]
        exact ⟨(by simp [own_w, hc15_7, hc9_4]), N0, rfl⟩
  · have w10 : ∀ t, Steps p.tables e below (s₁.setTop (mkF m 23 #[.val (.ref a)] [(.int (0 : Int32))])) t → Steps p.tables e below (s₁.setTop (entryFrame m #[(.ref a)] 1)) t := fun t k => by
      refine w3 t ?_
      refine XS.ifYes X0.here hx rfl (pc0 := 9) (pc' := 22) rfl (hb hby d2_9) rfl ((if0 _ _).trans (feq hc9_4).2) (by decide) (by decide) ?_
      show Steps p.tables e below (s₁.setTop (mkF m 22 #[.val (.ref a)] [])) _
      refine XS.iconst X0.here hx rfl (hb hby d2_22) ?_
      show Steps p.tables e below (s₁.setTop (mkF m 23 #[.val (.ref a)] [(.int (0 : Int32))])) _
      exact k
    obtain ⟨fs, hr, hrun, hended, hW, hsame⟩ := X0.leave (v := some (.int (0 : Int32))) (fun h => by rw [Bd.returns] at h; cases h)
    refine ⟨_, _, w10 _ ?_, hrun, hended, _, _, rfl, ?_, ⟨_, rfl⟩, hW, hsame.mono (by decide) (by decide)⟩
    · exact retN X0 hx (t := .boolean) Bd.returns (by simp) (hb hby d2_23) hr
    · show Q2_2 Z a kz x0 x1  h0 n0 _ s₁.heap _
      rw [e0]
      exact ⟨(by simp [own_w, hc9_4]), N0, rfl⟩
theorem ef_2_3 (m : MethodId) (x0 : Addr) : entryFrame m #[(.ref x0)] 1 = mkF m 0 #[.val (.ref x0)] [] := by first | (simp [entryFrame, mkF, argsToLocals, Value.category]; done) | rfl
def Q2_3 (Z : State) (a : Addr) (kz : ClassId) (x0 : Int32) (x1 : Int32) (x2 : Int32) (h0 : Heap) (n0 : Nat) (v : Option Value) (h : Heap) (L : List Loc) : Prop := v = some (.int (own_w x0 x1)) ∧ Fr n0 L ∧ h = h0
set_option maxRecDepth 65536 in
set_option maxHeartbeats 40000000 in
theorem rm2_3 (l : Launch) (Z : State) (a0 : Array Value) (hw : ∀ d ∈ tables_1, d.before a0 Z = true) (ws : List Jvm.Cond) (a : Addr) (kz : ClassId) (x0 : Int32) (x1 : Int32) (x2 : Int32) (h0 : Heap) (n0 : Nat) (O0 : Old Z n0 h0) (V_a : Arv Z h0 a kz .byte (3 : Int32) [(.int x0), (.int x1), (.int x2)] (.int (0 : Int32))) :
    MetFree l (⟨"com/example/hashmesh/hashmesh/wire/Packet", "isWithoutJson", "([B)Z"⟩ : MethodName) (head1 (Jvm.Cond.code (⟨"com/example/hashmesh/hashmesh/wire/Packet", "isWithoutJson", "([B)Z"⟩ : MethodName) prog_143_method_12_code 1 (some .boolean) :: ws) ({ frames := 0, cells := 0, slots := 0, locals := 0 } : Room)) (fun aA uU => aA = #[(.ref a)] ∧ Z.Warmed39 uU.vm ∧ uU.heap = h0) (fun _ _ _ _ _ => True) (fun _ uU oO uU' => ∃ vV lL, oO = .returned vV ∧ Q2_3 Z a kz x0 x1 x2  h0 n0 vV uU'.heap lL ∧ FrameEnd uU oO uU' lL ({ frames := 0, cells := 0, slots := 0, locals := 0 } : Room).cells ({ frames := 0, cells := 0, slots := 0, locals := 0 } : Room).slots) := by
  refine MetFree.of_bodySF (plainFor_of_name pn_com_example_hashmesh_hashmesh_wire_Packet) hisR ?_
  intro p e s m args below meth c s₁ Bd hml0 hP hK
  obtain ⟨rfl, hZ, hh⟩ := hP
  have hx := Bd.exec
  have hby := Bd.bytes
  have hml : c.maxLocals = 1 := hml0
  have hown : s.vm.findClass "com/example/hashmesh/hashmesh/wire/Packet" = some m.cls := findClass_of_methodNamed Bd.named
  have hnm := (name_of_methodNamed Bd.named Bd.method).1
  have X0 : Stand p l e ({ frames := 0, cells := 0, slots := 0, locals := 0 } : Room) s m #[(.ref a)] below meth c s₁ [] 0 0 := Stand.of_body Bd
  have e0 : s₁.heap = h0 := by rw [← hh, Bd.state]; rfl
  have N0 := Fr.nil n0
  have O := O0
  have pre0 : ∀ t, Steps p.tables e below (s₁.setTop (mkF m 0 #[.val (.ref a)] [])) t → Steps p.tables e below (s₁.setTop (entryFrame m #[(.ref a)] 1)) t := fun t k => castTop (ef_2_3 m a) k
  obtain ⟨cl1, Ar1, -, Z1, N1, -, -⟩ := id V_a
  obtain ⟨cl2, Ar2, q2, Z2, N2, H2, G2⟩ := id V_a
  have hin2 : ¬ ((0 : Int32) < 0 ∨ cl2.slots.size ≤ ((0 : Int32)).toNatClampNeg) := inb_of Z2 ⟨by decide, by decide⟩
  have hat2 : cl2.slots[((0 : Int32)).toNatClampNeg]? = some (.int x0) := H2.at hin2 rfl
  have w3 : ∀ t, Steps p.tables e below (s₁.setTop (mkF m 9 #[.val (.ref a)] [(.int x0)])) t → Steps p.tables e below (s₁.setTop (entryFrame m #[(.ref a)] 1)) t := fun t k => by
    refine pre0 t ?_
    refine XS.aloadN X0.here hx rfl (hb hby d2_0) rfl rfl ?_
    show Steps p.tables e below (s₁.setTop (mkF m 1 #[.val (.ref a)] [(.ref a)])) _
    refine X0.arraylength hx (by rw [e0]; exact Ar1.1) (State.isArrayOf_alike hZ.alike Ar1.2.1) (g := (mkF m 1 #[.val (.ref a)] [(.ref a)])) rfl rfl (hb hby d2_1) _ ?_
    rw [len_of Z1 N1]
    show Steps p.tables e below (s₁.setTop (mkF m 2 #[.val (.ref a)] [(.int (3 : Int32))])) _
    refine XS.iconst X0.here hx rfl (hb hby d2_2) ?_
    show Steps p.tables e below (s₁.setTop (mkF m 3 #[.val (.ref a)] [(.int (2 : Int32)), (.int (3 : Int32))])) _
    refine XS.icmpNo X0.here hx rfl (hb hby d2_3) rfl (flt ((by decide) : ¬ ((3 : Int32) < (2 : Int32)))).1 ?_
    show Steps p.tables e below (s₁.setTop (mkF m 6 #[.val (.ref a)] [])) _
    refine XS.aloadN X0.here hx rfl (hb hby d2_6) rfl rfl ?_
    show Steps p.tables e below (s₁.setTop (mkF m 7 #[.val (.ref a)] [(.ref a)])) _
    refine XS.iconst X0.here hx rfl (hb hby d2_7) ?_
    show Steps p.tables e below (s₁.setTop (mkF m 8 #[.val (.ref a)] [(.int (0 : Int32)), (.ref a)])) _
    refine X0.baloadBytes hx (j := (0 : Int32)) (v := (.int x0)) (by rw [e0]; exact Ar2.1) (State.isArrayOf_alike hZ.alike Ar2.2.1) Ar2.2.2 hin2 hat2 (g := (mkF m 8 #[.val (.ref a)] [(.int (0 : Int32)), (.ref a)])) rfl rfl (hb hby d2_8) _ ?_
    show Steps p.tables e below (s₁.setTop (mkF m 9 #[.val (.ref a)] [(.int x0)])) _
    exact k
  by_cases hc9_4 : x0 = (0 : Int32)
  · obtain ⟨cl5, Ar5, q5, Z5, N5, H5, G5⟩ := id V_a
    have hin5 : ¬ ((1 : Int32) < 0 ∨ cl5.slots.size ≤ ((1 : Int32)).toNatClampNeg) := inb_of Z5 ⟨by decide, by decide⟩
    have hat5 : cl5.slots[((1 : Int32)).toNatClampNeg]? = some (.int x1) := H5.at hin5 rfl
    have w6 : ∀ t, Steps p.tables e below (s₁.setTop (mkF m 15 #[.val (.ref a)] [(.int x1)])) t → Steps p.tables e below (s₁.setTop (entryFrame m #[(.ref a)] 1)) t := fun t k => by
      refine w3 t ?_
      refine XS.ifNo X0.here hx rfl (hb hby d2_9) rfl ((if0 _ _).trans (teq hc9_4).2) ?_
      show Steps p.tables e below (s₁.setTop (mkF m 12 #[.val (.ref a)] [])) _
      refine XS.aloadN X0.here hx rfl (hb hby d2_12) rfl rfl ?_
      show Steps p.tables e below (s₁.setTop (mkF m 13 #[.val (.ref a)] [(.ref a)])) _
      refine XS.iconst X0.here hx rfl (hb hby d2_13) ?_
      show Steps p.tables e below (s₁.setTop (mkF m 14 #[.val (.ref a)] [(.int (1 : Int32)), (.ref a)])) _
      refine X0.baloadBytes hx (j := (1 : Int32)) (v := (.int x1)) (by rw [e0]; exact Ar5.1) (State.isArrayOf_alike hZ.alike Ar5.2.1) Ar5.2.2 hin5 hat5 (g := (mkF m 14 #[.val (.ref a)] [(.int (1 : Int32)), (.ref a)])) rfl rfl (hb hby d2_14) _ ?_
      show Steps p.tables e below (s₁.setTop (mkF m 15 #[.val (.ref a)] [(.int x1)])) _
      exact k
    by_cases hc15_7 : x1 = (0 : Int32)
    · have w8 : ∀ t, Steps p.tables e below (s₁.setTop (mkF m 23 #[.val (.ref a)] [(.int (1 : Int32))])) t → Steps p.tables e below (s₁.setTop (entryFrame m #[(.ref a)] 1)) t := fun t k => by
        refine w6 t ?_
        refine XS.ifNo X0.here hx rfl (hb hby d2_15) rfl ((if0 _ _).trans (teq hc15_7).2) ?_
        show Steps p.tables e below (s₁.setTop (mkF m 18 #[.val (.ref a)] [])) _
        refine XS.iconst X0.here hx rfl (hb hby d2_18) ?_
        show Steps p.tables e below (s₁.setTop (mkF m 19 #[.val (.ref a)] [(.int (1 : Int32))])) _
        refine XS.goto X0.here hx rfl (pc0 := 19) (pc' := 23) rfl (hb hby d2_19) (by decide) (by decide) ?_
        show Steps p.tables e below (s₁.setTop (mkF m 23 #[.val (.ref a)] [(.int (1 : Int32))])) _
        exact k
      obtain ⟨fs, hr, hrun, hended, hW, hsame⟩ := X0.leave (v := some (.int (1 : Int32))) (fun h => by rw [Bd.returns] at h; cases h)
      refine ⟨_, _, w8 _ ?_, hrun, hended, _, _, rfl, ?_, ⟨_, rfl⟩, hW, hsame.mono (by decide) (by decide)⟩
      · exact retN X0 hx (t := .boolean) Bd.returns (by simp) (hb hby d2_23) hr
      · show Q2_3 Z a kz x0 x1 x2  h0 n0 _ s₁.heap _
        rw [e0]
        exact ⟨(by simp [own_w, hc15_7, hc9_4]), N0, rfl⟩
    · have w9 : ∀ t, Steps p.tables e below (s₁.setTop (mkF m 23 #[.val (.ref a)] [(.int (0 : Int32))])) t → Steps p.tables e below (s₁.setTop (entryFrame m #[(.ref a)] 1)) t := fun t k => by
        refine w6 t ?_
        refine XS.ifYes X0.here hx rfl (pc0 := 15) (pc' := 22) rfl (hb hby d2_15) rfl ((if0 _ _).trans (feq hc15_7).2) (by decide) (by decide) ?_
        show Steps p.tables e below (s₁.setTop (mkF m 22 #[.val (.ref a)] [])) _
        refine XS.iconst X0.here hx rfl (hb hby d2_22) ?_
        show Steps p.tables e below (s₁.setTop (mkF m 23 #[.val (.ref a)] [(.int (0 : Int32))])) _
        exact k
      obtain ⟨fs, hr, hrun, hended, hW, hsame⟩ := X0.leave (v := some (.int (0 : Int32))) (fun h => by rw [Bd.returns] at h; cases h)
      refine ⟨_, _, w9 _ ?_, hrun, hended, _, _, rfl, ?_, ⟨_, rfl⟩, hW, hsame.mono (by decide) (by decide)⟩
      · exact retN X0 hx (t := .boolean) Bd.returns (by simp) (hb hby d2_23) hr
      · show Q2_3 Z a kz x0 x1 x2  h0 n0 _ s₁.heap _
        rw [e0]
        exact ⟨(by simp [own_w, hc15_7, hc9_4]), N0, rfl⟩
  · have w10 : ∀ t, Steps p.tables e below (s₁.setTop (mkF m 23 #[.val (.ref a)] [(.int (0 : Int32))])) t → Steps p.tables e below (s₁.setTop (entryFrame m #[(.ref a)] 1)) t := fun t k => by
      refine w3 t ?_
      refine XS.ifYes X0.here hx rfl (pc0 := 9) (pc' := 22) rfl (hb hby d2_9) rfl ((if0 _ _).trans (feq hc9_4).2) (by decide) (by decide) ?_
      show Steps p.tables e below (s₁.setTop (mkF m 22 #[.val (.ref a)] [])) _
      refine XS.iconst X0.here hx rfl (hb hby d2_22) ?_
      show Steps p.tables e below (s₁.setTop (mkF m 23 #[.val (.ref a)] [(.int (0 : Int32))])) _
      exact k
    obtain ⟨fs, hr, hrun, hended, hW, hsame⟩ := X0.leave (v := some (.int (0 : Int32))) (fun h => by rw [Bd.returns] at h; cases h)
    refine ⟨_, _, w10 _ ?_, hrun, hended, _, _, rfl, ?_, ⟨_, rfl⟩, hW, hsame.mono (by decide) (by decide)⟩
    · exact retN X0 hx (t := .boolean) Bd.returns (by simp) (hb hby d2_23) hr
    · show Q2_3 Z a kz x0 x1 x2  h0 n0 _ s₁.heap _
      rw [e0]
      exact ⟨(by simp [own_w, hc9_4]), N0, rfl⟩
def own_F0 (x0 : Int32) (x1 : Int32) (x2 : Int32) (x3 : Int32) (x4 : Int32) : Array Slot := #[.val (.int x0), .val (.int x1), .val (.int x2), .val (.int x3), .val (.int x4), .unset, .unset, .unset, .unset, .unset, .unset, .unset, .unset]
def own_F1 (x0 : Int32) (x1 : Int32) (x2 : Int32) (x3 : Int32) (x4 : Int32) (x5 : Int32) : Array Slot := #[.val (.int x0), .val (.int x1), .val (.int x2), .val (.int x3), .val (.int x4), .val (.int x5), .unset, .unset, .unset, .unset, .unset, .unset, .unset]
def own_F2 (x0 : Int32) (x1 : Int32) (x2 : Int32) (x3 : Int32) (x4 : Int32) (x5 : Int32) (x6 : Int32) : Array Slot := #[.val (.int x0), .val (.int x1), .val (.int x2), .val (.int x3), .val (.int x4), .val (.int x5), .val (.int x6), .unset, .unset, .unset, .unset, .unset, .unset]
def own_F3 (x0 : Int32) (x1 : Int32) (x2 : Int32) (x3 : Int32) (x4 : Int32) (x5 : Int32) (x6 : Int32) (x7 : Int32) : Array Slot := #[.val (.int x0), .val (.int x1), .val (.int x2), .val (.int x3), .val (.int x4), .val (.int x5), .val (.int x6), .val (.int x7), .unset, .unset, .unset, .unset, .unset]
def own_F4 (x0 : Int32) (x1 : Int32) (x2 : Int32) (x3 : Int32) (x4 : Int32) (x5 : Int32) (x6 : Int32) (x7 : Int32) (x8 : Int32) : Array Slot := #[.val (.int x0), .val (.int x1), .val (.int x2), .val (.int x3), .val (.int x4), .val (.int x5), .val (.int x6), .val (.int x7), .val (.int x8), .unset, .unset, .unset, .unset]
def own_F5 (x0 : Int32) (x1 : Int32) (x2 : Int32) (x3 : Int32) (x4 : Int32) (x5 : Int32) (x6 : Int32) (x7 : Int32) (x8 : Int32) (x9 : Addr) : Array Slot := #[.val (.int x0), .val (.int x1), .val (.int x2), .val (.int x3), .val (.int x4), .val (.int x5), .val (.int x6), .val (.int x7), .val (.int x8), .val (.ref x9), .unset, .unset, .unset]
def own_F6 (x0 : Int32) (x1 : Int32) (x2 : Int32) (x3 : Int32) (x4 : Int32) (x5 : Int32) (x6 : Int32) (x7 : Int32) (x8 : Int32) (x9 : Addr) (x10 : Int32) : Array Slot := #[.val (.int x0), .val (.int x1), .val (.int x2), .val (.int x3), .val (.int x4), .val (.int x5), .val (.int x6), .val (.int x7), .val (.int x8), .val (.ref x9), .val (.int x10), .unset, .unset]
def own_F7 (x0 : Int32) (x1 : Int32) (x2 : Int32) (x3 : Int32) (x4 : Int32) (x5 : Int32) (x6 : Int32) (x7 : Int32) (x8 : Int32) (x9 : Addr) (x10 : Int32) (x11 : Int32) : Array Slot := #[.val (.int x0), .val (.int x1), .val (.int x2), .val (.int x3), .val (.int x4), .val (.int x5), .val (.int x6), .val (.int x7), .val (.int x8), .val (.ref x9), .val (.int x10), .val (.int x11), .unset]
theorem pd__40I_41_91B : parseMethodDescriptor "(I)[B" = some ⟨[.int], some (.array .byte)⟩ := by decide +kernel
theorem pd__40_91B_41Z : parseMethodDescriptor "([B)Z" = some ⟨[(.array .byte)], some .boolean⟩ := by decide +kernel
def own_F8 (x0 : Int32) (x1 : Int32) (x2 : Int32) (x3 : Int32) (x4 : Int32) (x5 : Int32) (x6 : Int32) (x7 : Int32) (x8 : Int32) (x9 : Addr) (x10 : Int32) (x11 : Int32) (x12 : Int32) : Array Slot := #[.val (.int x0), .val (.int x1), .val (.int x2), .val (.int x3), .val (.int x4), .val (.int x5), .val (.int x6), .val (.int x7), .val (.int x8), .val (.ref x9), .val (.int x10), .val (.int x11), .val (.int x12)]
theorem pn_com_example_hashmesh_hashmesh_wire_PacketIsWithoutJsonPinLaw : plainName "com/example/hashmesh/hashmesh/wire/PacketIsWithoutJsonPinLaw" = true := by first | (simp [plainName, overriddenIn]; done) | decide +kernel
theorem ef_0 (m : MethodId) (x0 : Int32) (x1 : Int32) (x2 : Int32) (x3 : Int32) (x4 : Int32) : entryFrame m #[(.int x0), (.int x1), (.int x2), (.int x3), (.int x4)] maxLocals = mkF m 0 #[.val (.int x0), .val (.int x1), .val (.int x2), .val (.int x3), .val (.int x4), .unset, .unset, .unset, .unset, .unset, .unset, .unset, .unset] [] := by first | (simp [entryFrame, mkF, argsToLocals, Value.category, maxLocals]; done) | rfl
def Q0 (Z : State) (n : Int32) (j : Int32) (i1 : Int32) (i2 : Int32) (i3 : Int32) (h0 : Heap) (n0 : Nat) (v : Option Value) (h : Heap) (L : List Loc) : Prop := v = some (.int (1 : Int32)) ∧ Fr n0 L
set_option maxRecDepth 65536 in
set_option maxHeartbeats 40000000 in
theorem rm0 (l : Launch) (Z : State) (a0 : Array Value) (hw : ∀ d ∈ tables_1, d.before a0 Z = true) (ws : List Jvm.Cond) (n : Int32) (j : Int32) (i1 : Int32) (i2 : Int32) (i3 : Int32) (h0 : Heap) (n0 : Nat) (O0 : Old Z n0 h0) :
    MetFree l x (head1 (Jvm.Cond.code x code maxLocals ret :: ws) room_1) (fun aA uU => aA = #[(.int n), (.int j), (.int i1), (.int i2), (.int i3)] ∧ Z.Warmed39 uU.vm ∧ uU.heap = h0) (fun _ _ _ _ _ => True) (fun _ uU oO uU' => ∃ vV lL, oO = .returned vV ∧ Q0 Z n j i1 i2 i3  h0 n0 vV uU'.heap lL ∧ FrameEnd uU oO uU' lL room_1.cells room_1.slots) := by
  refine MetFree.of_bodySF (plainFor_of_name pn_com_example_hashmesh_hashmesh_wire_PacketIsWithoutJsonPinLaw) hisR ?_
  intro p e s m args below meth c s₁ Bd hml0 hP hK
  obtain ⟨rfl, hZ, hh⟩ := hP
  have hx := Bd.exec
  have hby := Bd.bytes
  have hml : c.maxLocals = 13 := hml0
  have hown : s.vm.findClass "com/example/hashmesh/hashmesh/wire/PacketIsWithoutJsonPinLaw" = some m.cls := findClass_of_methodNamed Bd.named
  have hnm := (name_of_methodNamed Bd.named Bd.method).1
  have X0 : Stand p l e room_1 s m #[(.int n), (.int j), (.int i1), (.int i2), (.int i3)] below meth c s₁ [] 0 0 := Stand.of_body Bd
  have e0 : s₁.heap = h0 := by rw [← hh, Bd.state]; rfl
  have N0 := Fr.nil n0
  have O := O0
  have pre0 : ∀ t, Steps p.tables e below (s₁.setTop (mkF m 0 #[.val (.int n), .val (.int j), .val (.int i1), .val (.int i2), .val (.int i3), .unset, .unset, .unset, .unset, .unset, .unset, .unset, .unset] [])) t → Steps p.tables e below (s₁.setTop (entryFrame m #[(.int n), (.int j), (.int i1), (.int i2), (.int i3)] maxLocals)) t := fun t k => castTop (ef_0 m n j i1 i2 i3) k
  have w1 : ∀ t, Steps p.tables e below (s₁.setTop (mkF m 5 (own_F1 n j i1 i2 i3 (n &&& (3 : Int32))) [])) t → Steps p.tables e below (s₁.setTop (entryFrame m #[(.int n), (.int j), (.int i1), (.int i2), (.int i3)] maxLocals)) t := fun t k => by
    refine pre0 t ?_
    refine XS.iloadN X0.here hx rfl (hb hby at_0) rfl ?_
    show Steps p.tables e below (s₁.setTop (mkF m 1 (own_F0 n j i1 i2 i3) [(.int n)])) _
    refine XS.iconst X0.here hx rfl (hb hby at_1) ?_
    show Steps p.tables e below (s₁.setTop (mkF m 2 (own_F0 n j i1 i2 i3) [(.int (3 : Int32)), (.int n)])) _
    refine XS.iand X0.here hx rfl (hb hby at_2) rfl ?_
    show Steps p.tables e below (s₁.setTop (mkF m 3 (own_F0 n j i1 i2 i3) [(.int (n &&& (3 : Int32)))])) _
    refine XS.istore X0.here hx rfl (hb hby at_3) rfl (l' := (own_F1 n j i1 i2 i3 (n &&& (3 : Int32)))) rfl ?_
    show Steps p.tables e below (s₁.setTop (mkF m 5 (own_F1 n j i1 i2 i3 (n &&& (3 : Int32))) [])) _
    exact k
  rcases own_4 n with hk2 | hk2 | hk2 | hk2
  · have w3 : ∀ t, Steps p.tables e below (s₁.setTop (mkF m 5 (own_F1 n j i1 i2 i3 (0 : Int32)) [])) t → Steps p.tables e below (s₁.setTop (entryFrame m #[(.int n), (.int j), (.int i1), (.int i2), (.int i3)] maxLocals)) t := by
      have q := w1
      simp only [hk2] at q
      exact q
    have w4 : ∀ t, Steps p.tables e below (s₁.setTop (mkF m 8 (own_F1 n j i1 i2 i3 (0 : Int32)) [(.int (j &&& (1 : Int32)))])) t → Steps p.tables e below (s₁.setTop (entryFrame m #[(.int n), (.int j), (.int i1), (.int i2), (.int i3)] maxLocals)) t := fun t k => by
      refine w3 t ?_
      refine XS.iloadN X0.here hx rfl (hb hby at_5) rfl ?_
      show Steps p.tables e below (s₁.setTop (mkF m 6 (own_F1 n j i1 i2 i3 (0 : Int32)) [(.int j)])) _
      refine XS.iconst X0.here hx rfl (hb hby at_6) ?_
      show Steps p.tables e below (s₁.setTop (mkF m 7 (own_F1 n j i1 i2 i3 (0 : Int32)) [(.int (1 : Int32)), (.int j)])) _
      refine XS.iand X0.here hx rfl (hb hby at_7) rfl ?_
      show Steps p.tables e below (s₁.setTop (mkF m 8 (own_F1 n j i1 i2 i3 (0 : Int32)) [(.int (j &&& (1 : Int32)))])) _
      exact k
    obtain ⟨v6, hv6⟩ : ∃ v : Int32, v = (if (j &&& (1 : Int32)) = (0 : Int32) then (i1.toInt8.toInt32) else (0 : Int32)) := ⟨_, rfl⟩
    have w7 : ∀ t, Steps p.tables e below (s₁.setTop (mkF m 17 (own_F1 n j i1 i2 i3 (0 : Int32)) [(.int v6)])) t → Steps p.tables e below (s₁.setTop (entryFrame m #[(.int n), (.int j), (.int i1), (.int i2), (.int i3)] maxLocals)) t := fun t k => by
      refine w4 t ?_
      show Steps p.tables e below (s₁.setTop (mkF m 8 (own_F1 n j i1 i2 i3 (0 : Int32)) [(.int (j &&& (1 : Int32)))])) _
      by_cases hm5 : (j &&& (1 : Int32)) = (0 : Int32)
      · refine XS.ifYes X0.here hx rfl (pc0 := 8) (pc' := 15) rfl (hb hby at_8) rfl ((if0 _ _).trans (teq hm5).1) (by decide) (by decide) ?_
        show Steps p.tables e below (s₁.setTop (mkF m 15 (own_F1 n j i1 i2 i3 (0 : Int32)) [])) _
        refine XS.iloadN X0.here hx rfl (hb hby at_15) rfl ?_
        show Steps p.tables e below (s₁.setTop (mkF m 16 (own_F1 n j i1 i2 i3 (0 : Int32)) [(.int i1)])) _
        refine XS.i2b X0.here hx rfl (hb hby at_16) rfl ?_
        show Steps p.tables e below (s₁.setTop (mkF m 17 (own_F1 n j i1 i2 i3 (0 : Int32)) [(.int (i1.toInt8.toInt32))])) _
        rw [show v6 = (i1.toInt8.toInt32) from by rw [hv6]; simp only [if_pos hm5]] at k
        exact k
      · refine XS.ifNo X0.here hx rfl (hb hby at_8) rfl ((if0 _ _).trans (feq hm5).1) ?_
        show Steps p.tables e below (s₁.setTop (mkF m 11 (own_F1 n j i1 i2 i3 (0 : Int32)) [])) _
        refine XS.iconst X0.here hx rfl (hb hby at_11) ?_
        show Steps p.tables e below (s₁.setTop (mkF m 12 (own_F1 n j i1 i2 i3 (0 : Int32)) [(.int (0 : Int32))])) _
        refine XS.goto X0.here hx rfl (pc0 := 12) (pc' := 17) rfl (hb hby at_12) (by decide) (by decide) ?_
        show Steps p.tables e below (s₁.setTop (mkF m 17 (own_F1 n j i1 i2 i3 (0 : Int32)) [(.int (0 : Int32))])) _
        rw [show v6 = (0 : Int32) from by rw [hv6]; simp only [if_neg hm5]] at k
        exact k
    have w8 : ∀ t, Steps p.tables e below (s₁.setTop (mkF m 22 (own_F2 n j i1 i2 i3 (0 : Int32) v6) [(.int (j &&& (2 : Int32)))])) t → Steps p.tables e below (s₁.setTop (entryFrame m #[(.int n), (.int j), (.int i1), (.int i2), (.int i3)] maxLocals)) t := fun t k => by
      refine w7 t ?_
      refine XS.istore X0.here hx rfl (hb hby at_17) rfl (l' := (own_F2 n j i1 i2 i3 (0 : Int32) v6)) rfl ?_
      show Steps p.tables e below (s₁.setTop (mkF m 19 (own_F2 n j i1 i2 i3 (0 : Int32) v6) [])) _
      refine XS.iloadN X0.here hx rfl (hb hby at_19) rfl ?_
      show Steps p.tables e below (s₁.setTop (mkF m 20 (own_F2 n j i1 i2 i3 (0 : Int32) v6) [(.int j)])) _
      refine XS.iconst X0.here hx rfl (hb hby at_20) ?_
      show Steps p.tables e below (s₁.setTop (mkF m 21 (own_F2 n j i1 i2 i3 (0 : Int32) v6) [(.int (2 : Int32)), (.int j)])) _
      refine XS.iand X0.here hx rfl (hb hby at_21) rfl ?_
      show Steps p.tables e below (s₁.setTop (mkF m 22 (own_F2 n j i1 i2 i3 (0 : Int32) v6) [(.int (j &&& (2 : Int32)))])) _
      exact k
    obtain ⟨v10, hv10⟩ : ∃ v : Int32, v = (if (j &&& (2 : Int32)) = (0 : Int32) then (i2.toInt8.toInt32) else (0 : Int32)) := ⟨_, rfl⟩
    have w11 : ∀ t, Steps p.tables e below (s₁.setTop (mkF m 31 (own_F2 n j i1 i2 i3 (0 : Int32) v6) [(.int v10)])) t → Steps p.tables e below (s₁.setTop (entryFrame m #[(.int n), (.int j), (.int i1), (.int i2), (.int i3)] maxLocals)) t := fun t k => by
      refine w8 t ?_
      show Steps p.tables e below (s₁.setTop (mkF m 22 (own_F2 n j i1 i2 i3 (0 : Int32) v6) [(.int (j &&& (2 : Int32)))])) _
      by_cases hm9 : (j &&& (2 : Int32)) = (0 : Int32)
      · refine XS.ifYes X0.here hx rfl (pc0 := 22) (pc' := 29) rfl (hb hby at_22) rfl ((if0 _ _).trans (teq hm9).1) (by decide) (by decide) ?_
        show Steps p.tables e below (s₁.setTop (mkF m 29 (own_F2 n j i1 i2 i3 (0 : Int32) v6) [])) _
        refine XS.iloadN X0.here hx rfl (hb hby at_29) rfl ?_
        show Steps p.tables e below (s₁.setTop (mkF m 30 (own_F2 n j i1 i2 i3 (0 : Int32) v6) [(.int i2)])) _
        refine XS.i2b X0.here hx rfl (hb hby at_30) rfl ?_
        show Steps p.tables e below (s₁.setTop (mkF m 31 (own_F2 n j i1 i2 i3 (0 : Int32) v6) [(.int (i2.toInt8.toInt32))])) _
        rw [show v10 = (i2.toInt8.toInt32) from by rw [hv10]; simp only [if_pos hm9]] at k
        exact k
      · refine XS.ifNo X0.here hx rfl (hb hby at_22) rfl ((if0 _ _).trans (feq hm9).1) ?_
        show Steps p.tables e below (s₁.setTop (mkF m 25 (own_F2 n j i1 i2 i3 (0 : Int32) v6) [])) _
        refine XS.iconst X0.here hx rfl (hb hby at_25) ?_
        show Steps p.tables e below (s₁.setTop (mkF m 26 (own_F2 n j i1 i2 i3 (0 : Int32) v6) [(.int (0 : Int32))])) _
        refine XS.goto X0.here hx rfl (pc0 := 26) (pc' := 31) rfl (hb hby at_26) (by decide) (by decide) ?_
        show Steps p.tables e below (s₁.setTop (mkF m 31 (own_F2 n j i1 i2 i3 (0 : Int32) v6) [(.int (0 : Int32))])) _
        rw [show v10 = (0 : Int32) from by rw [hv10]; simp only [if_neg hm9]] at k
        exact k
    obtain ⟨T12, h12, k12, X12, e12, E12, A12, st12⟩ := newP X0 hx hZ (hw _ (List.mem_of_getElem? (i := 0) rfl)) e0 (g := (mkF m 40 (own_F4 n j i1 i2 i3 (0 : Int32) v6 v10 (i3.toInt8.toInt32)) [(.int (0 : Int32))])) rfl (hb hby at_40) rfl (by decide) (cap := 0) (by decide) (by decide) (by decide) (by decide)
    obtain ⟨b12, gq12⟩ : ∃ z, z = Array.size h0 := ⟨_, rfl⟩
    rw [← gq12] at A12 st12
    have g_b12 : n0 ≤ b12 := Nat.le_trans (O.1 ▸ O.2.1) (Nat.le_of_eq gq12.symm)
    have O := O.ext E12
    have V_b12 : Arv Z h12 b12 k12 .byte (0 : Int32) [] (.int (0 : Int32)) := (Arv.new A12 (by decide))
    have lt13_b12 := V_b12.lt
    obtain ⟨_, _, ⟨T13, L13, k13, n13⟩, -, X13, ⟨Lc13, hQ13, l13, y13, z13⟩, st13⟩ := Jvm.LawKit.callS X12 hx (y := (⟨"com/example/hashmesh/hashmesh/wire/Packet", "encodeWithoutJson", "(I)[B"⟩ : MethodName)) hown (mvT hZ (hw _ (List.mem_of_getElem? (i := 1) rfl))) (mvT hZ (hw _ (List.mem_of_getElem? (i := 2) rfl))) (mvT hZ (hw _ (List.mem_of_getElem? (i := 3) rfl))) (mvT hZ (hw _ (List.mem_of_getElem? (i := 4) rfl))) (by decide) (backOf (W := 0) (rm1 l Z a0 hw [] (((j.toUInt32 >>> ((2 : Int32) &&& 31).toUInt32).toInt32) &&& (7 : Int32)) h12 n0 O (own_len _).1 (own_len _).2.1) hZ (hw _ (List.mem_of_getElem? (i := 4) rfl)) (hw _ (List.mem_of_getElem? (i := 3) rfl)) (by decide) (by decide)) (g := (mkF m 121 (own_F7 n j i1 i2 i3 (0 : Int32) v6 v10 (i3.toInt8.toInt32) b12 (((v6 &&& (255 : Int32)) <<< ((8 : Int32) &&& 31)) ||| (v10 &&& (255 : Int32))) (0 : Int32)) [(.int (((j.toUInt32 >>> ((2 : Int32) &&& 31).toUInt32).toInt32) &&& (7 : Int32)))])) rfl (by rw [hml]; rfl) (argsL := [(.int (((j.toUInt32 >>> ((2 : Int32) &&& 31).toUInt32).toInt32) &&& (7 : Int32)))]) (rest := []) (lenOf pd__40I_41_91B rfl) rfl (by show 2 * 0 + _ ≤ _; exact Nat.le_of_eq rfl) (hb hby at_121) (fun _ _ => ⟨rfl, e12, (by decide : 1 + 1 ≤ _), (by decide : 0 + 9 ≤ _)⟩)
    dsimp only [Pt.U, Pt.locs, Pt.cells, Pt.slots] at X13 l13 y13 z13 st13 hQ13
    subst l13 y13 z13
    obtain ⟨z_13, kz_13, rfl, N13q, K13, V_z_c13, gz_13, gn_13⟩ := hQ13
    have N13 := Fr.app N0 N13q
    have V_b12 := V_b12.keep K13 nin0
    have ne_b12_z_13 : b12 ≠ z_13 := Nat.ne_of_lt (Nat.lt_of_lt_of_le lt13_b12 gz_13)
    have g_z_13 := gn_13
    have O := O.keep K13 all0
    obtain ⟨_, _, ⟨T14, L14, k14, n14⟩, -, X14, ⟨Lc14, hQ14, l14, y14, z14⟩, st14⟩ := Jvm.LawKit.callS X13 hx (y := (⟨"com/example/hashmesh/hashmesh/wire/Packet", "isWithoutJson", "([B)Z"⟩ : MethodName)) hown (mvT hZ (hw _ (List.mem_of_getElem? (i := 5) rfl))) (mvT hZ (hw _ (List.mem_of_getElem? (i := 6) rfl))) (mvT hZ (hw _ (List.mem_of_getElem? (i := 3) rfl))) (mvT hZ (hw _ (List.mem_of_getElem? (i := 7) rfl))) (by decide) (backOf (W := 0) (rm2_f l Z a0 hw [] z_13 kz_13 ((2 : Int32) + (((j.toUInt32 >>> ((2 : Int32) &&& 31).toUInt32).toInt32) &&& (7 : Int32))) T13.heap n0 O V_z_c13 (own_len _).2.2) hZ (hw _ (List.mem_of_getElem? (i := 7) rfl)) (hw _ (List.mem_of_getElem? (i := 3) rfl)) (by decide) (by decide)) (g := (mkF m 124 (own_F7 n j i1 i2 i3 (0 : Int32) v6 v10 (i3.toInt8.toInt32) b12 (((v6 &&& (255 : Int32)) <<< ((8 : Int32) &&& 31)) ||| (v10 &&& (255 : Int32))) (0 : Int32)) [(.ref z_13)])) rfl (by rw [hml]; rfl) (argsL := [(.ref z_13)]) (rest := []) (lenOf pd__40_91B_41Z rfl) rfl (by show 2 * 0 + _ ≤ _; exact Nat.le_of_eq rfl) (hb hby at_124) (fun _ _ => ⟨rfl, rfl, (by decide : 2 + 0 ≤ _), (by decide : 9 + 0 ≤ _)⟩)
    dsimp only [Pt.U, Pt.locs, Pt.cells, Pt.slots] at X14 l14 y14 z14 st14 hQ14
    subst l14 y14 z14
    obtain ⟨rfl, N14q, eh14⟩ := hQ14
    have N14 := Fr.app N13 N14q
    obtain ⟨_, _, ⟨T15, L15, k15, n15⟩, -, X15, ⟨Lc15, hQ15, l15, y15, z15⟩, st15⟩ := Jvm.LawKit.callS X14 hx (y := (⟨"com/example/hashmesh/hashmesh/wire/Packet", "isWithoutJson", "([B)Z"⟩ : MethodName)) hown (mvT hZ (hw _ (List.mem_of_getElem? (i := 5) rfl))) (mvT hZ (hw _ (List.mem_of_getElem? (i := 6) rfl))) (mvT hZ (hw _ (List.mem_of_getElem? (i := 3) rfl))) (mvT hZ (hw _ (List.mem_of_getElem? (i := 7) rfl))) (by decide) (backOf (W := 0) (rm2_0 l Z a0 hw [] b12 k12 T13.heap n0 O V_b12) hZ (hw _ (List.mem_of_getElem? (i := 7) rfl)) (hw _ (List.mem_of_getElem? (i := 3) rfl)) (by decide) (by decide)) (g := (mkF m 131 (own_F8 n j i1 i2 i3 (0 : Int32) v6 v10 (i3.toInt8.toInt32) b12 (((v6 &&& (255 : Int32)) <<< ((8 : Int32) &&& 31)) ||| (v10 &&& (255 : Int32))) (0 : Int32) (1 : Int32)) [(.ref b12)])) rfl (by rw [hml]; rfl) (argsL := [(.ref b12)]) (rest := []) (lenOf pd__40_91B_41Z rfl) rfl (by show 2 * 0 + _ ≤ _; exact Nat.le_of_eq rfl) (hb hby at_131) (fun _ _ => ⟨rfl, eh14, (by decide : 2 + 0 ≤ _), (by decide : 9 + 0 ≤ _)⟩)
    dsimp only [Pt.U, Pt.locs, Pt.cells, Pt.slots] at X15 l15 y15 z15 st15 hQ15
    subst l15 y15 z15
    obtain ⟨rfl, N15q, eh15⟩ := hQ15
    have N15 := Fr.app N14 N15q
    have w16 : ∀ t, Steps p.tables e below (T15.setTop (mkF m 149 (own_F8 n j i1 i2 i3 (0 : Int32) v6 v10 (i3.toInt8.toInt32) b12 (((v6 &&& (255 : Int32)) <<< ((8 : Int32) &&& 31)) ||| (v10 &&& (255 : Int32))) (0 : Int32) (1 : Int32)) [(.int (1 : Int32))])) t → Steps p.tables e below (s₁.setTop (entryFrame m #[(.int n), (.int j), (.int i1), (.int i2), (.int i3)] maxLocals)) t := fun t k => by
      refine w11 t ?_
      refine XS.istore X0.here hx rfl (hb hby at_31) rfl (l' := (own_F3 n j i1 i2 i3 (0 : Int32) v6 v10)) rfl ?_
      show Steps p.tables e below (s₁.setTop (mkF m 33 (own_F3 n j i1 i2 i3 (0 : Int32) v6 v10) [])) _
      refine XS.iload X0.here hx rfl (hb hby at_33) rfl ?_
      show Steps p.tables e below (s₁.setTop (mkF m 35 (own_F3 n j i1 i2 i3 (0 : Int32) v6 v10) [(.int i3)])) _
      refine XS.i2b X0.here hx rfl (hb hby at_35) rfl ?_
      show Steps p.tables e below (s₁.setTop (mkF m 36 (own_F3 n j i1 i2 i3 (0 : Int32) v6 v10) [(.int (i3.toInt8.toInt32))])) _
      refine XS.istore X0.here hx rfl (hb hby at_36) rfl (l' := (own_F4 n j i1 i2 i3 (0 : Int32) v6 v10 (i3.toInt8.toInt32))) rfl ?_
      show Steps p.tables e below (s₁.setTop (mkF m 38 (own_F4 n j i1 i2 i3 (0 : Int32) v6 v10 (i3.toInt8.toInt32)) [])) _
      refine XS.iload X0.here hx rfl (hb hby at_38) rfl ?_
      show Steps p.tables e below (s₁.setTop (mkF m 40 (own_F4 n j i1 i2 i3 (0 : Int32) v6 v10 (i3.toInt8.toInt32)) [(.int (0 : Int32))])) _
      refine st12 _ ?_
      show Steps p.tables e below (T12.setTop (mkF m 42 (own_F4 n j i1 i2 i3 (0 : Int32) v6 v10 (i3.toInt8.toInt32)) [(.ref b12)])) _
      refine XS.astore X12.here hx rfl (hb hby at_42) rfl rfl (l' := (own_F5 n j i1 i2 i3 (0 : Int32) v6 v10 (i3.toInt8.toInt32) b12)) rfl ?_
      show Steps p.tables e below (T12.setTop (mkF m 44 (own_F5 n j i1 i2 i3 (0 : Int32) v6 v10 (i3.toInt8.toInt32) b12) [])) _
      refine XS.iload X12.here hx rfl (hb hby at_44) rfl ?_
      show Steps p.tables e below (T12.setTop (mkF m 46 (own_F5 n j i1 i2 i3 (0 : Int32) v6 v10 (i3.toInt8.toInt32) b12) [(.int (0 : Int32))])) _
      refine XS.ifYes X12.here hx rfl (pc0 := 46) (pc' := 55) rfl (hb hby at_46) rfl ((if0 _ _).trans (flt ((by decide) : ¬ ((0 : Int32) < (0 : Int32)))).2.2.2) (by decide) (by decide) ?_
      show Steps p.tables e below (T12.setTop (mkF m 55 (own_F5 n j i1 i2 i3 (0 : Int32) v6 v10 (i3.toInt8.toInt32) b12) [])) _
      refine XS.iload X12.here hx rfl (hb hby at_55) rfl ?_
      show Steps p.tables e below (T12.setTop (mkF m 57 (own_F5 n j i1 i2 i3 (0 : Int32) v6 v10 (i3.toInt8.toInt32) b12) [(.int (0 : Int32))])) _
      refine XS.iconst X12.here hx rfl (hb hby at_57) ?_
      show Steps p.tables e below (T12.setTop (mkF m 58 (own_F5 n j i1 i2 i3 (0 : Int32) v6 v10 (i3.toInt8.toInt32) b12) [(.int (1 : Int32)), (.int (0 : Int32))])) _
      refine XS.icmpYes X12.here hx rfl (pc0 := 58) (pc' := 67) rfl (hb hby at_58) rfl (flt ((by decide) : ¬ ((1 : Int32) < (0 : Int32)))).2.2.2 (by decide) (by decide) ?_
      show Steps p.tables e below (T12.setTop (mkF m 67 (own_F5 n j i1 i2 i3 (0 : Int32) v6 v10 (i3.toInt8.toInt32) b12) [])) _
      refine XS.iload X12.here hx rfl (hb hby at_67) rfl ?_
      show Steps p.tables e below (T12.setTop (mkF m 69 (own_F5 n j i1 i2 i3 (0 : Int32) v6 v10 (i3.toInt8.toInt32) b12) [(.int (0 : Int32))])) _
      refine XS.iconst X12.here hx rfl (hb hby at_69) ?_
      show Steps p.tables e below (T12.setTop (mkF m 70 (own_F5 n j i1 i2 i3 (0 : Int32) v6 v10 (i3.toInt8.toInt32) b12) [(.int (2 : Int32)), (.int (0 : Int32))])) _
      refine XS.icmpYes X12.here hx rfl (pc0 := 70) (pc' := 79) rfl (hb hby at_70) rfl (flt ((by decide) : ¬ ((2 : Int32) < (0 : Int32)))).2.2.2 (by decide) (by decide) ?_
      show Steps p.tables e below (T12.setTop (mkF m 79 (own_F5 n j i1 i2 i3 (0 : Int32) v6 v10 (i3.toInt8.toInt32) b12) [])) _
      refine XS.iload X12.here hx rfl (hb hby at_79) rfl ?_
      show Steps p.tables e below (T12.setTop (mkF m 81 (own_F5 n j i1 i2 i3 (0 : Int32) v6 v10 (i3.toInt8.toInt32) b12) [(.int v6)])) _
      refine XS.sipush X12.here hx rfl (hb hby at_81) ?_
      show Steps p.tables e below (T12.setTop (mkF m 84 (own_F5 n j i1 i2 i3 (0 : Int32) v6 v10 (i3.toInt8.toInt32) b12) [(.int (255 : Int32)), (.int v6)])) _
      refine XS.iand X12.here hx rfl (hb hby at_84) rfl ?_
      show Steps p.tables e below (T12.setTop (mkF m 85 (own_F5 n j i1 i2 i3 (0 : Int32) v6 v10 (i3.toInt8.toInt32) b12) [(.int (v6 &&& (255 : Int32)))])) _
      refine XS.bipush X12.here hx rfl (hb hby at_85) ?_
      show Steps p.tables e below (T12.setTop (mkF m 87 (own_F5 n j i1 i2 i3 (0 : Int32) v6 v10 (i3.toInt8.toInt32) b12) [(.int (8 : Int32)), (.int (v6 &&& (255 : Int32)))])) _
      refine XS.ishl X12.here hx rfl (hb hby at_87) rfl ?_
      show Steps p.tables e below (T12.setTop (mkF m 88 (own_F5 n j i1 i2 i3 (0 : Int32) v6 v10 (i3.toInt8.toInt32) b12) [(.int ((v6 &&& (255 : Int32)) <<< ((8 : Int32) &&& 31)))])) _
      refine XS.iload X12.here hx rfl (hb hby at_88) rfl ?_
      show Steps p.tables e below (T12.setTop (mkF m 90 (own_F5 n j i1 i2 i3 (0 : Int32) v6 v10 (i3.toInt8.toInt32) b12) [(.int v10), (.int ((v6 &&& (255 : Int32)) <<< ((8 : Int32) &&& 31)))])) _
      refine XS.sipush X12.here hx rfl (hb hby at_90) ?_
      show Steps p.tables e below (T12.setTop (mkF m 93 (own_F5 n j i1 i2 i3 (0 : Int32) v6 v10 (i3.toInt8.toInt32) b12) [(.int (255 : Int32)), (.int v10), (.int ((v6 &&& (255 : Int32)) <<< ((8 : Int32) &&& 31)))])) _
      refine XS.iand X12.here hx rfl (hb hby at_93) rfl ?_
      show Steps p.tables e below (T12.setTop (mkF m 94 (own_F5 n j i1 i2 i3 (0 : Int32) v6 v10 (i3.toInt8.toInt32) b12) [(.int (v10 &&& (255 : Int32))), (.int ((v6 &&& (255 : Int32)) <<< ((8 : Int32) &&& 31)))])) _
      refine XS.ior X12.here hx rfl (hb hby at_94) rfl ?_
      show Steps p.tables e below (T12.setTop (mkF m 95 (own_F5 n j i1 i2 i3 (0 : Int32) v6 v10 (i3.toInt8.toInt32) b12) [(.int (((v6 &&& (255 : Int32)) <<< ((8 : Int32) &&& 31)) ||| (v10 &&& (255 : Int32))))])) _
      refine XS.istore X12.here hx rfl (hb hby at_95) rfl (l' := (own_F6 n j i1 i2 i3 (0 : Int32) v6 v10 (i3.toInt8.toInt32) b12 (((v6 &&& (255 : Int32)) <<< ((8 : Int32) &&& 31)) ||| (v10 &&& (255 : Int32))))) rfl ?_
      show Steps p.tables e below (T12.setTop (mkF m 97 (own_F6 n j i1 i2 i3 (0 : Int32) v6 v10 (i3.toInt8.toInt32) b12 (((v6 &&& (255 : Int32)) <<< ((8 : Int32) &&& 31)) ||| (v10 &&& (255 : Int32)))) [])) _
      refine XS.iload X12.here hx rfl (hb hby at_97) rfl ?_
      show Steps p.tables e below (T12.setTop (mkF m 99 (own_F6 n j i1 i2 i3 (0 : Int32) v6 v10 (i3.toInt8.toInt32) b12 (((v6 &&& (255 : Int32)) <<< ((8 : Int32) &&& 31)) ||| (v10 &&& (255 : Int32)))) [(.int (0 : Int32))])) _
      refine XS.iconst X12.here hx rfl (hb hby at_99) ?_
      show Steps p.tables e below (T12.setTop (mkF m 100 (own_F6 n j i1 i2 i3 (0 : Int32) v6 v10 (i3.toInt8.toInt32) b12 (((v6 &&& (255 : Int32)) <<< ((8 : Int32) &&& 31)) ||| (v10 &&& (255 : Int32)))) [(.int (2 : Int32)), (.int (0 : Int32))])) _
      refine XS.icmpYes X12.here hx rfl (pc0 := 100) (pc' := 112) rfl (hb hby at_100) rfl (tlt ((by decide) : (0 : Int32) < (2 : Int32))).1 (by decide) (by decide) ?_
      show Steps p.tables e below (T12.setTop (mkF m 112 (own_F6 n j i1 i2 i3 (0 : Int32) v6 v10 (i3.toInt8.toInt32) b12 (((v6 &&& (255 : Int32)) <<< ((8 : Int32) &&& 31)) ||| (v10 &&& (255 : Int32)))) [])) _
      refine XS.iconst X12.here hx rfl (hb hby at_112) ?_
      show Steps p.tables e below (T12.setTop (mkF m 113 (own_F6 n j i1 i2 i3 (0 : Int32) v6 v10 (i3.toInt8.toInt32) b12 (((v6 &&& (255 : Int32)) <<< ((8 : Int32) &&& 31)) ||| (v10 &&& (255 : Int32)))) [(.int (0 : Int32))])) _
      refine XS.istore X12.here hx rfl (hb hby at_113) rfl (l' := (own_F7 n j i1 i2 i3 (0 : Int32) v6 v10 (i3.toInt8.toInt32) b12 (((v6 &&& (255 : Int32)) <<< ((8 : Int32) &&& 31)) ||| (v10 &&& (255 : Int32))) (0 : Int32))) rfl ?_
      show Steps p.tables e below (T12.setTop (mkF m 115 (own_F7 n j i1 i2 i3 (0 : Int32) v6 v10 (i3.toInt8.toInt32) b12 (((v6 &&& (255 : Int32)) <<< ((8 : Int32) &&& 31)) ||| (v10 &&& (255 : Int32))) (0 : Int32)) [])) _
      refine XS.iloadN X12.here hx rfl (hb hby at_115) rfl ?_
      show Steps p.tables e below (T12.setTop (mkF m 116 (own_F7 n j i1 i2 i3 (0 : Int32) v6 v10 (i3.toInt8.toInt32) b12 (((v6 &&& (255 : Int32)) <<< ((8 : Int32) &&& 31)) ||| (v10 &&& (255 : Int32))) (0 : Int32)) [(.int j)])) _
      refine XS.iconst X12.here hx rfl (hb hby at_116) ?_
      show Steps p.tables e below (T12.setTop (mkF m 117 (own_F7 n j i1 i2 i3 (0 : Int32) v6 v10 (i3.toInt8.toInt32) b12 (((v6 &&& (255 : Int32)) <<< ((8 : Int32) &&& 31)) ||| (v10 &&& (255 : Int32))) (0 : Int32)) [(.int (2 : Int32)), (.int j)])) _
      refine XS.iushr X12.here hx rfl (hb hby at_117) rfl ?_
      show Steps p.tables e below (T12.setTop (mkF m 118 (own_F7 n j i1 i2 i3 (0 : Int32) v6 v10 (i3.toInt8.toInt32) b12 (((v6 &&& (255 : Int32)) <<< ((8 : Int32) &&& 31)) ||| (v10 &&& (255 : Int32))) (0 : Int32)) [(.int ((j.toUInt32 >>> ((2 : Int32) &&& 31).toUInt32).toInt32))])) _
      refine XS.bipush X12.here hx rfl (hb hby at_118) ?_
      show Steps p.tables e below (T12.setTop (mkF m 120 (own_F7 n j i1 i2 i3 (0 : Int32) v6 v10 (i3.toInt8.toInt32) b12 (((v6 &&& (255 : Int32)) <<< ((8 : Int32) &&& 31)) ||| (v10 &&& (255 : Int32))) (0 : Int32)) [(.int (7 : Int32)), (.int ((j.toUInt32 >>> ((2 : Int32) &&& 31).toUInt32).toInt32))])) _
      refine XS.iand X12.here hx rfl (hb hby at_120) rfl ?_
      show Steps p.tables e below (T12.setTop (mkF m 121 (own_F7 n j i1 i2 i3 (0 : Int32) v6 v10 (i3.toInt8.toInt32) b12 (((v6 &&& (255 : Int32)) <<< ((8 : Int32) &&& 31)) ||| (v10 &&& (255 : Int32))) (0 : Int32)) [(.int (((j.toUInt32 >>> ((2 : Int32) &&& 31).toUInt32).toInt32) &&& (7 : Int32)))])) _
      refine st13 _ ?_
      show Steps p.tables e below (T13.setTop (mkF m 124 (own_F7 n j i1 i2 i3 (0 : Int32) v6 v10 (i3.toInt8.toInt32) b12 (((v6 &&& (255 : Int32)) <<< ((8 : Int32) &&& 31)) ||| (v10 &&& (255 : Int32))) (0 : Int32)) [(.ref z_13)])) _
      refine st14 _ ?_
      show Steps p.tables e below (T14.setTop (mkF m 127 (own_F7 n j i1 i2 i3 (0 : Int32) v6 v10 (i3.toInt8.toInt32) b12 (((v6 &&& (255 : Int32)) <<< ((8 : Int32) &&& 31)) ||| (v10 &&& (255 : Int32))) (0 : Int32)) [(.int (1 : Int32))])) _
      refine XS.istore X14.here hx rfl (hb hby at_127) rfl (l' := (own_F8 n j i1 i2 i3 (0 : Int32) v6 v10 (i3.toInt8.toInt32) b12 (((v6 &&& (255 : Int32)) <<< ((8 : Int32) &&& 31)) ||| (v10 &&& (255 : Int32))) (0 : Int32) (1 : Int32))) rfl ?_
      show Steps p.tables e below (T14.setTop (mkF m 129 (own_F8 n j i1 i2 i3 (0 : Int32) v6 v10 (i3.toInt8.toInt32) b12 (((v6 &&& (255 : Int32)) <<< ((8 : Int32) &&& 31)) ||| (v10 &&& (255 : Int32))) (0 : Int32) (1 : Int32)) [])) _
      refine XS.aload X14.here hx rfl (hb hby at_129) rfl rfl ?_
      show Steps p.tables e below (T14.setTop (mkF m 131 (own_F8 n j i1 i2 i3 (0 : Int32) v6 v10 (i3.toInt8.toInt32) b12 (((v6 &&& (255 : Int32)) <<< ((8 : Int32) &&& 31)) ||| (v10 &&& (255 : Int32))) (0 : Int32) (1 : Int32)) [(.ref b12)])) _
      refine st15 _ ?_
      show Steps p.tables e below (T15.setTop (mkF m 134 (own_F8 n j i1 i2 i3 (0 : Int32) v6 v10 (i3.toInt8.toInt32) b12 (((v6 &&& (255 : Int32)) <<< ((8 : Int32) &&& 31)) ||| (v10 &&& (255 : Int32))) (0 : Int32) (1 : Int32)) [(.int (0 : Int32))])) _
      refine XS.iload X15.here hx rfl (hb hby at_134) rfl ?_
      show Steps p.tables e below (T15.setTop (mkF m 136 (own_F8 n j i1 i2 i3 (0 : Int32) v6 v10 (i3.toInt8.toInt32) b12 (((v6 &&& (255 : Int32)) <<< ((8 : Int32) &&& 31)) ||| (v10 &&& (255 : Int32))) (0 : Int32) (1 : Int32)) [(.int (0 : Int32)), (.int (0 : Int32))])) _
      refine XS.icmpNo X15.here hx rfl (hb hby at_136) rfl (teq (rfl : (0 : Int32) = (0 : Int32))).2 ?_
      show Steps p.tables e below (T15.setTop (mkF m 139 (own_F8 n j i1 i2 i3 (0 : Int32) v6 v10 (i3.toInt8.toInt32) b12 (((v6 &&& (255 : Int32)) <<< ((8 : Int32) &&& 31)) ||| (v10 &&& (255 : Int32))) (0 : Int32) (1 : Int32)) [])) _
      refine XS.iload X15.here hx rfl (hb hby at_139) rfl ?_
      show Steps p.tables e below (T15.setTop (mkF m 141 (own_F8 n j i1 i2 i3 (0 : Int32) v6 v10 (i3.toInt8.toInt32) b12 (((v6 &&& (255 : Int32)) <<< ((8 : Int32) &&& 31)) ||| (v10 &&& (255 : Int32))) (0 : Int32) (1 : Int32)) [(.int (1 : Int32))])) _
      refine XS.ifNo X15.here hx rfl (hb hby at_141) rfl ((if0 _ _).trans (feq ((by decide) : ¬ ((1 : Int32) = (0 : Int32)))).1) ?_
      show Steps p.tables e below (T15.setTop (mkF m 144 (own_F8 n j i1 i2 i3 (0 : Int32) v6 v10 (i3.toInt8.toInt32) b12 (((v6 &&& (255 : Int32)) <<< ((8 : Int32) &&& 31)) ||| (v10 &&& (255 : Int32))) (0 : Int32) (1 : Int32)) [])) _
      refine XS.iconst X15.here hx rfl (hb hby at_144) ?_
      show Steps p.tables e below (T15.setTop (mkF m 145 (own_F8 n j i1 i2 i3 (0 : Int32) v6 v10 (i3.toInt8.toInt32) b12 (((v6 &&& (255 : Int32)) <<< ((8 : Int32) &&& 31)) ||| (v10 &&& (255 : Int32))) (0 : Int32) (1 : Int32)) [(.int (1 : Int32))])) _
      refine XS.goto X15.here hx rfl (pc0 := 145) (pc' := 149) rfl (hb hby at_145) (by decide) (by decide) ?_
      show Steps p.tables e below (T15.setTop (mkF m 149 (own_F8 n j i1 i2 i3 (0 : Int32) v6 v10 (i3.toInt8.toInt32) b12 (((v6 &&& (255 : Int32)) <<< ((8 : Int32) &&& 31)) ||| (v10 &&& (255 : Int32))) (0 : Int32) (1 : Int32)) [(.int (1 : Int32))])) _
      exact k
    obtain ⟨fs, hr, hrun, hended, hW, hsame⟩ := X15.leave (v := some (.int (1 : Int32))) (fun h => by rw [Bd.returns] at h; cases h)
    refine ⟨_, _, w16 _ ?_, hrun, hended, _, _, rfl, ?_, ⟨_, rfl⟩, hW, hsame.mono (by decide) (by decide)⟩
    · exact retN X15 hx (t := .boolean) Bd.returns (by simp) (hb hby at_149) hr
    · show Q0 Z n j i1 i2 i3  h0 n0 _ T15.heap _
      rw [eh15]
      exact ⟨rfl, N15⟩
  · have w17 : ∀ t, Steps p.tables e below (s₁.setTop (mkF m 5 (own_F1 n j i1 i2 i3 (1 : Int32)) [])) t → Steps p.tables e below (s₁.setTop (entryFrame m #[(.int n), (.int j), (.int i1), (.int i2), (.int i3)] maxLocals)) t := by
      have q := w1
      simp only [hk2] at q
      exact q
    have w18 : ∀ t, Steps p.tables e below (s₁.setTop (mkF m 8 (own_F1 n j i1 i2 i3 (1 : Int32)) [(.int (j &&& (1 : Int32)))])) t → Steps p.tables e below (s₁.setTop (entryFrame m #[(.int n), (.int j), (.int i1), (.int i2), (.int i3)] maxLocals)) t := fun t k => by
      refine w17 t ?_
      refine XS.iloadN X0.here hx rfl (hb hby at_5) rfl ?_
      show Steps p.tables e below (s₁.setTop (mkF m 6 (own_F1 n j i1 i2 i3 (1 : Int32)) [(.int j)])) _
      refine XS.iconst X0.here hx rfl (hb hby at_6) ?_
      show Steps p.tables e below (s₁.setTop (mkF m 7 (own_F1 n j i1 i2 i3 (1 : Int32)) [(.int (1 : Int32)), (.int j)])) _
      refine XS.iand X0.here hx rfl (hb hby at_7) rfl ?_
      show Steps p.tables e below (s₁.setTop (mkF m 8 (own_F1 n j i1 i2 i3 (1 : Int32)) [(.int (j &&& (1 : Int32)))])) _
      exact k
    obtain ⟨v20, hv20⟩ : ∃ v : Int32, v = (if (j &&& (1 : Int32)) = (0 : Int32) then (i1.toInt8.toInt32) else (0 : Int32)) := ⟨_, rfl⟩
    have w21 : ∀ t, Steps p.tables e below (s₁.setTop (mkF m 17 (own_F1 n j i1 i2 i3 (1 : Int32)) [(.int v20)])) t → Steps p.tables e below (s₁.setTop (entryFrame m #[(.int n), (.int j), (.int i1), (.int i2), (.int i3)] maxLocals)) t := fun t k => by
      refine w18 t ?_
      show Steps p.tables e below (s₁.setTop (mkF m 8 (own_F1 n j i1 i2 i3 (1 : Int32)) [(.int (j &&& (1 : Int32)))])) _
      by_cases hm19 : (j &&& (1 : Int32)) = (0 : Int32)
      · refine XS.ifYes X0.here hx rfl (pc0 := 8) (pc' := 15) rfl (hb hby at_8) rfl ((if0 _ _).trans (teq hm19).1) (by decide) (by decide) ?_
        show Steps p.tables e below (s₁.setTop (mkF m 15 (own_F1 n j i1 i2 i3 (1 : Int32)) [])) _
        refine XS.iloadN X0.here hx rfl (hb hby at_15) rfl ?_
        show Steps p.tables e below (s₁.setTop (mkF m 16 (own_F1 n j i1 i2 i3 (1 : Int32)) [(.int i1)])) _
        refine XS.i2b X0.here hx rfl (hb hby at_16) rfl ?_
        show Steps p.tables e below (s₁.setTop (mkF m 17 (own_F1 n j i1 i2 i3 (1 : Int32)) [(.int (i1.toInt8.toInt32))])) _
        rw [show v20 = (i1.toInt8.toInt32) from by rw [hv20]; simp only [if_pos hm19]] at k
        exact k
      · refine XS.ifNo X0.here hx rfl (hb hby at_8) rfl ((if0 _ _).trans (feq hm19).1) ?_
        show Steps p.tables e below (s₁.setTop (mkF m 11 (own_F1 n j i1 i2 i3 (1 : Int32)) [])) _
        refine XS.iconst X0.here hx rfl (hb hby at_11) ?_
        show Steps p.tables e below (s₁.setTop (mkF m 12 (own_F1 n j i1 i2 i3 (1 : Int32)) [(.int (0 : Int32))])) _
        refine XS.goto X0.here hx rfl (pc0 := 12) (pc' := 17) rfl (hb hby at_12) (by decide) (by decide) ?_
        show Steps p.tables e below (s₁.setTop (mkF m 17 (own_F1 n j i1 i2 i3 (1 : Int32)) [(.int (0 : Int32))])) _
        rw [show v20 = (0 : Int32) from by rw [hv20]; simp only [if_neg hm19]] at k
        exact k
    have w22 : ∀ t, Steps p.tables e below (s₁.setTop (mkF m 22 (own_F2 n j i1 i2 i3 (1 : Int32) v20) [(.int (j &&& (2 : Int32)))])) t → Steps p.tables e below (s₁.setTop (entryFrame m #[(.int n), (.int j), (.int i1), (.int i2), (.int i3)] maxLocals)) t := fun t k => by
      refine w21 t ?_
      refine XS.istore X0.here hx rfl (hb hby at_17) rfl (l' := (own_F2 n j i1 i2 i3 (1 : Int32) v20)) rfl ?_
      show Steps p.tables e below (s₁.setTop (mkF m 19 (own_F2 n j i1 i2 i3 (1 : Int32) v20) [])) _
      refine XS.iloadN X0.here hx rfl (hb hby at_19) rfl ?_
      show Steps p.tables e below (s₁.setTop (mkF m 20 (own_F2 n j i1 i2 i3 (1 : Int32) v20) [(.int j)])) _
      refine XS.iconst X0.here hx rfl (hb hby at_20) ?_
      show Steps p.tables e below (s₁.setTop (mkF m 21 (own_F2 n j i1 i2 i3 (1 : Int32) v20) [(.int (2 : Int32)), (.int j)])) _
      refine XS.iand X0.here hx rfl (hb hby at_21) rfl ?_
      show Steps p.tables e below (s₁.setTop (mkF m 22 (own_F2 n j i1 i2 i3 (1 : Int32) v20) [(.int (j &&& (2 : Int32)))])) _
      exact k
    obtain ⟨v24, hv24⟩ : ∃ v : Int32, v = (if (j &&& (2 : Int32)) = (0 : Int32) then (i2.toInt8.toInt32) else (0 : Int32)) := ⟨_, rfl⟩
    have w25 : ∀ t, Steps p.tables e below (s₁.setTop (mkF m 31 (own_F2 n j i1 i2 i3 (1 : Int32) v20) [(.int v24)])) t → Steps p.tables e below (s₁.setTop (entryFrame m #[(.int n), (.int j), (.int i1), (.int i2), (.int i3)] maxLocals)) t := fun t k => by
      refine w22 t ?_
      show Steps p.tables e below (s₁.setTop (mkF m 22 (own_F2 n j i1 i2 i3 (1 : Int32) v20) [(.int (j &&& (2 : Int32)))])) _
      by_cases hm23 : (j &&& (2 : Int32)) = (0 : Int32)
      · refine XS.ifYes X0.here hx rfl (pc0 := 22) (pc' := 29) rfl (hb hby at_22) rfl ((if0 _ _).trans (teq hm23).1) (by decide) (by decide) ?_
        show Steps p.tables e below (s₁.setTop (mkF m 29 (own_F2 n j i1 i2 i3 (1 : Int32) v20) [])) _
        refine XS.iloadN X0.here hx rfl (hb hby at_29) rfl ?_
        show Steps p.tables e below (s₁.setTop (mkF m 30 (own_F2 n j i1 i2 i3 (1 : Int32) v20) [(.int i2)])) _
        refine XS.i2b X0.here hx rfl (hb hby at_30) rfl ?_
        show Steps p.tables e below (s₁.setTop (mkF m 31 (own_F2 n j i1 i2 i3 (1 : Int32) v20) [(.int (i2.toInt8.toInt32))])) _
        rw [show v24 = (i2.toInt8.toInt32) from by rw [hv24]; simp only [if_pos hm23]] at k
        exact k
      · refine XS.ifNo X0.here hx rfl (hb hby at_22) rfl ((if0 _ _).trans (feq hm23).1) ?_
        show Steps p.tables e below (s₁.setTop (mkF m 25 (own_F2 n j i1 i2 i3 (1 : Int32) v20) [])) _
        refine XS.iconst X0.here hx rfl (hb hby at_25) ?_
        show Steps p.tables e below (s₁.setTop (mkF m 26 (own_F2 n j i1 i2 i3 (1 : Int32) v20) [(.int (0 : Int32))])) _
        refine XS.goto X0.here hx rfl (pc0 := 26) (pc' := 31) rfl (hb hby at_26) (by decide) (by decide) ?_
        show Steps p.tables e below (s₁.setTop (mkF m 31 (own_F2 n j i1 i2 i3 (1 : Int32) v20) [(.int (0 : Int32))])) _
        rw [show v24 = (0 : Int32) from by rw [hv24]; simp only [if_neg hm23]] at k
        exact k
    obtain ⟨T26, h26, k26, X26, e26, E26, A26, st26⟩ := newP X0 hx hZ (hw _ (List.mem_of_getElem? (i := 0) rfl)) e0 (g := (mkF m 40 (own_F4 n j i1 i2 i3 (1 : Int32) v20 v24 (i3.toInt8.toInt32)) [(.int (1 : Int32))])) rfl (hb hby at_40) rfl (by decide) (cap := 1) (by decide) (by decide) (by decide) (by decide)
    obtain ⟨b26, gq26⟩ : ∃ z, z = Array.size h0 := ⟨_, rfl⟩
    rw [← gq26] at A26 st26
    have g_b26 : n0 ≤ b26 := Nat.le_trans (O.1 ▸ O.2.1) (Nat.le_of_eq gq26.symm)
    have O := O.ext E26
    have V_b26 : Arv Z h26 b26 k26 .byte (1 : Int32) [(.int (0 : Int32))] (.int (0 : Int32)) := (Arv.new A26 (by decide)).pad (pad_rep [] (.int (0 : Int32)) 1)
    obtain ⟨cl27, Ar27, q27, Z27, N27, H27, G27⟩ := id V_b26
    have hin27 : ¬ ((0 : Int32) < 0 ∨ cl27.slots.size ≤ ((0 : Int32)).toNatClampNeg) := inb_of Z27 ⟨by decide, by decide⟩
    obtain ⟨T28, h28, X28, e28, W28, st28⟩ := stB X26 hx hZ e26 Ar27 (j := (0 : Int32)) hin27 (g := (mkF m 54 (own_F5 n j i1 i2 i3 (1 : Int32) v20 v24 (i3.toInt8.toInt32) b26) [(.int v20), (.int (0 : Int32)), (.ref b26)])) rfl rfl (hb hby at_54)
    have V_b26 : Arv Z h28 b26 k26 .byte (1 : Int32) [(.int (v20.toInt8.toInt32))] (.int (0 : Int32)) := Arv.set Ar27 q27 Z27 N27 H27 G27 (fits_nar_byte _) W28 0 rfl (Nat.le_of_ble_eq_true rfl)
    have O := O.wr W28 g_b26
    have N28 := Fr.snoc X28 N0 g_b26
    have lt29_b26 := V_b26.lt
    obtain ⟨_, _, ⟨T29, L29, k29, n29⟩, -, X29, ⟨Lc29, hQ29, l29, y29, z29⟩, st29⟩ := Jvm.LawKit.callS X28 hx (y := (⟨"com/example/hashmesh/hashmesh/wire/Packet", "encodeWithoutJson", "(I)[B"⟩ : MethodName)) hown (mvT hZ (hw _ (List.mem_of_getElem? (i := 1) rfl))) (mvT hZ (hw _ (List.mem_of_getElem? (i := 2) rfl))) (mvT hZ (hw _ (List.mem_of_getElem? (i := 3) rfl))) (mvT hZ (hw _ (List.mem_of_getElem? (i := 4) rfl))) (by decide) (backOf (W := 0) (rm1 l Z a0 hw [] (((j.toUInt32 >>> ((2 : Int32) &&& 31).toUInt32).toInt32) &&& (7 : Int32)) h28 n0 O (own_len _).1 (own_len _).2.1) hZ (hw _ (List.mem_of_getElem? (i := 4) rfl)) (hw _ (List.mem_of_getElem? (i := 3) rfl)) (by decide) (by decide)) (g := (mkF m 121 (own_F7 n j i1 i2 i3 (1 : Int32) v20 v24 (i3.toInt8.toInt32) b26 (((v20 &&& (255 : Int32)) <<< ((8 : Int32) &&& 31)) ||| (v24 &&& (255 : Int32))) (0 : Int32)) [(.int (((j.toUInt32 >>> ((2 : Int32) &&& 31).toUInt32).toInt32) &&& (7 : Int32)))])) rfl (by rw [hml]; rfl) (argsL := [(.int (((j.toUInt32 >>> ((2 : Int32) &&& 31).toUInt32).toInt32) &&& (7 : Int32)))]) (rest := []) (lenOf pd__40I_41_91B rfl) rfl (by show 2 * 0 + _ ≤ _; exact Nat.le_of_eq rfl) (hb hby at_121) (fun _ _ => ⟨rfl, e28, (by decide : 1 + 1 ≤ _), (by decide : 1 + 9 ≤ _)⟩)
    dsimp only [Pt.U, Pt.locs, Pt.cells, Pt.slots] at X29 l29 y29 z29 st29 hQ29
    subst l29 y29 z29
    obtain ⟨z_29, kz_29, rfl, N29q, K29, V_z_c29, gz_29, gn_29⟩ := hQ29
    have N29 := Fr.app N28 N29q
    have V_b26 := V_b26.keep K29 nin0
    have ne_b26_z_29 : b26 ≠ z_29 := Nat.ne_of_lt (Nat.lt_of_lt_of_le lt29_b26 gz_29)
    have g_z_29 := gn_29
    have O := O.keep K29 all0
    obtain ⟨_, _, ⟨T30, L30, k30, n30⟩, -, X30, ⟨Lc30, hQ30, l30, y30, z30⟩, st30⟩ := Jvm.LawKit.callS X29 hx (y := (⟨"com/example/hashmesh/hashmesh/wire/Packet", "isWithoutJson", "([B)Z"⟩ : MethodName)) hown (mvT hZ (hw _ (List.mem_of_getElem? (i := 5) rfl))) (mvT hZ (hw _ (List.mem_of_getElem? (i := 6) rfl))) (mvT hZ (hw _ (List.mem_of_getElem? (i := 3) rfl))) (mvT hZ (hw _ (List.mem_of_getElem? (i := 7) rfl))) (by decide) (backOf (W := 0) (rm2_f l Z a0 hw [] z_29 kz_29 ((2 : Int32) + (((j.toUInt32 >>> ((2 : Int32) &&& 31).toUInt32).toInt32) &&& (7 : Int32))) T29.heap n0 O V_z_c29 (own_len _).2.2) hZ (hw _ (List.mem_of_getElem? (i := 7) rfl)) (hw _ (List.mem_of_getElem? (i := 3) rfl)) (by decide) (by decide)) (g := (mkF m 124 (own_F7 n j i1 i2 i3 (1 : Int32) v20 v24 (i3.toInt8.toInt32) b26 (((v20 &&& (255 : Int32)) <<< ((8 : Int32) &&& 31)) ||| (v24 &&& (255 : Int32))) (0 : Int32)) [(.ref z_29)])) rfl (by rw [hml]; rfl) (argsL := [(.ref z_29)]) (rest := []) (lenOf pd__40_91B_41Z rfl) rfl (by show 2 * 0 + _ ≤ _; exact Nat.le_of_eq rfl) (hb hby at_124) (fun _ _ => ⟨rfl, rfl, (by decide : 2 + 0 ≤ _), (by decide : 10 + 0 ≤ _)⟩)
    dsimp only [Pt.U, Pt.locs, Pt.cells, Pt.slots] at X30 l30 y30 z30 st30 hQ30
    subst l30 y30 z30
    obtain ⟨rfl, N30q, eh30⟩ := hQ30
    have N30 := Fr.app N29 N30q
    obtain ⟨_, _, ⟨T31, L31, k31, n31⟩, -, X31, ⟨Lc31, hQ31, l31, y31, z31⟩, st31⟩ := Jvm.LawKit.callS X30 hx (y := (⟨"com/example/hashmesh/hashmesh/wire/Packet", "isWithoutJson", "([B)Z"⟩ : MethodName)) hown (mvT hZ (hw _ (List.mem_of_getElem? (i := 5) rfl))) (mvT hZ (hw _ (List.mem_of_getElem? (i := 6) rfl))) (mvT hZ (hw _ (List.mem_of_getElem? (i := 3) rfl))) (mvT hZ (hw _ (List.mem_of_getElem? (i := 7) rfl))) (by decide) (backOf (W := 0) (rm2_1 l Z a0 hw [] b26 k26 (v20.toInt8.toInt32) T29.heap n0 O V_b26) hZ (hw _ (List.mem_of_getElem? (i := 7) rfl)) (hw _ (List.mem_of_getElem? (i := 3) rfl)) (by decide) (by decide)) (g := (mkF m 131 (own_F8 n j i1 i2 i3 (1 : Int32) v20 v24 (i3.toInt8.toInt32) b26 (((v20 &&& (255 : Int32)) <<< ((8 : Int32) &&& 31)) ||| (v24 &&& (255 : Int32))) (0 : Int32) (1 : Int32)) [(.ref b26)])) rfl (by rw [hml]; rfl) (argsL := [(.ref b26)]) (rest := []) (lenOf pd__40_91B_41Z rfl) rfl (by show 2 * 0 + _ ≤ _; exact Nat.le_of_eq rfl) (hb hby at_131) (fun _ _ => ⟨rfl, eh30, (by decide : 2 + 0 ≤ _), (by decide : 10 + 0 ≤ _)⟩)
    dsimp only [Pt.U, Pt.locs, Pt.cells, Pt.slots] at X31 l31 y31 z31 st31 hQ31
    subst l31 y31 z31
    obtain ⟨rfl, N31q, eh31⟩ := hQ31
    have N31 := Fr.app N30 N31q
    have w32 : ∀ t, Steps p.tables e below (T31.setTop (mkF m 149 (own_F8 n j i1 i2 i3 (1 : Int32) v20 v24 (i3.toInt8.toInt32) b26 (((v20 &&& (255 : Int32)) <<< ((8 : Int32) &&& 31)) ||| (v24 &&& (255 : Int32))) (0 : Int32) (1 : Int32)) [(.int (1 : Int32))])) t → Steps p.tables e below (s₁.setTop (entryFrame m #[(.int n), (.int j), (.int i1), (.int i2), (.int i3)] maxLocals)) t := fun t k => by
      refine w25 t ?_
      refine XS.istore X0.here hx rfl (hb hby at_31) rfl (l' := (own_F3 n j i1 i2 i3 (1 : Int32) v20 v24)) rfl ?_
      show Steps p.tables e below (s₁.setTop (mkF m 33 (own_F3 n j i1 i2 i3 (1 : Int32) v20 v24) [])) _
      refine XS.iload X0.here hx rfl (hb hby at_33) rfl ?_
      show Steps p.tables e below (s₁.setTop (mkF m 35 (own_F3 n j i1 i2 i3 (1 : Int32) v20 v24) [(.int i3)])) _
      refine XS.i2b X0.here hx rfl (hb hby at_35) rfl ?_
      show Steps p.tables e below (s₁.setTop (mkF m 36 (own_F3 n j i1 i2 i3 (1 : Int32) v20 v24) [(.int (i3.toInt8.toInt32))])) _
      refine XS.istore X0.here hx rfl (hb hby at_36) rfl (l' := (own_F4 n j i1 i2 i3 (1 : Int32) v20 v24 (i3.toInt8.toInt32))) rfl ?_
      show Steps p.tables e below (s₁.setTop (mkF m 38 (own_F4 n j i1 i2 i3 (1 : Int32) v20 v24 (i3.toInt8.toInt32)) [])) _
      refine XS.iload X0.here hx rfl (hb hby at_38) rfl ?_
      show Steps p.tables e below (s₁.setTop (mkF m 40 (own_F4 n j i1 i2 i3 (1 : Int32) v20 v24 (i3.toInt8.toInt32)) [(.int (1 : Int32))])) _
      refine st26 _ ?_
      show Steps p.tables e below (T26.setTop (mkF m 42 (own_F4 n j i1 i2 i3 (1 : Int32) v20 v24 (i3.toInt8.toInt32)) [(.ref b26)])) _
      refine XS.astore X26.here hx rfl (hb hby at_42) rfl rfl (l' := (own_F5 n j i1 i2 i3 (1 : Int32) v20 v24 (i3.toInt8.toInt32) b26)) rfl ?_
      show Steps p.tables e below (T26.setTop (mkF m 44 (own_F5 n j i1 i2 i3 (1 : Int32) v20 v24 (i3.toInt8.toInt32) b26) [])) _
      refine XS.iload X26.here hx rfl (hb hby at_44) rfl ?_
      show Steps p.tables e below (T26.setTop (mkF m 46 (own_F5 n j i1 i2 i3 (1 : Int32) v20 v24 (i3.toInt8.toInt32) b26) [(.int (1 : Int32))])) _
      refine XS.ifNo X26.here hx rfl (hb hby at_46) rfl ((if0 _ _).trans (tlt ((by decide) : (0 : Int32) < (1 : Int32))).2.2.2) ?_
      show Steps p.tables e below (T26.setTop (mkF m 49 (own_F5 n j i1 i2 i3 (1 : Int32) v20 v24 (i3.toInt8.toInt32) b26) [])) _
      refine XS.aload X26.here hx rfl (hb hby at_49) rfl rfl ?_
      show Steps p.tables e below (T26.setTop (mkF m 51 (own_F5 n j i1 i2 i3 (1 : Int32) v20 v24 (i3.toInt8.toInt32) b26) [(.ref b26)])) _
      refine XS.iconst X26.here hx rfl (hb hby at_51) ?_
      show Steps p.tables e below (T26.setTop (mkF m 52 (own_F5 n j i1 i2 i3 (1 : Int32) v20 v24 (i3.toInt8.toInt32) b26) [(.int (0 : Int32)), (.ref b26)])) _
      refine XS.iload X26.here hx rfl (hb hby at_52) rfl ?_
      show Steps p.tables e below (T26.setTop (mkF m 54 (own_F5 n j i1 i2 i3 (1 : Int32) v20 v24 (i3.toInt8.toInt32) b26) [(.int v20), (.int (0 : Int32)), (.ref b26)])) _
      refine st28 _ ?_
      show Steps p.tables e below (T28.setTop (mkF m 55 (own_F5 n j i1 i2 i3 (1 : Int32) v20 v24 (i3.toInt8.toInt32) b26) [])) _
      refine XS.iload X28.here hx rfl (hb hby at_55) rfl ?_
      show Steps p.tables e below (T28.setTop (mkF m 57 (own_F5 n j i1 i2 i3 (1 : Int32) v20 v24 (i3.toInt8.toInt32) b26) [(.int (1 : Int32))])) _
      refine XS.iconst X28.here hx rfl (hb hby at_57) ?_
      show Steps p.tables e below (T28.setTop (mkF m 58 (own_F5 n j i1 i2 i3 (1 : Int32) v20 v24 (i3.toInt8.toInt32) b26) [(.int (1 : Int32)), (.int (1 : Int32))])) _
      refine XS.icmpYes X28.here hx rfl (pc0 := 58) (pc' := 67) rfl (hb hby at_58) rfl (flt ((by decide) : ¬ ((1 : Int32) < (1 : Int32)))).2.2.2 (by decide) (by decide) ?_
      show Steps p.tables e below (T28.setTop (mkF m 67 (own_F5 n j i1 i2 i3 (1 : Int32) v20 v24 (i3.toInt8.toInt32) b26) [])) _
      refine XS.iload X28.here hx rfl (hb hby at_67) rfl ?_
      show Steps p.tables e below (T28.setTop (mkF m 69 (own_F5 n j i1 i2 i3 (1 : Int32) v20 v24 (i3.toInt8.toInt32) b26) [(.int (1 : Int32))])) _
      refine XS.iconst X28.here hx rfl (hb hby at_69) ?_
      show Steps p.tables e below (T28.setTop (mkF m 70 (own_F5 n j i1 i2 i3 (1 : Int32) v20 v24 (i3.toInt8.toInt32) b26) [(.int (2 : Int32)), (.int (1 : Int32))])) _
      refine XS.icmpYes X28.here hx rfl (pc0 := 70) (pc' := 79) rfl (hb hby at_70) rfl (flt ((by decide) : ¬ ((2 : Int32) < (1 : Int32)))).2.2.2 (by decide) (by decide) ?_
      show Steps p.tables e below (T28.setTop (mkF m 79 (own_F5 n j i1 i2 i3 (1 : Int32) v20 v24 (i3.toInt8.toInt32) b26) [])) _
      refine XS.iload X28.here hx rfl (hb hby at_79) rfl ?_
      show Steps p.tables e below (T28.setTop (mkF m 81 (own_F5 n j i1 i2 i3 (1 : Int32) v20 v24 (i3.toInt8.toInt32) b26) [(.int v20)])) _
      refine XS.sipush X28.here hx rfl (hb hby at_81) ?_
      show Steps p.tables e below (T28.setTop (mkF m 84 (own_F5 n j i1 i2 i3 (1 : Int32) v20 v24 (i3.toInt8.toInt32) b26) [(.int (255 : Int32)), (.int v20)])) _
      refine XS.iand X28.here hx rfl (hb hby at_84) rfl ?_
      show Steps p.tables e below (T28.setTop (mkF m 85 (own_F5 n j i1 i2 i3 (1 : Int32) v20 v24 (i3.toInt8.toInt32) b26) [(.int (v20 &&& (255 : Int32)))])) _
      refine XS.bipush X28.here hx rfl (hb hby at_85) ?_
      show Steps p.tables e below (T28.setTop (mkF m 87 (own_F5 n j i1 i2 i3 (1 : Int32) v20 v24 (i3.toInt8.toInt32) b26) [(.int (8 : Int32)), (.int (v20 &&& (255 : Int32)))])) _
      refine XS.ishl X28.here hx rfl (hb hby at_87) rfl ?_
      show Steps p.tables e below (T28.setTop (mkF m 88 (own_F5 n j i1 i2 i3 (1 : Int32) v20 v24 (i3.toInt8.toInt32) b26) [(.int ((v20 &&& (255 : Int32)) <<< ((8 : Int32) &&& 31)))])) _
      refine XS.iload X28.here hx rfl (hb hby at_88) rfl ?_
      show Steps p.tables e below (T28.setTop (mkF m 90 (own_F5 n j i1 i2 i3 (1 : Int32) v20 v24 (i3.toInt8.toInt32) b26) [(.int v24), (.int ((v20 &&& (255 : Int32)) <<< ((8 : Int32) &&& 31)))])) _
      refine XS.sipush X28.here hx rfl (hb hby at_90) ?_
      show Steps p.tables e below (T28.setTop (mkF m 93 (own_F5 n j i1 i2 i3 (1 : Int32) v20 v24 (i3.toInt8.toInt32) b26) [(.int (255 : Int32)), (.int v24), (.int ((v20 &&& (255 : Int32)) <<< ((8 : Int32) &&& 31)))])) _
      refine XS.iand X28.here hx rfl (hb hby at_93) rfl ?_
      show Steps p.tables e below (T28.setTop (mkF m 94 (own_F5 n j i1 i2 i3 (1 : Int32) v20 v24 (i3.toInt8.toInt32) b26) [(.int (v24 &&& (255 : Int32))), (.int ((v20 &&& (255 : Int32)) <<< ((8 : Int32) &&& 31)))])) _
      refine XS.ior X28.here hx rfl (hb hby at_94) rfl ?_
      show Steps p.tables e below (T28.setTop (mkF m 95 (own_F5 n j i1 i2 i3 (1 : Int32) v20 v24 (i3.toInt8.toInt32) b26) [(.int (((v20 &&& (255 : Int32)) <<< ((8 : Int32) &&& 31)) ||| (v24 &&& (255 : Int32))))])) _
      refine XS.istore X28.here hx rfl (hb hby at_95) rfl (l' := (own_F6 n j i1 i2 i3 (1 : Int32) v20 v24 (i3.toInt8.toInt32) b26 (((v20 &&& (255 : Int32)) <<< ((8 : Int32) &&& 31)) ||| (v24 &&& (255 : Int32))))) rfl ?_
      show Steps p.tables e below (T28.setTop (mkF m 97 (own_F6 n j i1 i2 i3 (1 : Int32) v20 v24 (i3.toInt8.toInt32) b26 (((v20 &&& (255 : Int32)) <<< ((8 : Int32) &&& 31)) ||| (v24 &&& (255 : Int32)))) [])) _
      refine XS.iload X28.here hx rfl (hb hby at_97) rfl ?_
      show Steps p.tables e below (T28.setTop (mkF m 99 (own_F6 n j i1 i2 i3 (1 : Int32) v20 v24 (i3.toInt8.toInt32) b26 (((v20 &&& (255 : Int32)) <<< ((8 : Int32) &&& 31)) ||| (v24 &&& (255 : Int32)))) [(.int (1 : Int32))])) _
      refine XS.iconst X28.here hx rfl (hb hby at_99) ?_
      show Steps p.tables e below (T28.setTop (mkF m 100 (own_F6 n j i1 i2 i3 (1 : Int32) v20 v24 (i3.toInt8.toInt32) b26 (((v20 &&& (255 : Int32)) <<< ((8 : Int32) &&& 31)) ||| (v24 &&& (255 : Int32)))) [(.int (2 : Int32)), (.int (1 : Int32))])) _
      refine XS.icmpYes X28.here hx rfl (pc0 := 100) (pc' := 112) rfl (hb hby at_100) rfl (tlt ((by decide) : (1 : Int32) < (2 : Int32))).1 (by decide) (by decide) ?_
      show Steps p.tables e below (T28.setTop (mkF m 112 (own_F6 n j i1 i2 i3 (1 : Int32) v20 v24 (i3.toInt8.toInt32) b26 (((v20 &&& (255 : Int32)) <<< ((8 : Int32) &&& 31)) ||| (v24 &&& (255 : Int32)))) [])) _
      refine XS.iconst X28.here hx rfl (hb hby at_112) ?_
      show Steps p.tables e below (T28.setTop (mkF m 113 (own_F6 n j i1 i2 i3 (1 : Int32) v20 v24 (i3.toInt8.toInt32) b26 (((v20 &&& (255 : Int32)) <<< ((8 : Int32) &&& 31)) ||| (v24 &&& (255 : Int32)))) [(.int (0 : Int32))])) _
      refine XS.istore X28.here hx rfl (hb hby at_113) rfl (l' := (own_F7 n j i1 i2 i3 (1 : Int32) v20 v24 (i3.toInt8.toInt32) b26 (((v20 &&& (255 : Int32)) <<< ((8 : Int32) &&& 31)) ||| (v24 &&& (255 : Int32))) (0 : Int32))) rfl ?_
      show Steps p.tables e below (T28.setTop (mkF m 115 (own_F7 n j i1 i2 i3 (1 : Int32) v20 v24 (i3.toInt8.toInt32) b26 (((v20 &&& (255 : Int32)) <<< ((8 : Int32) &&& 31)) ||| (v24 &&& (255 : Int32))) (0 : Int32)) [])) _
      refine XS.iloadN X28.here hx rfl (hb hby at_115) rfl ?_
      show Steps p.tables e below (T28.setTop (mkF m 116 (own_F7 n j i1 i2 i3 (1 : Int32) v20 v24 (i3.toInt8.toInt32) b26 (((v20 &&& (255 : Int32)) <<< ((8 : Int32) &&& 31)) ||| (v24 &&& (255 : Int32))) (0 : Int32)) [(.int j)])) _
      refine XS.iconst X28.here hx rfl (hb hby at_116) ?_
      show Steps p.tables e below (T28.setTop (mkF m 117 (own_F7 n j i1 i2 i3 (1 : Int32) v20 v24 (i3.toInt8.toInt32) b26 (((v20 &&& (255 : Int32)) <<< ((8 : Int32) &&& 31)) ||| (v24 &&& (255 : Int32))) (0 : Int32)) [(.int (2 : Int32)), (.int j)])) _
      refine XS.iushr X28.here hx rfl (hb hby at_117) rfl ?_
      show Steps p.tables e below (T28.setTop (mkF m 118 (own_F7 n j i1 i2 i3 (1 : Int32) v20 v24 (i3.toInt8.toInt32) b26 (((v20 &&& (255 : Int32)) <<< ((8 : Int32) &&& 31)) ||| (v24 &&& (255 : Int32))) (0 : Int32)) [(.int ((j.toUInt32 >>> ((2 : Int32) &&& 31).toUInt32).toInt32))])) _
      refine XS.bipush X28.here hx rfl (hb hby at_118) ?_
      show Steps p.tables e below (T28.setTop (mkF m 120 (own_F7 n j i1 i2 i3 (1 : Int32) v20 v24 (i3.toInt8.toInt32) b26 (((v20 &&& (255 : Int32)) <<< ((8 : Int32) &&& 31)) ||| (v24 &&& (255 : Int32))) (0 : Int32)) [(.int (7 : Int32)), (.int ((j.toUInt32 >>> ((2 : Int32) &&& 31).toUInt32).toInt32))])) _
      refine XS.iand X28.here hx rfl (hb hby at_120) rfl ?_
      show Steps p.tables e below (T28.setTop (mkF m 121 (own_F7 n j i1 i2 i3 (1 : Int32) v20 v24 (i3.toInt8.toInt32) b26 (((v20 &&& (255 : Int32)) <<< ((8 : Int32) &&& 31)) ||| (v24 &&& (255 : Int32))) (0 : Int32)) [(.int (((j.toUInt32 >>> ((2 : Int32) &&& 31).toUInt32).toInt32) &&& (7 : Int32)))])) _
      refine st29 _ ?_
      show Steps p.tables e below (T29.setTop (mkF m 124 (own_F7 n j i1 i2 i3 (1 : Int32) v20 v24 (i3.toInt8.toInt32) b26 (((v20 &&& (255 : Int32)) <<< ((8 : Int32) &&& 31)) ||| (v24 &&& (255 : Int32))) (0 : Int32)) [(.ref z_29)])) _
      refine st30 _ ?_
      show Steps p.tables e below (T30.setTop (mkF m 127 (own_F7 n j i1 i2 i3 (1 : Int32) v20 v24 (i3.toInt8.toInt32) b26 (((v20 &&& (255 : Int32)) <<< ((8 : Int32) &&& 31)) ||| (v24 &&& (255 : Int32))) (0 : Int32)) [(.int (1 : Int32))])) _
      refine XS.istore X30.here hx rfl (hb hby at_127) rfl (l' := (own_F8 n j i1 i2 i3 (1 : Int32) v20 v24 (i3.toInt8.toInt32) b26 (((v20 &&& (255 : Int32)) <<< ((8 : Int32) &&& 31)) ||| (v24 &&& (255 : Int32))) (0 : Int32) (1 : Int32))) rfl ?_
      show Steps p.tables e below (T30.setTop (mkF m 129 (own_F8 n j i1 i2 i3 (1 : Int32) v20 v24 (i3.toInt8.toInt32) b26 (((v20 &&& (255 : Int32)) <<< ((8 : Int32) &&& 31)) ||| (v24 &&& (255 : Int32))) (0 : Int32) (1 : Int32)) [])) _
      refine XS.aload X30.here hx rfl (hb hby at_129) rfl rfl ?_
      show Steps p.tables e below (T30.setTop (mkF m 131 (own_F8 n j i1 i2 i3 (1 : Int32) v20 v24 (i3.toInt8.toInt32) b26 (((v20 &&& (255 : Int32)) <<< ((8 : Int32) &&& 31)) ||| (v24 &&& (255 : Int32))) (0 : Int32) (1 : Int32)) [(.ref b26)])) _
      refine st31 _ ?_
      show Steps p.tables e below (T31.setTop (mkF m 134 (own_F8 n j i1 i2 i3 (1 : Int32) v20 v24 (i3.toInt8.toInt32) b26 (((v20 &&& (255 : Int32)) <<< ((8 : Int32) &&& 31)) ||| (v24 &&& (255 : Int32))) (0 : Int32) (1 : Int32)) [(.int (0 : Int32))])) _
      refine XS.iload X31.here hx rfl (hb hby at_134) rfl ?_
      show Steps p.tables e below (T31.setTop (mkF m 136 (own_F8 n j i1 i2 i3 (1 : Int32) v20 v24 (i3.toInt8.toInt32) b26 (((v20 &&& (255 : Int32)) <<< ((8 : Int32) &&& 31)) ||| (v24 &&& (255 : Int32))) (0 : Int32) (1 : Int32)) [(.int (0 : Int32)), (.int (0 : Int32))])) _
      refine XS.icmpNo X31.here hx rfl (hb hby at_136) rfl (teq (rfl : (0 : Int32) = (0 : Int32))).2 ?_
      show Steps p.tables e below (T31.setTop (mkF m 139 (own_F8 n j i1 i2 i3 (1 : Int32) v20 v24 (i3.toInt8.toInt32) b26 (((v20 &&& (255 : Int32)) <<< ((8 : Int32) &&& 31)) ||| (v24 &&& (255 : Int32))) (0 : Int32) (1 : Int32)) [])) _
      refine XS.iload X31.here hx rfl (hb hby at_139) rfl ?_
      show Steps p.tables e below (T31.setTop (mkF m 141 (own_F8 n j i1 i2 i3 (1 : Int32) v20 v24 (i3.toInt8.toInt32) b26 (((v20 &&& (255 : Int32)) <<< ((8 : Int32) &&& 31)) ||| (v24 &&& (255 : Int32))) (0 : Int32) (1 : Int32)) [(.int (1 : Int32))])) _
      refine XS.ifNo X31.here hx rfl (hb hby at_141) rfl ((if0 _ _).trans (feq ((by decide) : ¬ ((1 : Int32) = (0 : Int32)))).1) ?_
      show Steps p.tables e below (T31.setTop (mkF m 144 (own_F8 n j i1 i2 i3 (1 : Int32) v20 v24 (i3.toInt8.toInt32) b26 (((v20 &&& (255 : Int32)) <<< ((8 : Int32) &&& 31)) ||| (v24 &&& (255 : Int32))) (0 : Int32) (1 : Int32)) [])) _
      refine XS.iconst X31.here hx rfl (hb hby at_144) ?_
      show Steps p.tables e below (T31.setTop (mkF m 145 (own_F8 n j i1 i2 i3 (1 : Int32) v20 v24 (i3.toInt8.toInt32) b26 (((v20 &&& (255 : Int32)) <<< ((8 : Int32) &&& 31)) ||| (v24 &&& (255 : Int32))) (0 : Int32) (1 : Int32)) [(.int (1 : Int32))])) _
      refine XS.goto X31.here hx rfl (pc0 := 145) (pc' := 149) rfl (hb hby at_145) (by decide) (by decide) ?_
      show Steps p.tables e below (T31.setTop (mkF m 149 (own_F8 n j i1 i2 i3 (1 : Int32) v20 v24 (i3.toInt8.toInt32) b26 (((v20 &&& (255 : Int32)) <<< ((8 : Int32) &&& 31)) ||| (v24 &&& (255 : Int32))) (0 : Int32) (1 : Int32)) [(.int (1 : Int32))])) _
      exact k
    obtain ⟨fs, hr, hrun, hended, hW, hsame⟩ := X31.leave (v := some (.int (1 : Int32))) (fun h => by rw [Bd.returns] at h; cases h)
    refine ⟨_, _, w32 _ ?_, hrun, hended, _, _, rfl, ?_, ⟨_, rfl⟩, hW, hsame.mono (by decide) (by decide)⟩
    · exact retN X31 hx (t := .boolean) Bd.returns (by simp) (hb hby at_149) hr
    · show Q0 Z n j i1 i2 i3  h0 n0 _ T31.heap _
      rw [eh31]
      exact ⟨rfl, N31⟩
  · have w33 : ∀ t, Steps p.tables e below (s₁.setTop (mkF m 5 (own_F1 n j i1 i2 i3 (2 : Int32)) [])) t → Steps p.tables e below (s₁.setTop (entryFrame m #[(.int n), (.int j), (.int i1), (.int i2), (.int i3)] maxLocals)) t := by
      have q := w1
      simp only [hk2] at q
      exact q
    have w34 : ∀ t, Steps p.tables e below (s₁.setTop (mkF m 8 (own_F1 n j i1 i2 i3 (2 : Int32)) [(.int (j &&& (1 : Int32)))])) t → Steps p.tables e below (s₁.setTop (entryFrame m #[(.int n), (.int j), (.int i1), (.int i2), (.int i3)] maxLocals)) t := fun t k => by
      refine w33 t ?_
      refine XS.iloadN X0.here hx rfl (hb hby at_5) rfl ?_
      show Steps p.tables e below (s₁.setTop (mkF m 6 (own_F1 n j i1 i2 i3 (2 : Int32)) [(.int j)])) _
      refine XS.iconst X0.here hx rfl (hb hby at_6) ?_
      show Steps p.tables e below (s₁.setTop (mkF m 7 (own_F1 n j i1 i2 i3 (2 : Int32)) [(.int (1 : Int32)), (.int j)])) _
      refine XS.iand X0.here hx rfl (hb hby at_7) rfl ?_
      show Steps p.tables e below (s₁.setTop (mkF m 8 (own_F1 n j i1 i2 i3 (2 : Int32)) [(.int (j &&& (1 : Int32)))])) _
      exact k
    obtain ⟨v36, hv36⟩ : ∃ v : Int32, v = (if (j &&& (1 : Int32)) = (0 : Int32) then (i1.toInt8.toInt32) else (0 : Int32)) := ⟨_, rfl⟩
    have w37 : ∀ t, Steps p.tables e below (s₁.setTop (mkF m 17 (own_F1 n j i1 i2 i3 (2 : Int32)) [(.int v36)])) t → Steps p.tables e below (s₁.setTop (entryFrame m #[(.int n), (.int j), (.int i1), (.int i2), (.int i3)] maxLocals)) t := fun t k => by
      refine w34 t ?_
      show Steps p.tables e below (s₁.setTop (mkF m 8 (own_F1 n j i1 i2 i3 (2 : Int32)) [(.int (j &&& (1 : Int32)))])) _
      by_cases hm35 : (j &&& (1 : Int32)) = (0 : Int32)
      · refine XS.ifYes X0.here hx rfl (pc0 := 8) (pc' := 15) rfl (hb hby at_8) rfl ((if0 _ _).trans (teq hm35).1) (by decide) (by decide) ?_
        show Steps p.tables e below (s₁.setTop (mkF m 15 (own_F1 n j i1 i2 i3 (2 : Int32)) [])) _
        refine XS.iloadN X0.here hx rfl (hb hby at_15) rfl ?_
        show Steps p.tables e below (s₁.setTop (mkF m 16 (own_F1 n j i1 i2 i3 (2 : Int32)) [(.int i1)])) _
        refine XS.i2b X0.here hx rfl (hb hby at_16) rfl ?_
        show Steps p.tables e below (s₁.setTop (mkF m 17 (own_F1 n j i1 i2 i3 (2 : Int32)) [(.int (i1.toInt8.toInt32))])) _
        rw [show v36 = (i1.toInt8.toInt32) from by rw [hv36]; simp only [if_pos hm35]] at k
        exact k
      · refine XS.ifNo X0.here hx rfl (hb hby at_8) rfl ((if0 _ _).trans (feq hm35).1) ?_
        show Steps p.tables e below (s₁.setTop (mkF m 11 (own_F1 n j i1 i2 i3 (2 : Int32)) [])) _
        refine XS.iconst X0.here hx rfl (hb hby at_11) ?_
        show Steps p.tables e below (s₁.setTop (mkF m 12 (own_F1 n j i1 i2 i3 (2 : Int32)) [(.int (0 : Int32))])) _
        refine XS.goto X0.here hx rfl (pc0 := 12) (pc' := 17) rfl (hb hby at_12) (by decide) (by decide) ?_
        show Steps p.tables e below (s₁.setTop (mkF m 17 (own_F1 n j i1 i2 i3 (2 : Int32)) [(.int (0 : Int32))])) _
        rw [show v36 = (0 : Int32) from by rw [hv36]; simp only [if_neg hm35]] at k
        exact k
    have w38 : ∀ t, Steps p.tables e below (s₁.setTop (mkF m 22 (own_F2 n j i1 i2 i3 (2 : Int32) v36) [(.int (j &&& (2 : Int32)))])) t → Steps p.tables e below (s₁.setTop (entryFrame m #[(.int n), (.int j), (.int i1), (.int i2), (.int i3)] maxLocals)) t := fun t k => by
      refine w37 t ?_
      refine XS.istore X0.here hx rfl (hb hby at_17) rfl (l' := (own_F2 n j i1 i2 i3 (2 : Int32) v36)) rfl ?_
      show Steps p.tables e below (s₁.setTop (mkF m 19 (own_F2 n j i1 i2 i3 (2 : Int32) v36) [])) _
      refine XS.iloadN X0.here hx rfl (hb hby at_19) rfl ?_
      show Steps p.tables e below (s₁.setTop (mkF m 20 (own_F2 n j i1 i2 i3 (2 : Int32) v36) [(.int j)])) _
      refine XS.iconst X0.here hx rfl (hb hby at_20) ?_
      show Steps p.tables e below (s₁.setTop (mkF m 21 (own_F2 n j i1 i2 i3 (2 : Int32) v36) [(.int (2 : Int32)), (.int j)])) _
      refine XS.iand X0.here hx rfl (hb hby at_21) rfl ?_
      show Steps p.tables e below (s₁.setTop (mkF m 22 (own_F2 n j i1 i2 i3 (2 : Int32) v36) [(.int (j &&& (2 : Int32)))])) _
      exact k
    obtain ⟨v40, hv40⟩ : ∃ v : Int32, v = (if (j &&& (2 : Int32)) = (0 : Int32) then (i2.toInt8.toInt32) else (0 : Int32)) := ⟨_, rfl⟩
    have w41 : ∀ t, Steps p.tables e below (s₁.setTop (mkF m 31 (own_F2 n j i1 i2 i3 (2 : Int32) v36) [(.int v40)])) t → Steps p.tables e below (s₁.setTop (entryFrame m #[(.int n), (.int j), (.int i1), (.int i2), (.int i3)] maxLocals)) t := fun t k => by
      refine w38 t ?_
      show Steps p.tables e below (s₁.setTop (mkF m 22 (own_F2 n j i1 i2 i3 (2 : Int32) v36) [(.int (j &&& (2 : Int32)))])) _
      by_cases hm39 : (j &&& (2 : Int32)) = (0 : Int32)
      · refine XS.ifYes X0.here hx rfl (pc0 := 22) (pc' := 29) rfl (hb hby at_22) rfl ((if0 _ _).trans (teq hm39).1) (by decide) (by decide) ?_
        show Steps p.tables e below (s₁.setTop (mkF m 29 (own_F2 n j i1 i2 i3 (2 : Int32) v36) [])) _
        refine XS.iloadN X0.here hx rfl (hb hby at_29) rfl ?_
        show Steps p.tables e below (s₁.setTop (mkF m 30 (own_F2 n j i1 i2 i3 (2 : Int32) v36) [(.int i2)])) _
        refine XS.i2b X0.here hx rfl (hb hby at_30) rfl ?_
        show Steps p.tables e below (s₁.setTop (mkF m 31 (own_F2 n j i1 i2 i3 (2 : Int32) v36) [(.int (i2.toInt8.toInt32))])) _
        rw [show v40 = (i2.toInt8.toInt32) from by rw [hv40]; simp only [if_pos hm39]] at k
        exact k
      · refine XS.ifNo X0.here hx rfl (hb hby at_22) rfl ((if0 _ _).trans (feq hm39).1) ?_
        show Steps p.tables e below (s₁.setTop (mkF m 25 (own_F2 n j i1 i2 i3 (2 : Int32) v36) [])) _
        refine XS.iconst X0.here hx rfl (hb hby at_25) ?_
        show Steps p.tables e below (s₁.setTop (mkF m 26 (own_F2 n j i1 i2 i3 (2 : Int32) v36) [(.int (0 : Int32))])) _
        refine XS.goto X0.here hx rfl (pc0 := 26) (pc' := 31) rfl (hb hby at_26) (by decide) (by decide) ?_
        show Steps p.tables e below (s₁.setTop (mkF m 31 (own_F2 n j i1 i2 i3 (2 : Int32) v36) [(.int (0 : Int32))])) _
        rw [show v40 = (0 : Int32) from by rw [hv40]; simp only [if_neg hm39]] at k
        exact k
    obtain ⟨T42, h42, k42, X42, e42, E42, A42, st42⟩ := newP X0 hx hZ (hw _ (List.mem_of_getElem? (i := 0) rfl)) e0 (g := (mkF m 40 (own_F4 n j i1 i2 i3 (2 : Int32) v36 v40 (i3.toInt8.toInt32)) [(.int (2 : Int32))])) rfl (hb hby at_40) rfl (by decide) (cap := 2) (by decide) (by decide) (by decide) (by decide)
    obtain ⟨b42, gq42⟩ : ∃ z, z = Array.size h0 := ⟨_, rfl⟩
    rw [← gq42] at A42 st42
    have g_b42 : n0 ≤ b42 := Nat.le_trans (O.1 ▸ O.2.1) (Nat.le_of_eq gq42.symm)
    have O := O.ext E42
    have V_b42 : Arv Z h42 b42 k42 .byte (2 : Int32) [(.int (0 : Int32)), (.int (0 : Int32))] (.int (0 : Int32)) := (Arv.new A42 (by decide)).pad (pad_rep [] (.int (0 : Int32)) 2)
    obtain ⟨cl43, Ar43, q43, Z43, N43, H43, G43⟩ := id V_b42
    have hin43 : ¬ ((0 : Int32) < 0 ∨ cl43.slots.size ≤ ((0 : Int32)).toNatClampNeg) := inb_of Z43 ⟨by decide, by decide⟩
    obtain ⟨T44, h44, X44, e44, W44, st44⟩ := stB X42 hx hZ e42 Ar43 (j := (0 : Int32)) hin43 (g := (mkF m 54 (own_F5 n j i1 i2 i3 (2 : Int32) v36 v40 (i3.toInt8.toInt32) b42) [(.int v36), (.int (0 : Int32)), (.ref b42)])) rfl rfl (hb hby at_54)
    have V_b42 : Arv Z h44 b42 k42 .byte (2 : Int32) [(.int (v36.toInt8.toInt32)), (.int (0 : Int32))] (.int (0 : Int32)) := Arv.set Ar43 q43 Z43 N43 H43 G43 (fits_nar_byte _) W44 0 rfl (Nat.le_of_ble_eq_true rfl)
    have O := O.wr W44 g_b42
    have N44 := Fr.snoc X44 N0 g_b42
    obtain ⟨cl45, Ar45, q45, Z45, N45, H45, G45⟩ := id V_b42
    have hin45 : ¬ ((1 : Int32) < 0 ∨ cl45.slots.size ≤ ((1 : Int32)).toNatClampNeg) := inb_of Z45 ⟨by decide, by decide⟩
    obtain ⟨T46, h46, X46, e46, W46, st46⟩ := stB X44 hx hZ e44 Ar45 (j := (1 : Int32)) hin45 (g := (mkF m 66 (own_F5 n j i1 i2 i3 (2 : Int32) v36 v40 (i3.toInt8.toInt32) b42) [(.int v40), (.int (1 : Int32)), (.ref b42)])) rfl rfl (hb hby at_66)
    have V_b42 : Arv Z h46 b42 k42 .byte (2 : Int32) [(.int (v36.toInt8.toInt32)), (.int (v40.toInt8.toInt32))] (.int (0 : Int32)) := Arv.set Ar45 q45 Z45 N45 H45 G45 (fits_nar_byte _) W46 1 rfl (Nat.le_of_ble_eq_true rfl)
    have O := O.wr W46 g_b42
    have N46 := Fr.snoc X46 N44 g_b42
    have w47 : ∀ t, Steps p.tables e below (T46.setTop (mkF m 105 (own_F6 n j i1 i2 i3 (2 : Int32) v36 v40 (i3.toInt8.toInt32) b42 (((v36 &&& (255 : Int32)) <<< ((8 : Int32) &&& 31)) ||| (v40 &&& (255 : Int32)))) [(.int (((v36 &&& (255 : Int32)) <<< ((8 : Int32) &&& 31)) ||| (v40 &&& (255 : Int32))))])) t → Steps p.tables e below (s₁.setTop (entryFrame m #[(.int n), (.int j), (.int i1), (.int i2), (.int i3)] maxLocals)) t := fun t k => by
      refine w41 t ?_
      refine XS.istore X0.here hx rfl (hb hby at_31) rfl (l' := (own_F3 n j i1 i2 i3 (2 : Int32) v36 v40)) rfl ?_
      show Steps p.tables e below (s₁.setTop (mkF m 33 (own_F3 n j i1 i2 i3 (2 : Int32) v36 v40) [])) _
      refine XS.iload X0.here hx rfl (hb hby at_33) rfl ?_
      show Steps p.tables e below (s₁.setTop (mkF m 35 (own_F3 n j i1 i2 i3 (2 : Int32) v36 v40) [(.int i3)])) _
      refine XS.i2b X0.here hx rfl (hb hby at_35) rfl ?_
      show Steps p.tables e below (s₁.setTop (mkF m 36 (own_F3 n j i1 i2 i3 (2 : Int32) v36 v40) [(.int (i3.toInt8.toInt32))])) _
      refine XS.istore X0.here hx rfl (hb hby at_36) rfl (l' := (own_F4 n j i1 i2 i3 (2 : Int32) v36 v40 (i3.toInt8.toInt32))) rfl ?_
      show Steps p.tables e below (s₁.setTop (mkF m 38 (own_F4 n j i1 i2 i3 (2 : Int32) v36 v40 (i3.toInt8.toInt32)) [])) _
      refine XS.iload X0.here hx rfl (hb hby at_38) rfl ?_
      show Steps p.tables e below (s₁.setTop (mkF m 40 (own_F4 n j i1 i2 i3 (2 : Int32) v36 v40 (i3.toInt8.toInt32)) [(.int (2 : Int32))])) _
      refine st42 _ ?_
      show Steps p.tables e below (T42.setTop (mkF m 42 (own_F4 n j i1 i2 i3 (2 : Int32) v36 v40 (i3.toInt8.toInt32)) [(.ref b42)])) _
      refine XS.astore X42.here hx rfl (hb hby at_42) rfl rfl (l' := (own_F5 n j i1 i2 i3 (2 : Int32) v36 v40 (i3.toInt8.toInt32) b42)) rfl ?_
      show Steps p.tables e below (T42.setTop (mkF m 44 (own_F5 n j i1 i2 i3 (2 : Int32) v36 v40 (i3.toInt8.toInt32) b42) [])) _
      refine XS.iload X42.here hx rfl (hb hby at_44) rfl ?_
      show Steps p.tables e below (T42.setTop (mkF m 46 (own_F5 n j i1 i2 i3 (2 : Int32) v36 v40 (i3.toInt8.toInt32) b42) [(.int (2 : Int32))])) _
      refine XS.ifNo X42.here hx rfl (hb hby at_46) rfl ((if0 _ _).trans (tlt ((by decide) : (0 : Int32) < (2 : Int32))).2.2.2) ?_
      show Steps p.tables e below (T42.setTop (mkF m 49 (own_F5 n j i1 i2 i3 (2 : Int32) v36 v40 (i3.toInt8.toInt32) b42) [])) _
      refine XS.aload X42.here hx rfl (hb hby at_49) rfl rfl ?_
      show Steps p.tables e below (T42.setTop (mkF m 51 (own_F5 n j i1 i2 i3 (2 : Int32) v36 v40 (i3.toInt8.toInt32) b42) [(.ref b42)])) _
      refine XS.iconst X42.here hx rfl (hb hby at_51) ?_
      show Steps p.tables e below (T42.setTop (mkF m 52 (own_F5 n j i1 i2 i3 (2 : Int32) v36 v40 (i3.toInt8.toInt32) b42) [(.int (0 : Int32)), (.ref b42)])) _
      refine XS.iload X42.here hx rfl (hb hby at_52) rfl ?_
      show Steps p.tables e below (T42.setTop (mkF m 54 (own_F5 n j i1 i2 i3 (2 : Int32) v36 v40 (i3.toInt8.toInt32) b42) [(.int v36), (.int (0 : Int32)), (.ref b42)])) _
      refine st44 _ ?_
      show Steps p.tables e below (T44.setTop (mkF m 55 (own_F5 n j i1 i2 i3 (2 : Int32) v36 v40 (i3.toInt8.toInt32) b42) [])) _
      refine XS.iload X44.here hx rfl (hb hby at_55) rfl ?_
      show Steps p.tables e below (T44.setTop (mkF m 57 (own_F5 n j i1 i2 i3 (2 : Int32) v36 v40 (i3.toInt8.toInt32) b42) [(.int (2 : Int32))])) _
      refine XS.iconst X44.here hx rfl (hb hby at_57) ?_
      show Steps p.tables e below (T44.setTop (mkF m 58 (own_F5 n j i1 i2 i3 (2 : Int32) v36 v40 (i3.toInt8.toInt32) b42) [(.int (1 : Int32)), (.int (2 : Int32))])) _
      refine XS.icmpNo X44.here hx rfl (hb hby at_58) rfl (tlt ((by decide) : (1 : Int32) < (2 : Int32))).2.2.2 ?_
      show Steps p.tables e below (T44.setTop (mkF m 61 (own_F5 n j i1 i2 i3 (2 : Int32) v36 v40 (i3.toInt8.toInt32) b42) [])) _
      refine XS.aload X44.here hx rfl (hb hby at_61) rfl rfl ?_
      show Steps p.tables e below (T44.setTop (mkF m 63 (own_F5 n j i1 i2 i3 (2 : Int32) v36 v40 (i3.toInt8.toInt32) b42) [(.ref b42)])) _
      refine XS.iconst X44.here hx rfl (hb hby at_63) ?_
      show Steps p.tables e below (T44.setTop (mkF m 64 (own_F5 n j i1 i2 i3 (2 : Int32) v36 v40 (i3.toInt8.toInt32) b42) [(.int (1 : Int32)), (.ref b42)])) _
      refine XS.iload X44.here hx rfl (hb hby at_64) rfl ?_
      show Steps p.tables e below (T44.setTop (mkF m 66 (own_F5 n j i1 i2 i3 (2 : Int32) v36 v40 (i3.toInt8.toInt32) b42) [(.int v40), (.int (1 : Int32)), (.ref b42)])) _
      refine st46 _ ?_
      show Steps p.tables e below (T46.setTop (mkF m 67 (own_F5 n j i1 i2 i3 (2 : Int32) v36 v40 (i3.toInt8.toInt32) b42) [])) _
      refine XS.iload X46.here hx rfl (hb hby at_67) rfl ?_
      show Steps p.tables e below (T46.setTop (mkF m 69 (own_F5 n j i1 i2 i3 (2 : Int32) v36 v40 (i3.toInt8.toInt32) b42) [(.int (2 : Int32))])) _
      refine XS.iconst X46.here hx rfl (hb hby at_69) ?_
      show Steps p.tables e below (T46.setTop (mkF m 70 (own_F5 n j i1 i2 i3 (2 : Int32) v36 v40 (i3.toInt8.toInt32) b42) [(.int (2 : Int32)), (.int (2 : Int32))])) _
      refine XS.icmpYes X46.here hx rfl (pc0 := 70) (pc' := 79) rfl (hb hby at_70) rfl (flt ((by decide) : ¬ ((2 : Int32) < (2 : Int32)))).2.2.2 (by decide) (by decide) ?_
      show Steps p.tables e below (T46.setTop (mkF m 79 (own_F5 n j i1 i2 i3 (2 : Int32) v36 v40 (i3.toInt8.toInt32) b42) [])) _
      refine XS.iload X46.here hx rfl (hb hby at_79) rfl ?_
      show Steps p.tables e below (T46.setTop (mkF m 81 (own_F5 n j i1 i2 i3 (2 : Int32) v36 v40 (i3.toInt8.toInt32) b42) [(.int v36)])) _
      refine XS.sipush X46.here hx rfl (hb hby at_81) ?_
      show Steps p.tables e below (T46.setTop (mkF m 84 (own_F5 n j i1 i2 i3 (2 : Int32) v36 v40 (i3.toInt8.toInt32) b42) [(.int (255 : Int32)), (.int v36)])) _
      refine XS.iand X46.here hx rfl (hb hby at_84) rfl ?_
      show Steps p.tables e below (T46.setTop (mkF m 85 (own_F5 n j i1 i2 i3 (2 : Int32) v36 v40 (i3.toInt8.toInt32) b42) [(.int (v36 &&& (255 : Int32)))])) _
      refine XS.bipush X46.here hx rfl (hb hby at_85) ?_
      show Steps p.tables e below (T46.setTop (mkF m 87 (own_F5 n j i1 i2 i3 (2 : Int32) v36 v40 (i3.toInt8.toInt32) b42) [(.int (8 : Int32)), (.int (v36 &&& (255 : Int32)))])) _
      refine XS.ishl X46.here hx rfl (hb hby at_87) rfl ?_
      show Steps p.tables e below (T46.setTop (mkF m 88 (own_F5 n j i1 i2 i3 (2 : Int32) v36 v40 (i3.toInt8.toInt32) b42) [(.int ((v36 &&& (255 : Int32)) <<< ((8 : Int32) &&& 31)))])) _
      refine XS.iload X46.here hx rfl (hb hby at_88) rfl ?_
      show Steps p.tables e below (T46.setTop (mkF m 90 (own_F5 n j i1 i2 i3 (2 : Int32) v36 v40 (i3.toInt8.toInt32) b42) [(.int v40), (.int ((v36 &&& (255 : Int32)) <<< ((8 : Int32) &&& 31)))])) _
      refine XS.sipush X46.here hx rfl (hb hby at_90) ?_
      show Steps p.tables e below (T46.setTop (mkF m 93 (own_F5 n j i1 i2 i3 (2 : Int32) v36 v40 (i3.toInt8.toInt32) b42) [(.int (255 : Int32)), (.int v40), (.int ((v36 &&& (255 : Int32)) <<< ((8 : Int32) &&& 31)))])) _
      refine XS.iand X46.here hx rfl (hb hby at_93) rfl ?_
      show Steps p.tables e below (T46.setTop (mkF m 94 (own_F5 n j i1 i2 i3 (2 : Int32) v36 v40 (i3.toInt8.toInt32) b42) [(.int (v40 &&& (255 : Int32))), (.int ((v36 &&& (255 : Int32)) <<< ((8 : Int32) &&& 31)))])) _
      refine XS.ior X46.here hx rfl (hb hby at_94) rfl ?_
      show Steps p.tables e below (T46.setTop (mkF m 95 (own_F5 n j i1 i2 i3 (2 : Int32) v36 v40 (i3.toInt8.toInt32) b42) [(.int (((v36 &&& (255 : Int32)) <<< ((8 : Int32) &&& 31)) ||| (v40 &&& (255 : Int32))))])) _
      refine XS.istore X46.here hx rfl (hb hby at_95) rfl (l' := (own_F6 n j i1 i2 i3 (2 : Int32) v36 v40 (i3.toInt8.toInt32) b42 (((v36 &&& (255 : Int32)) <<< ((8 : Int32) &&& 31)) ||| (v40 &&& (255 : Int32))))) rfl ?_
      show Steps p.tables e below (T46.setTop (mkF m 97 (own_F6 n j i1 i2 i3 (2 : Int32) v36 v40 (i3.toInt8.toInt32) b42 (((v36 &&& (255 : Int32)) <<< ((8 : Int32) &&& 31)) ||| (v40 &&& (255 : Int32)))) [])) _
      refine XS.iload X46.here hx rfl (hb hby at_97) rfl ?_
      show Steps p.tables e below (T46.setTop (mkF m 99 (own_F6 n j i1 i2 i3 (2 : Int32) v36 v40 (i3.toInt8.toInt32) b42 (((v36 &&& (255 : Int32)) <<< ((8 : Int32) &&& 31)) ||| (v40 &&& (255 : Int32)))) [(.int (2 : Int32))])) _
      refine XS.iconst X46.here hx rfl (hb hby at_99) ?_
      show Steps p.tables e below (T46.setTop (mkF m 100 (own_F6 n j i1 i2 i3 (2 : Int32) v36 v40 (i3.toInt8.toInt32) b42 (((v36 &&& (255 : Int32)) <<< ((8 : Int32) &&& 31)) ||| (v40 &&& (255 : Int32)))) [(.int (2 : Int32)), (.int (2 : Int32))])) _
      refine XS.icmpNo X46.here hx rfl (hb hby at_100) rfl (flt ((by decide) : ¬ ((2 : Int32) < (2 : Int32)))).1 ?_
      show Steps p.tables e below (T46.setTop (mkF m 103 (own_F6 n j i1 i2 i3 (2 : Int32) v36 v40 (i3.toInt8.toInt32) b42 (((v36 &&& (255 : Int32)) <<< ((8 : Int32) &&& 31)) ||| (v40 &&& (255 : Int32)))) [])) _
      refine XS.iload X46.here hx rfl (hb hby at_103) rfl ?_
      show Steps p.tables e below (T46.setTop (mkF m 105 (own_F6 n j i1 i2 i3 (2 : Int32) v36 v40 (i3.toInt8.toInt32) b42 (((v36 &&& (255 : Int32)) <<< ((8 : Int32) &&& 31)) ||| (v40 &&& (255 : Int32)))) [(.int (((v36 &&& (255 : Int32)) <<< ((8 : Int32) &&& 31)) ||| (v40 &&& (255 : Int32))))])) _
      exact k
    by_cases hc105_48 : (((v36 &&& (255 : Int32)) <<< ((8 : Int32) &&& 31)) ||| (v40 &&& (255 : Int32))) = (0 : Int32)
    · have lt49_b42 := V_b42.lt
      obtain ⟨_, _, ⟨T49, L49, k49, n49⟩, -, X49, ⟨Lc49, hQ49, l49, y49, z49⟩, st49⟩ := Jvm.LawKit.callS X46 hx (y := (⟨"com/example/hashmesh/hashmesh/wire/Packet", "encodeWithoutJson", "(I)[B"⟩ : MethodName)) hown (mvT hZ (hw _ (List.mem_of_getElem? (i := 1) rfl))) (mvT hZ (hw _ (List.mem_of_getElem? (i := 2) rfl))) (mvT hZ (hw _ (List.mem_of_getElem? (i := 3) rfl))) (mvT hZ (hw _ (List.mem_of_getElem? (i := 4) rfl))) (by decide) (backOf (W := 0) (rm1 l Z a0 hw [] (((j.toUInt32 >>> ((2 : Int32) &&& 31).toUInt32).toInt32) &&& (7 : Int32)) h46 n0 O (own_len _).1 (own_len _).2.1) hZ (hw _ (List.mem_of_getElem? (i := 4) rfl)) (hw _ (List.mem_of_getElem? (i := 3) rfl)) (by decide) (by decide)) (g := (mkF m 121 (own_F7 n j i1 i2 i3 (2 : Int32) v36 v40 (i3.toInt8.toInt32) b42 (((v36 &&& (255 : Int32)) <<< ((8 : Int32) &&& 31)) ||| (v40 &&& (255 : Int32))) (1 : Int32)) [(.int (((j.toUInt32 >>> ((2 : Int32) &&& 31).toUInt32).toInt32) &&& (7 : Int32)))])) rfl (by rw [hml]; rfl) (argsL := [(.int (((j.toUInt32 >>> ((2 : Int32) &&& 31).toUInt32).toInt32) &&& (7 : Int32)))]) (rest := []) (lenOf pd__40I_41_91B rfl) rfl (by show 2 * 0 + _ ≤ _; exact Nat.le_of_eq rfl) (hb hby at_121) (fun _ _ => ⟨rfl, e46, (by decide : 1 + 1 ≤ _), (by decide : 2 + 9 ≤ _)⟩)
      dsimp only [Pt.U, Pt.locs, Pt.cells, Pt.slots] at X49 l49 y49 z49 st49 hQ49
      subst l49 y49 z49
      obtain ⟨z_49, kz_49, rfl, N49q, K49, V_z_c49, gz_49, gn_49⟩ := hQ49
      have N49 := Fr.app N46 N49q
      have V_b42 := V_b42.keep K49 nin0
      have ne_b42_z_49 : b42 ≠ z_49 := Nat.ne_of_lt (Nat.lt_of_lt_of_le lt49_b42 gz_49)
      have g_z_49 := gn_49
      have O := O.keep K49 all0
      obtain ⟨_, _, ⟨T50, L50, k50, n50⟩, -, X50, ⟨Lc50, hQ50, l50, y50, z50⟩, st50⟩ := Jvm.LawKit.callS X49 hx (y := (⟨"com/example/hashmesh/hashmesh/wire/Packet", "isWithoutJson", "([B)Z"⟩ : MethodName)) hown (mvT hZ (hw _ (List.mem_of_getElem? (i := 5) rfl))) (mvT hZ (hw _ (List.mem_of_getElem? (i := 6) rfl))) (mvT hZ (hw _ (List.mem_of_getElem? (i := 3) rfl))) (mvT hZ (hw _ (List.mem_of_getElem? (i := 7) rfl))) (by decide) (backOf (W := 0) (rm2_f l Z a0 hw [] z_49 kz_49 ((2 : Int32) + (((j.toUInt32 >>> ((2 : Int32) &&& 31).toUInt32).toInt32) &&& (7 : Int32))) T49.heap n0 O V_z_c49 (own_len _).2.2) hZ (hw _ (List.mem_of_getElem? (i := 7) rfl)) (hw _ (List.mem_of_getElem? (i := 3) rfl)) (by decide) (by decide)) (g := (mkF m 124 (own_F7 n j i1 i2 i3 (2 : Int32) v36 v40 (i3.toInt8.toInt32) b42 (((v36 &&& (255 : Int32)) <<< ((8 : Int32) &&& 31)) ||| (v40 &&& (255 : Int32))) (1 : Int32)) [(.ref z_49)])) rfl (by rw [hml]; rfl) (argsL := [(.ref z_49)]) (rest := []) (lenOf pd__40_91B_41Z rfl) rfl (by show 2 * 0 + _ ≤ _; exact Nat.le_of_eq rfl) (hb hby at_124) (fun _ _ => ⟨rfl, rfl, (by decide : 2 + 0 ≤ _), (by decide : 11 + 0 ≤ _)⟩)
      dsimp only [Pt.U, Pt.locs, Pt.cells, Pt.slots] at X50 l50 y50 z50 st50 hQ50
      subst l50 y50 z50
      obtain ⟨rfl, N50q, eh50⟩ := hQ50
      have N50 := Fr.app N49 N50q
      obtain ⟨_, _, ⟨T51, L51, k51, n51⟩, -, X51, ⟨Lc51, hQ51, l51, y51, z51⟩, st51⟩ := Jvm.LawKit.callS X50 hx (y := (⟨"com/example/hashmesh/hashmesh/wire/Packet", "isWithoutJson", "([B)Z"⟩ : MethodName)) hown (mvT hZ (hw _ (List.mem_of_getElem? (i := 5) rfl))) (mvT hZ (hw _ (List.mem_of_getElem? (i := 6) rfl))) (mvT hZ (hw _ (List.mem_of_getElem? (i := 3) rfl))) (mvT hZ (hw _ (List.mem_of_getElem? (i := 7) rfl))) (by decide) (backOf (W := 0) (rm2_2 l Z a0 hw [] b42 k42 (v36.toInt8.toInt32) (v40.toInt8.toInt32) T49.heap n0 O V_b42) hZ (hw _ (List.mem_of_getElem? (i := 7) rfl)) (hw _ (List.mem_of_getElem? (i := 3) rfl)) (by decide) (by decide)) (g := (mkF m 131 (own_F8 n j i1 i2 i3 (2 : Int32) v36 v40 (i3.toInt8.toInt32) b42 (((v36 &&& (255 : Int32)) <<< ((8 : Int32) &&& 31)) ||| (v40 &&& (255 : Int32))) (1 : Int32) (1 : Int32)) [(.ref b42)])) rfl (by rw [hml]; rfl) (argsL := [(.ref b42)]) (rest := []) (lenOf pd__40_91B_41Z rfl) rfl (by show 2 * 0 + _ ≤ _; exact Nat.le_of_eq rfl) (hb hby at_131) (fun _ _ => ⟨rfl, eh50, (by decide : 2 + 0 ≤ _), (by decide : 11 + 0 ≤ _)⟩)
      dsimp only [Pt.U, Pt.locs, Pt.cells, Pt.slots] at X51 l51 y51 z51 st51 hQ51
      subst l51 y51 z51
      obtain ⟨rfl, N51q, eh51⟩ := hQ51
      have N51 := Fr.app N50 N51q
      have w52 : ∀ t, Steps p.tables e below (T51.setTop (mkF m 149 (own_F8 n j i1 i2 i3 (2 : Int32) v36 v40 (i3.toInt8.toInt32) b42 (((v36 &&& (255 : Int32)) <<< ((8 : Int32) &&& 31)) ||| (v40 &&& (255 : Int32))) (1 : Int32) (1 : Int32)) [(.int (1 : Int32))])) t → Steps p.tables e below (s₁.setTop (entryFrame m #[(.int n), (.int j), (.int i1), (.int i2), (.int i3)] maxLocals)) t := fun t k => by
        refine w47 t ?_
        refine XS.ifNo X46.here hx rfl (hb hby at_105) rfl ((if0 _ _).trans (teq hc105_48).2) ?_
        show Steps p.tables e below (T46.setTop (mkF m 108 (own_F6 n j i1 i2 i3 (2 : Int32) v36 v40 (i3.toInt8.toInt32) b42 (((v36 &&& (255 : Int32)) <<< ((8 : Int32) &&& 31)) ||| (v40 &&& (255 : Int32)))) [])) _
        refine XS.iconst X46.here hx rfl (hb hby at_108) ?_
        show Steps p.tables e below (T46.setTop (mkF m 109 (own_F6 n j i1 i2 i3 (2 : Int32) v36 v40 (i3.toInt8.toInt32) b42 (((v36 &&& (255 : Int32)) <<< ((8 : Int32) &&& 31)) ||| (v40 &&& (255 : Int32)))) [(.int (1 : Int32))])) _
        refine XS.goto X46.here hx rfl (pc0 := 109) (pc' := 113) rfl (hb hby at_109) (by decide) (by decide) ?_
        show Steps p.tables e below (T46.setTop (mkF m 113 (own_F6 n j i1 i2 i3 (2 : Int32) v36 v40 (i3.toInt8.toInt32) b42 (((v36 &&& (255 : Int32)) <<< ((8 : Int32) &&& 31)) ||| (v40 &&& (255 : Int32)))) [(.int (1 : Int32))])) _
        refine XS.istore X46.here hx rfl (hb hby at_113) rfl (l' := (own_F7 n j i1 i2 i3 (2 : Int32) v36 v40 (i3.toInt8.toInt32) b42 (((v36 &&& (255 : Int32)) <<< ((8 : Int32) &&& 31)) ||| (v40 &&& (255 : Int32))) (1 : Int32))) rfl ?_
        show Steps p.tables e below (T46.setTop (mkF m 115 (own_F7 n j i1 i2 i3 (2 : Int32) v36 v40 (i3.toInt8.toInt32) b42 (((v36 &&& (255 : Int32)) <<< ((8 : Int32) &&& 31)) ||| (v40 &&& (255 : Int32))) (1 : Int32)) [])) _
        refine XS.iloadN X46.here hx rfl (hb hby at_115) rfl ?_
        show Steps p.tables e below (T46.setTop (mkF m 116 (own_F7 n j i1 i2 i3 (2 : Int32) v36 v40 (i3.toInt8.toInt32) b42 (((v36 &&& (255 : Int32)) <<< ((8 : Int32) &&& 31)) ||| (v40 &&& (255 : Int32))) (1 : Int32)) [(.int j)])) _
        refine XS.iconst X46.here hx rfl (hb hby at_116) ?_
        show Steps p.tables e below (T46.setTop (mkF m 117 (own_F7 n j i1 i2 i3 (2 : Int32) v36 v40 (i3.toInt8.toInt32) b42 (((v36 &&& (255 : Int32)) <<< ((8 : Int32) &&& 31)) ||| (v40 &&& (255 : Int32))) (1 : Int32)) [(.int (2 : Int32)), (.int j)])) _
        refine XS.iushr X46.here hx rfl (hb hby at_117) rfl ?_
        show Steps p.tables e below (T46.setTop (mkF m 118 (own_F7 n j i1 i2 i3 (2 : Int32) v36 v40 (i3.toInt8.toInt32) b42 (((v36 &&& (255 : Int32)) <<< ((8 : Int32) &&& 31)) ||| (v40 &&& (255 : Int32))) (1 : Int32)) [(.int ((j.toUInt32 >>> ((2 : Int32) &&& 31).toUInt32).toInt32))])) _
        refine XS.bipush X46.here hx rfl (hb hby at_118) ?_
        show Steps p.tables e below (T46.setTop (mkF m 120 (own_F7 n j i1 i2 i3 (2 : Int32) v36 v40 (i3.toInt8.toInt32) b42 (((v36 &&& (255 : Int32)) <<< ((8 : Int32) &&& 31)) ||| (v40 &&& (255 : Int32))) (1 : Int32)) [(.int (7 : Int32)), (.int ((j.toUInt32 >>> ((2 : Int32) &&& 31).toUInt32).toInt32))])) _
        refine XS.iand X46.here hx rfl (hb hby at_120) rfl ?_
        show Steps p.tables e below (T46.setTop (mkF m 121 (own_F7 n j i1 i2 i3 (2 : Int32) v36 v40 (i3.toInt8.toInt32) b42 (((v36 &&& (255 : Int32)) <<< ((8 : Int32) &&& 31)) ||| (v40 &&& (255 : Int32))) (1 : Int32)) [(.int (((j.toUInt32 >>> ((2 : Int32) &&& 31).toUInt32).toInt32) &&& (7 : Int32)))])) _
        refine st49 _ ?_
        show Steps p.tables e below (T49.setTop (mkF m 124 (own_F7 n j i1 i2 i3 (2 : Int32) v36 v40 (i3.toInt8.toInt32) b42 (((v36 &&& (255 : Int32)) <<< ((8 : Int32) &&& 31)) ||| (v40 &&& (255 : Int32))) (1 : Int32)) [(.ref z_49)])) _
        refine st50 _ ?_
        show Steps p.tables e below (T50.setTop (mkF m 127 (own_F7 n j i1 i2 i3 (2 : Int32) v36 v40 (i3.toInt8.toInt32) b42 (((v36 &&& (255 : Int32)) <<< ((8 : Int32) &&& 31)) ||| (v40 &&& (255 : Int32))) (1 : Int32)) [(.int (1 : Int32))])) _
        refine XS.istore X50.here hx rfl (hb hby at_127) rfl (l' := (own_F8 n j i1 i2 i3 (2 : Int32) v36 v40 (i3.toInt8.toInt32) b42 (((v36 &&& (255 : Int32)) <<< ((8 : Int32) &&& 31)) ||| (v40 &&& (255 : Int32))) (1 : Int32) (1 : Int32))) rfl ?_
        show Steps p.tables e below (T50.setTop (mkF m 129 (own_F8 n j i1 i2 i3 (2 : Int32) v36 v40 (i3.toInt8.toInt32) b42 (((v36 &&& (255 : Int32)) <<< ((8 : Int32) &&& 31)) ||| (v40 &&& (255 : Int32))) (1 : Int32) (1 : Int32)) [])) _
        refine XS.aload X50.here hx rfl (hb hby at_129) rfl rfl ?_
        show Steps p.tables e below (T50.setTop (mkF m 131 (own_F8 n j i1 i2 i3 (2 : Int32) v36 v40 (i3.toInt8.toInt32) b42 (((v36 &&& (255 : Int32)) <<< ((8 : Int32) &&& 31)) ||| (v40 &&& (255 : Int32))) (1 : Int32) (1 : Int32)) [(.ref b42)])) _
        refine st51 _ ?_
        show Steps p.tables e below (T51.setTop (mkF m 134 (own_F8 n j i1 i2 i3 (2 : Int32) v36 v40 (i3.toInt8.toInt32) b42 (((v36 &&& (255 : Int32)) <<< ((8 : Int32) &&& 31)) ||| (v40 &&& (255 : Int32))) (1 : Int32) (1 : Int32)) [(.int (own_w (v36.toInt8.toInt32) (v40.toInt8.toInt32)))])) _
        refine XS.iload X51.here hx rfl (hb hby at_134) rfl ?_
        show Steps p.tables e below (T51.setTop (mkF m 136 (own_F8 n j i1 i2 i3 (2 : Int32) v36 v40 (i3.toInt8.toInt32) b42 (((v36 &&& (255 : Int32)) <<< ((8 : Int32) &&& 31)) ||| (v40 &&& (255 : Int32))) (1 : Int32) (1 : Int32)) [(.int (1 : Int32)), (.int (own_w (v36.toInt8.toInt32) (v40.toInt8.toInt32)))])) _
        refine XS.icmpNo X51.here hx rfl (hb hby at_136) rfl (teq (own_y hc105_48 : (own_w (v36.toInt8.toInt32) (v40.toInt8.toInt32)) = (1 : Int32))).2 ?_
        show Steps p.tables e below (T51.setTop (mkF m 139 (own_F8 n j i1 i2 i3 (2 : Int32) v36 v40 (i3.toInt8.toInt32) b42 (((v36 &&& (255 : Int32)) <<< ((8 : Int32) &&& 31)) ||| (v40 &&& (255 : Int32))) (1 : Int32) (1 : Int32)) [])) _
        refine XS.iload X51.here hx rfl (hb hby at_139) rfl ?_
        show Steps p.tables e below (T51.setTop (mkF m 141 (own_F8 n j i1 i2 i3 (2 : Int32) v36 v40 (i3.toInt8.toInt32) b42 (((v36 &&& (255 : Int32)) <<< ((8 : Int32) &&& 31)) ||| (v40 &&& (255 : Int32))) (1 : Int32) (1 : Int32)) [(.int (1 : Int32))])) _
        refine XS.ifNo X51.here hx rfl (hb hby at_141) rfl ((if0 _ _).trans (feq ((by decide) : ¬ ((1 : Int32) = (0 : Int32)))).1) ?_
        show Steps p.tables e below (T51.setTop (mkF m 144 (own_F8 n j i1 i2 i3 (2 : Int32) v36 v40 (i3.toInt8.toInt32) b42 (((v36 &&& (255 : Int32)) <<< ((8 : Int32) &&& 31)) ||| (v40 &&& (255 : Int32))) (1 : Int32) (1 : Int32)) [])) _
        refine XS.iconst X51.here hx rfl (hb hby at_144) ?_
        show Steps p.tables e below (T51.setTop (mkF m 145 (own_F8 n j i1 i2 i3 (2 : Int32) v36 v40 (i3.toInt8.toInt32) b42 (((v36 &&& (255 : Int32)) <<< ((8 : Int32) &&& 31)) ||| (v40 &&& (255 : Int32))) (1 : Int32) (1 : Int32)) [(.int (1 : Int32))])) _
        refine XS.goto X51.here hx rfl (pc0 := 145) (pc' := 149) rfl (hb hby at_145) (by decide) (by decide) ?_
        show Steps p.tables e below (T51.setTop (mkF m 149 (own_F8 n j i1 i2 i3 (2 : Int32) v36 v40 (i3.toInt8.toInt32) b42 (((v36 &&& (255 : Int32)) <<< ((8 : Int32) &&& 31)) ||| (v40 &&& (255 : Int32))) (1 : Int32) (1 : Int32)) [(.int (1 : Int32))])) _
        exact k
      obtain ⟨fs, hr, hrun, hended, hW, hsame⟩ := X51.leave (v := some (.int (1 : Int32))) (fun h => by rw [Bd.returns] at h; cases h)
      refine ⟨_, _, w52 _ ?_, hrun, hended, _, _, rfl, ?_, ⟨_, rfl⟩, hW, hsame.mono (by decide) (by decide)⟩
      · exact retN X51 hx (t := .boolean) Bd.returns (by simp) (hb hby at_149) hr
      · show Q0 Z n j i1 i2 i3  h0 n0 _ T51.heap _
        rw [eh51]
        exact ⟨rfl, N51⟩
    · have lt53_b42 := V_b42.lt
      obtain ⟨_, _, ⟨T53, L53, k53, n53⟩, -, X53, ⟨Lc53, hQ53, l53, y53, z53⟩, st53⟩ := Jvm.LawKit.callS X46 hx (y := (⟨"com/example/hashmesh/hashmesh/wire/Packet", "encodeWithoutJson", "(I)[B"⟩ : MethodName)) hown (mvT hZ (hw _ (List.mem_of_getElem? (i := 1) rfl))) (mvT hZ (hw _ (List.mem_of_getElem? (i := 2) rfl))) (mvT hZ (hw _ (List.mem_of_getElem? (i := 3) rfl))) (mvT hZ (hw _ (List.mem_of_getElem? (i := 4) rfl))) (by decide) (backOf (W := 0) (rm1 l Z a0 hw [] (((j.toUInt32 >>> ((2 : Int32) &&& 31).toUInt32).toInt32) &&& (7 : Int32)) h46 n0 O (own_len _).1 (own_len _).2.1) hZ (hw _ (List.mem_of_getElem? (i := 4) rfl)) (hw _ (List.mem_of_getElem? (i := 3) rfl)) (by decide) (by decide)) (g := (mkF m 121 (own_F7 n j i1 i2 i3 (2 : Int32) v36 v40 (i3.toInt8.toInt32) b42 (((v36 &&& (255 : Int32)) <<< ((8 : Int32) &&& 31)) ||| (v40 &&& (255 : Int32))) (0 : Int32)) [(.int (((j.toUInt32 >>> ((2 : Int32) &&& 31).toUInt32).toInt32) &&& (7 : Int32)))])) rfl (by rw [hml]; rfl) (argsL := [(.int (((j.toUInt32 >>> ((2 : Int32) &&& 31).toUInt32).toInt32) &&& (7 : Int32)))]) (rest := []) (lenOf pd__40I_41_91B rfl) rfl (by show 2 * 0 + _ ≤ _; exact Nat.le_of_eq rfl) (hb hby at_121) (fun _ _ => ⟨rfl, e46, (by decide : 1 + 1 ≤ _), (by decide : 2 + 9 ≤ _)⟩)
      dsimp only [Pt.U, Pt.locs, Pt.cells, Pt.slots] at X53 l53 y53 z53 st53 hQ53
      subst l53 y53 z53
      obtain ⟨z_53, kz_53, rfl, N53q, K53, V_z_c53, gz_53, gn_53⟩ := hQ53
      have N53 := Fr.app N46 N53q
      have V_b42 := V_b42.keep K53 nin0
      have ne_b42_z_53 : b42 ≠ z_53 := Nat.ne_of_lt (Nat.lt_of_lt_of_le lt53_b42 gz_53)
      have g_z_53 := gn_53
      have O := O.keep K53 all0
      obtain ⟨_, _, ⟨T54, L54, k54, n54⟩, -, X54, ⟨Lc54, hQ54, l54, y54, z54⟩, st54⟩ := Jvm.LawKit.callS X53 hx (y := (⟨"com/example/hashmesh/hashmesh/wire/Packet", "isWithoutJson", "([B)Z"⟩ : MethodName)) hown (mvT hZ (hw _ (List.mem_of_getElem? (i := 5) rfl))) (mvT hZ (hw _ (List.mem_of_getElem? (i := 6) rfl))) (mvT hZ (hw _ (List.mem_of_getElem? (i := 3) rfl))) (mvT hZ (hw _ (List.mem_of_getElem? (i := 7) rfl))) (by decide) (backOf (W := 0) (rm2_f l Z a0 hw [] z_53 kz_53 ((2 : Int32) + (((j.toUInt32 >>> ((2 : Int32) &&& 31).toUInt32).toInt32) &&& (7 : Int32))) T53.heap n0 O V_z_c53 (own_len _).2.2) hZ (hw _ (List.mem_of_getElem? (i := 7) rfl)) (hw _ (List.mem_of_getElem? (i := 3) rfl)) (by decide) (by decide)) (g := (mkF m 124 (own_F7 n j i1 i2 i3 (2 : Int32) v36 v40 (i3.toInt8.toInt32) b42 (((v36 &&& (255 : Int32)) <<< ((8 : Int32) &&& 31)) ||| (v40 &&& (255 : Int32))) (0 : Int32)) [(.ref z_53)])) rfl (by rw [hml]; rfl) (argsL := [(.ref z_53)]) (rest := []) (lenOf pd__40_91B_41Z rfl) rfl (by show 2 * 0 + _ ≤ _; exact Nat.le_of_eq rfl) (hb hby at_124) (fun _ _ => ⟨rfl, rfl, (by decide : 2 + 0 ≤ _), (by decide : 11 + 0 ≤ _)⟩)
      dsimp only [Pt.U, Pt.locs, Pt.cells, Pt.slots] at X54 l54 y54 z54 st54 hQ54
      subst l54 y54 z54
      obtain ⟨rfl, N54q, eh54⟩ := hQ54
      have N54 := Fr.app N53 N54q
      obtain ⟨_, _, ⟨T55, L55, k55, n55⟩, -, X55, ⟨Lc55, hQ55, l55, y55, z55⟩, st55⟩ := Jvm.LawKit.callS X54 hx (y := (⟨"com/example/hashmesh/hashmesh/wire/Packet", "isWithoutJson", "([B)Z"⟩ : MethodName)) hown (mvT hZ (hw _ (List.mem_of_getElem? (i := 5) rfl))) (mvT hZ (hw _ (List.mem_of_getElem? (i := 6) rfl))) (mvT hZ (hw _ (List.mem_of_getElem? (i := 3) rfl))) (mvT hZ (hw _ (List.mem_of_getElem? (i := 7) rfl))) (by decide) (backOf (W := 0) (rm2_2 l Z a0 hw [] b42 k42 (v36.toInt8.toInt32) (v40.toInt8.toInt32) T53.heap n0 O V_b42) hZ (hw _ (List.mem_of_getElem? (i := 7) rfl)) (hw _ (List.mem_of_getElem? (i := 3) rfl)) (by decide) (by decide)) (g := (mkF m 131 (own_F8 n j i1 i2 i3 (2 : Int32) v36 v40 (i3.toInt8.toInt32) b42 (((v36 &&& (255 : Int32)) <<< ((8 : Int32) &&& 31)) ||| (v40 &&& (255 : Int32))) (0 : Int32) (1 : Int32)) [(.ref b42)])) rfl (by rw [hml]; rfl) (argsL := [(.ref b42)]) (rest := []) (lenOf pd__40_91B_41Z rfl) rfl (by show 2 * 0 + _ ≤ _; exact Nat.le_of_eq rfl) (hb hby at_131) (fun _ _ => ⟨rfl, eh54, (by decide : 2 + 0 ≤ _), (by decide : 11 + 0 ≤ _)⟩)
      dsimp only [Pt.U, Pt.locs, Pt.cells, Pt.slots] at X55 l55 y55 z55 st55 hQ55
      subst l55 y55 z55
      obtain ⟨rfl, N55q, eh55⟩ := hQ55
      have N55 := Fr.app N54 N55q
      have w56 : ∀ t, Steps p.tables e below (T55.setTop (mkF m 149 (own_F8 n j i1 i2 i3 (2 : Int32) v36 v40 (i3.toInt8.toInt32) b42 (((v36 &&& (255 : Int32)) <<< ((8 : Int32) &&& 31)) ||| (v40 &&& (255 : Int32))) (0 : Int32) (1 : Int32)) [(.int (1 : Int32))])) t → Steps p.tables e below (s₁.setTop (entryFrame m #[(.int n), (.int j), (.int i1), (.int i2), (.int i3)] maxLocals)) t := fun t k => by
        refine w47 t ?_
        refine XS.ifYes X46.here hx rfl (pc0 := 105) (pc' := 112) rfl (hb hby at_105) rfl ((if0 _ _).trans (feq hc105_48).2) (by decide) (by decide) ?_
        show Steps p.tables e below (T46.setTop (mkF m 112 (own_F6 n j i1 i2 i3 (2 : Int32) v36 v40 (i3.toInt8.toInt32) b42 (((v36 &&& (255 : Int32)) <<< ((8 : Int32) &&& 31)) ||| (v40 &&& (255 : Int32)))) [])) _
        refine XS.iconst X46.here hx rfl (hb hby at_112) ?_
        show Steps p.tables e below (T46.setTop (mkF m 113 (own_F6 n j i1 i2 i3 (2 : Int32) v36 v40 (i3.toInt8.toInt32) b42 (((v36 &&& (255 : Int32)) <<< ((8 : Int32) &&& 31)) ||| (v40 &&& (255 : Int32)))) [(.int (0 : Int32))])) _
        refine XS.istore X46.here hx rfl (hb hby at_113) rfl (l' := (own_F7 n j i1 i2 i3 (2 : Int32) v36 v40 (i3.toInt8.toInt32) b42 (((v36 &&& (255 : Int32)) <<< ((8 : Int32) &&& 31)) ||| (v40 &&& (255 : Int32))) (0 : Int32))) rfl ?_
        show Steps p.tables e below (T46.setTop (mkF m 115 (own_F7 n j i1 i2 i3 (2 : Int32) v36 v40 (i3.toInt8.toInt32) b42 (((v36 &&& (255 : Int32)) <<< ((8 : Int32) &&& 31)) ||| (v40 &&& (255 : Int32))) (0 : Int32)) [])) _
        refine XS.iloadN X46.here hx rfl (hb hby at_115) rfl ?_
        show Steps p.tables e below (T46.setTop (mkF m 116 (own_F7 n j i1 i2 i3 (2 : Int32) v36 v40 (i3.toInt8.toInt32) b42 (((v36 &&& (255 : Int32)) <<< ((8 : Int32) &&& 31)) ||| (v40 &&& (255 : Int32))) (0 : Int32)) [(.int j)])) _
        refine XS.iconst X46.here hx rfl (hb hby at_116) ?_
        show Steps p.tables e below (T46.setTop (mkF m 117 (own_F7 n j i1 i2 i3 (2 : Int32) v36 v40 (i3.toInt8.toInt32) b42 (((v36 &&& (255 : Int32)) <<< ((8 : Int32) &&& 31)) ||| (v40 &&& (255 : Int32))) (0 : Int32)) [(.int (2 : Int32)), (.int j)])) _
        refine XS.iushr X46.here hx rfl (hb hby at_117) rfl ?_
        show Steps p.tables e below (T46.setTop (mkF m 118 (own_F7 n j i1 i2 i3 (2 : Int32) v36 v40 (i3.toInt8.toInt32) b42 (((v36 &&& (255 : Int32)) <<< ((8 : Int32) &&& 31)) ||| (v40 &&& (255 : Int32))) (0 : Int32)) [(.int ((j.toUInt32 >>> ((2 : Int32) &&& 31).toUInt32).toInt32))])) _
        refine XS.bipush X46.here hx rfl (hb hby at_118) ?_
        show Steps p.tables e below (T46.setTop (mkF m 120 (own_F7 n j i1 i2 i3 (2 : Int32) v36 v40 (i3.toInt8.toInt32) b42 (((v36 &&& (255 : Int32)) <<< ((8 : Int32) &&& 31)) ||| (v40 &&& (255 : Int32))) (0 : Int32)) [(.int (7 : Int32)), (.int ((j.toUInt32 >>> ((2 : Int32) &&& 31).toUInt32).toInt32))])) _
        refine XS.iand X46.here hx rfl (hb hby at_120) rfl ?_
        show Steps p.tables e below (T46.setTop (mkF m 121 (own_F7 n j i1 i2 i3 (2 : Int32) v36 v40 (i3.toInt8.toInt32) b42 (((v36 &&& (255 : Int32)) <<< ((8 : Int32) &&& 31)) ||| (v40 &&& (255 : Int32))) (0 : Int32)) [(.int (((j.toUInt32 >>> ((2 : Int32) &&& 31).toUInt32).toInt32) &&& (7 : Int32)))])) _
        refine st53 _ ?_
        show Steps p.tables e below (T53.setTop (mkF m 124 (own_F7 n j i1 i2 i3 (2 : Int32) v36 v40 (i3.toInt8.toInt32) b42 (((v36 &&& (255 : Int32)) <<< ((8 : Int32) &&& 31)) ||| (v40 &&& (255 : Int32))) (0 : Int32)) [(.ref z_53)])) _
        refine st54 _ ?_
        show Steps p.tables e below (T54.setTop (mkF m 127 (own_F7 n j i1 i2 i3 (2 : Int32) v36 v40 (i3.toInt8.toInt32) b42 (((v36 &&& (255 : Int32)) <<< ((8 : Int32) &&& 31)) ||| (v40 &&& (255 : Int32))) (0 : Int32)) [(.int (1 : Int32))])) _
        refine XS.istore X54.here hx rfl (hb hby at_127) rfl (l' := (own_F8 n j i1 i2 i3 (2 : Int32) v36 v40 (i3.toInt8.toInt32) b42 (((v36 &&& (255 : Int32)) <<< ((8 : Int32) &&& 31)) ||| (v40 &&& (255 : Int32))) (0 : Int32) (1 : Int32))) rfl ?_
        show Steps p.tables e below (T54.setTop (mkF m 129 (own_F8 n j i1 i2 i3 (2 : Int32) v36 v40 (i3.toInt8.toInt32) b42 (((v36 &&& (255 : Int32)) <<< ((8 : Int32) &&& 31)) ||| (v40 &&& (255 : Int32))) (0 : Int32) (1 : Int32)) [])) _
        refine XS.aload X54.here hx rfl (hb hby at_129) rfl rfl ?_
        show Steps p.tables e below (T54.setTop (mkF m 131 (own_F8 n j i1 i2 i3 (2 : Int32) v36 v40 (i3.toInt8.toInt32) b42 (((v36 &&& (255 : Int32)) <<< ((8 : Int32) &&& 31)) ||| (v40 &&& (255 : Int32))) (0 : Int32) (1 : Int32)) [(.ref b42)])) _
        refine st55 _ ?_
        show Steps p.tables e below (T55.setTop (mkF m 134 (own_F8 n j i1 i2 i3 (2 : Int32) v36 v40 (i3.toInt8.toInt32) b42 (((v36 &&& (255 : Int32)) <<< ((8 : Int32) &&& 31)) ||| (v40 &&& (255 : Int32))) (0 : Int32) (1 : Int32)) [(.int (own_w (v36.toInt8.toInt32) (v40.toInt8.toInt32)))])) _
        refine XS.iload X55.here hx rfl (hb hby at_134) rfl ?_
        show Steps p.tables e below (T55.setTop (mkF m 136 (own_F8 n j i1 i2 i3 (2 : Int32) v36 v40 (i3.toInt8.toInt32) b42 (((v36 &&& (255 : Int32)) <<< ((8 : Int32) &&& 31)) ||| (v40 &&& (255 : Int32))) (0 : Int32) (1 : Int32)) [(.int (0 : Int32)), (.int (own_w (v36.toInt8.toInt32) (v40.toInt8.toInt32)))])) _
        refine XS.icmpNo X55.here hx rfl (hb hby at_136) rfl (teq (own_n hc105_48 : (own_w (v36.toInt8.toInt32) (v40.toInt8.toInt32)) = (0 : Int32))).2 ?_
        show Steps p.tables e below (T55.setTop (mkF m 139 (own_F8 n j i1 i2 i3 (2 : Int32) v36 v40 (i3.toInt8.toInt32) b42 (((v36 &&& (255 : Int32)) <<< ((8 : Int32) &&& 31)) ||| (v40 &&& (255 : Int32))) (0 : Int32) (1 : Int32)) [])) _
        refine XS.iload X55.here hx rfl (hb hby at_139) rfl ?_
        show Steps p.tables e below (T55.setTop (mkF m 141 (own_F8 n j i1 i2 i3 (2 : Int32) v36 v40 (i3.toInt8.toInt32) b42 (((v36 &&& (255 : Int32)) <<< ((8 : Int32) &&& 31)) ||| (v40 &&& (255 : Int32))) (0 : Int32) (1 : Int32)) [(.int (1 : Int32))])) _
        refine XS.ifNo X55.here hx rfl (hb hby at_141) rfl ((if0 _ _).trans (feq ((by decide) : ¬ ((1 : Int32) = (0 : Int32)))).1) ?_
        show Steps p.tables e below (T55.setTop (mkF m 144 (own_F8 n j i1 i2 i3 (2 : Int32) v36 v40 (i3.toInt8.toInt32) b42 (((v36 &&& (255 : Int32)) <<< ((8 : Int32) &&& 31)) ||| (v40 &&& (255 : Int32))) (0 : Int32) (1 : Int32)) [])) _
        refine XS.iconst X55.here hx rfl (hb hby at_144) ?_
        show Steps p.tables e below (T55.setTop (mkF m 145 (own_F8 n j i1 i2 i3 (2 : Int32) v36 v40 (i3.toInt8.toInt32) b42 (((v36 &&& (255 : Int32)) <<< ((8 : Int32) &&& 31)) ||| (v40 &&& (255 : Int32))) (0 : Int32) (1 : Int32)) [(.int (1 : Int32))])) _
        refine XS.goto X55.here hx rfl (pc0 := 145) (pc' := 149) rfl (hb hby at_145) (by decide) (by decide) ?_
        show Steps p.tables e below (T55.setTop (mkF m 149 (own_F8 n j i1 i2 i3 (2 : Int32) v36 v40 (i3.toInt8.toInt32) b42 (((v36 &&& (255 : Int32)) <<< ((8 : Int32) &&& 31)) ||| (v40 &&& (255 : Int32))) (0 : Int32) (1 : Int32)) [(.int (1 : Int32))])) _
        exact k
      obtain ⟨fs, hr, hrun, hended, hW, hsame⟩ := X55.leave (v := some (.int (1 : Int32))) (fun h => by rw [Bd.returns] at h; cases h)
      refine ⟨_, _, w56 _ ?_, hrun, hended, _, _, rfl, ?_, ⟨_, rfl⟩, hW, hsame.mono (by decide) (by decide)⟩
      · exact retN X55 hx (t := .boolean) Bd.returns (by simp) (hb hby at_149) hr
      · show Q0 Z n j i1 i2 i3  h0 n0 _ T55.heap _
        rw [eh55]
        exact ⟨rfl, N55⟩
  · have w57 : ∀ t, Steps p.tables e below (s₁.setTop (mkF m 5 (own_F1 n j i1 i2 i3 (3 : Int32)) [])) t → Steps p.tables e below (s₁.setTop (entryFrame m #[(.int n), (.int j), (.int i1), (.int i2), (.int i3)] maxLocals)) t := by
      have q := w1
      simp only [hk2] at q
      exact q
    have w58 : ∀ t, Steps p.tables e below (s₁.setTop (mkF m 8 (own_F1 n j i1 i2 i3 (3 : Int32)) [(.int (j &&& (1 : Int32)))])) t → Steps p.tables e below (s₁.setTop (entryFrame m #[(.int n), (.int j), (.int i1), (.int i2), (.int i3)] maxLocals)) t := fun t k => by
      refine w57 t ?_
      refine XS.iloadN X0.here hx rfl (hb hby at_5) rfl ?_
      show Steps p.tables e below (s₁.setTop (mkF m 6 (own_F1 n j i1 i2 i3 (3 : Int32)) [(.int j)])) _
      refine XS.iconst X0.here hx rfl (hb hby at_6) ?_
      show Steps p.tables e below (s₁.setTop (mkF m 7 (own_F1 n j i1 i2 i3 (3 : Int32)) [(.int (1 : Int32)), (.int j)])) _
      refine XS.iand X0.here hx rfl (hb hby at_7) rfl ?_
      show Steps p.tables e below (s₁.setTop (mkF m 8 (own_F1 n j i1 i2 i3 (3 : Int32)) [(.int (j &&& (1 : Int32)))])) _
      exact k
    obtain ⟨v60, hv60⟩ : ∃ v : Int32, v = (if (j &&& (1 : Int32)) = (0 : Int32) then (i1.toInt8.toInt32) else (0 : Int32)) := ⟨_, rfl⟩
    have w61 : ∀ t, Steps p.tables e below (s₁.setTop (mkF m 17 (own_F1 n j i1 i2 i3 (3 : Int32)) [(.int v60)])) t → Steps p.tables e below (s₁.setTop (entryFrame m #[(.int n), (.int j), (.int i1), (.int i2), (.int i3)] maxLocals)) t := fun t k => by
      refine w58 t ?_
      show Steps p.tables e below (s₁.setTop (mkF m 8 (own_F1 n j i1 i2 i3 (3 : Int32)) [(.int (j &&& (1 : Int32)))])) _
      by_cases hm59 : (j &&& (1 : Int32)) = (0 : Int32)
      · refine XS.ifYes X0.here hx rfl (pc0 := 8) (pc' := 15) rfl (hb hby at_8) rfl ((if0 _ _).trans (teq hm59).1) (by decide) (by decide) ?_
        show Steps p.tables e below (s₁.setTop (mkF m 15 (own_F1 n j i1 i2 i3 (3 : Int32)) [])) _
        refine XS.iloadN X0.here hx rfl (hb hby at_15) rfl ?_
        show Steps p.tables e below (s₁.setTop (mkF m 16 (own_F1 n j i1 i2 i3 (3 : Int32)) [(.int i1)])) _
        refine XS.i2b X0.here hx rfl (hb hby at_16) rfl ?_
        show Steps p.tables e below (s₁.setTop (mkF m 17 (own_F1 n j i1 i2 i3 (3 : Int32)) [(.int (i1.toInt8.toInt32))])) _
        rw [show v60 = (i1.toInt8.toInt32) from by rw [hv60]; simp only [if_pos hm59]] at k
        exact k
      · refine XS.ifNo X0.here hx rfl (hb hby at_8) rfl ((if0 _ _).trans (feq hm59).1) ?_
        show Steps p.tables e below (s₁.setTop (mkF m 11 (own_F1 n j i1 i2 i3 (3 : Int32)) [])) _
        refine XS.iconst X0.here hx rfl (hb hby at_11) ?_
        show Steps p.tables e below (s₁.setTop (mkF m 12 (own_F1 n j i1 i2 i3 (3 : Int32)) [(.int (0 : Int32))])) _
        refine XS.goto X0.here hx rfl (pc0 := 12) (pc' := 17) rfl (hb hby at_12) (by decide) (by decide) ?_
        show Steps p.tables e below (s₁.setTop (mkF m 17 (own_F1 n j i1 i2 i3 (3 : Int32)) [(.int (0 : Int32))])) _
        rw [show v60 = (0 : Int32) from by rw [hv60]; simp only [if_neg hm59]] at k
        exact k
    have w62 : ∀ t, Steps p.tables e below (s₁.setTop (mkF m 22 (own_F2 n j i1 i2 i3 (3 : Int32) v60) [(.int (j &&& (2 : Int32)))])) t → Steps p.tables e below (s₁.setTop (entryFrame m #[(.int n), (.int j), (.int i1), (.int i2), (.int i3)] maxLocals)) t := fun t k => by
      refine w61 t ?_
      refine XS.istore X0.here hx rfl (hb hby at_17) rfl (l' := (own_F2 n j i1 i2 i3 (3 : Int32) v60)) rfl ?_
      show Steps p.tables e below (s₁.setTop (mkF m 19 (own_F2 n j i1 i2 i3 (3 : Int32) v60) [])) _
      refine XS.iloadN X0.here hx rfl (hb hby at_19) rfl ?_
      show Steps p.tables e below (s₁.setTop (mkF m 20 (own_F2 n j i1 i2 i3 (3 : Int32) v60) [(.int j)])) _
      refine XS.iconst X0.here hx rfl (hb hby at_20) ?_
      show Steps p.tables e below (s₁.setTop (mkF m 21 (own_F2 n j i1 i2 i3 (3 : Int32) v60) [(.int (2 : Int32)), (.int j)])) _
      refine XS.iand X0.here hx rfl (hb hby at_21) rfl ?_
      show Steps p.tables e below (s₁.setTop (mkF m 22 (own_F2 n j i1 i2 i3 (3 : Int32) v60) [(.int (j &&& (2 : Int32)))])) _
      exact k
    obtain ⟨v64, hv64⟩ : ∃ v : Int32, v = (if (j &&& (2 : Int32)) = (0 : Int32) then (i2.toInt8.toInt32) else (0 : Int32)) := ⟨_, rfl⟩
    have w65 : ∀ t, Steps p.tables e below (s₁.setTop (mkF m 31 (own_F2 n j i1 i2 i3 (3 : Int32) v60) [(.int v64)])) t → Steps p.tables e below (s₁.setTop (entryFrame m #[(.int n), (.int j), (.int i1), (.int i2), (.int i3)] maxLocals)) t := fun t k => by
      refine w62 t ?_
      show Steps p.tables e below (s₁.setTop (mkF m 22 (own_F2 n j i1 i2 i3 (3 : Int32) v60) [(.int (j &&& (2 : Int32)))])) _
      by_cases hm63 : (j &&& (2 : Int32)) = (0 : Int32)
      · refine XS.ifYes X0.here hx rfl (pc0 := 22) (pc' := 29) rfl (hb hby at_22) rfl ((if0 _ _).trans (teq hm63).1) (by decide) (by decide) ?_
        show Steps p.tables e below (s₁.setTop (mkF m 29 (own_F2 n j i1 i2 i3 (3 : Int32) v60) [])) _
        refine XS.iloadN X0.here hx rfl (hb hby at_29) rfl ?_
        show Steps p.tables e below (s₁.setTop (mkF m 30 (own_F2 n j i1 i2 i3 (3 : Int32) v60) [(.int i2)])) _
        refine XS.i2b X0.here hx rfl (hb hby at_30) rfl ?_
        show Steps p.tables e below (s₁.setTop (mkF m 31 (own_F2 n j i1 i2 i3 (3 : Int32) v60) [(.int (i2.toInt8.toInt32))])) _
        rw [show v64 = (i2.toInt8.toInt32) from by rw [hv64]; simp only [if_pos hm63]] at k
        exact k
      · refine XS.ifNo X0.here hx rfl (hb hby at_22) rfl ((if0 _ _).trans (feq hm63).1) ?_
        show Steps p.tables e below (s₁.setTop (mkF m 25 (own_F2 n j i1 i2 i3 (3 : Int32) v60) [])) _
        refine XS.iconst X0.here hx rfl (hb hby at_25) ?_
        show Steps p.tables e below (s₁.setTop (mkF m 26 (own_F2 n j i1 i2 i3 (3 : Int32) v60) [(.int (0 : Int32))])) _
        refine XS.goto X0.here hx rfl (pc0 := 26) (pc' := 31) rfl (hb hby at_26) (by decide) (by decide) ?_
        show Steps p.tables e below (s₁.setTop (mkF m 31 (own_F2 n j i1 i2 i3 (3 : Int32) v60) [(.int (0 : Int32))])) _
        rw [show v64 = (0 : Int32) from by rw [hv64]; simp only [if_neg hm63]] at k
        exact k
    obtain ⟨T66, h66, k66, X66, e66, E66, A66, st66⟩ := newP X0 hx hZ (hw _ (List.mem_of_getElem? (i := 0) rfl)) e0 (g := (mkF m 40 (own_F4 n j i1 i2 i3 (3 : Int32) v60 v64 (i3.toInt8.toInt32)) [(.int (3 : Int32))])) rfl (hb hby at_40) rfl (by decide) (cap := 3) (by decide) (by decide) (by decide) (by decide)
    obtain ⟨b66, gq66⟩ : ∃ z, z = Array.size h0 := ⟨_, rfl⟩
    rw [← gq66] at A66 st66
    have g_b66 : n0 ≤ b66 := Nat.le_trans (O.1 ▸ O.2.1) (Nat.le_of_eq gq66.symm)
    have O := O.ext E66
    have V_b66 : Arv Z h66 b66 k66 .byte (3 : Int32) [(.int (0 : Int32)), (.int (0 : Int32)), (.int (0 : Int32))] (.int (0 : Int32)) := (Arv.new A66 (by decide)).pad (pad_rep [] (.int (0 : Int32)) 3)
    obtain ⟨cl67, Ar67, q67, Z67, N67, H67, G67⟩ := id V_b66
    have hin67 : ¬ ((0 : Int32) < 0 ∨ cl67.slots.size ≤ ((0 : Int32)).toNatClampNeg) := inb_of Z67 ⟨by decide, by decide⟩
    obtain ⟨T68, h68, X68, e68, W68, st68⟩ := stB X66 hx hZ e66 Ar67 (j := (0 : Int32)) hin67 (g := (mkF m 54 (own_F5 n j i1 i2 i3 (3 : Int32) v60 v64 (i3.toInt8.toInt32) b66) [(.int v60), (.int (0 : Int32)), (.ref b66)])) rfl rfl (hb hby at_54)
    have V_b66 : Arv Z h68 b66 k66 .byte (3 : Int32) [(.int (v60.toInt8.toInt32)), (.int (0 : Int32)), (.int (0 : Int32))] (.int (0 : Int32)) := Arv.set Ar67 q67 Z67 N67 H67 G67 (fits_nar_byte _) W68 0 rfl (Nat.le_of_ble_eq_true rfl)
    have O := O.wr W68 g_b66
    have N68 := Fr.snoc X68 N0 g_b66
    obtain ⟨cl69, Ar69, q69, Z69, N69, H69, G69⟩ := id V_b66
    have hin69 : ¬ ((1 : Int32) < 0 ∨ cl69.slots.size ≤ ((1 : Int32)).toNatClampNeg) := inb_of Z69 ⟨by decide, by decide⟩
    obtain ⟨T70, h70, X70, e70, W70, st70⟩ := stB X68 hx hZ e68 Ar69 (j := (1 : Int32)) hin69 (g := (mkF m 66 (own_F5 n j i1 i2 i3 (3 : Int32) v60 v64 (i3.toInt8.toInt32) b66) [(.int v64), (.int (1 : Int32)), (.ref b66)])) rfl rfl (hb hby at_66)
    have V_b66 : Arv Z h70 b66 k66 .byte (3 : Int32) [(.int (v60.toInt8.toInt32)), (.int (v64.toInt8.toInt32)), (.int (0 : Int32))] (.int (0 : Int32)) := Arv.set Ar69 q69 Z69 N69 H69 G69 (fits_nar_byte _) W70 1 rfl (Nat.le_of_ble_eq_true rfl)
    have O := O.wr W70 g_b66
    have N70 := Fr.snoc X70 N68 g_b66
    obtain ⟨cl71, Ar71, q71, Z71, N71, H71, G71⟩ := id V_b66
    have hin71 : ¬ ((2 : Int32) < 0 ∨ cl71.slots.size ≤ ((2 : Int32)).toNatClampNeg) := inb_of Z71 ⟨by decide, by decide⟩
    obtain ⟨T72, h72, X72, e72, W72, st72⟩ := stB X70 hx hZ e70 Ar71 (j := (2 : Int32)) hin71 (g := (mkF m 78 (own_F5 n j i1 i2 i3 (3 : Int32) v60 v64 (i3.toInt8.toInt32) b66) [(.int (i3.toInt8.toInt32)), (.int (2 : Int32)), (.ref b66)])) rfl rfl (hb hby at_78)
    have V_b66 : Arv Z h72 b66 k66 .byte (3 : Int32) [(.int (v60.toInt8.toInt32)), (.int (v64.toInt8.toInt32)), (.int ((i3.toInt8.toInt32).toInt8.toInt32))] (.int (0 : Int32)) := Arv.set Ar71 q71 Z71 N71 H71 G71 (fits_nar_byte _) W72 2 rfl (Nat.le_of_ble_eq_true rfl)
    have O := O.wr W72 g_b66
    have N72 := Fr.snoc X72 N70 g_b66
    have w73 : ∀ t, Steps p.tables e below (T72.setTop (mkF m 105 (own_F6 n j i1 i2 i3 (3 : Int32) v60 v64 (i3.toInt8.toInt32) b66 (((v60 &&& (255 : Int32)) <<< ((8 : Int32) &&& 31)) ||| (v64 &&& (255 : Int32)))) [(.int (((v60 &&& (255 : Int32)) <<< ((8 : Int32) &&& 31)) ||| (v64 &&& (255 : Int32))))])) t → Steps p.tables e below (s₁.setTop (entryFrame m #[(.int n), (.int j), (.int i1), (.int i2), (.int i3)] maxLocals)) t := fun t k => by
      refine w65 t ?_
      refine XS.istore X0.here hx rfl (hb hby at_31) rfl (l' := (own_F3 n j i1 i2 i3 (3 : Int32) v60 v64)) rfl ?_
      show Steps p.tables e below (s₁.setTop (mkF m 33 (own_F3 n j i1 i2 i3 (3 : Int32) v60 v64) [])) _
      refine XS.iload X0.here hx rfl (hb hby at_33) rfl ?_
      show Steps p.tables e below (s₁.setTop (mkF m 35 (own_F3 n j i1 i2 i3 (3 : Int32) v60 v64) [(.int i3)])) _
      refine XS.i2b X0.here hx rfl (hb hby at_35) rfl ?_
      show Steps p.tables e below (s₁.setTop (mkF m 36 (own_F3 n j i1 i2 i3 (3 : Int32) v60 v64) [(.int (i3.toInt8.toInt32))])) _
      refine XS.istore X0.here hx rfl (hb hby at_36) rfl (l' := (own_F4 n j i1 i2 i3 (3 : Int32) v60 v64 (i3.toInt8.toInt32))) rfl ?_
      show Steps p.tables e below (s₁.setTop (mkF m 38 (own_F4 n j i1 i2 i3 (3 : Int32) v60 v64 (i3.toInt8.toInt32)) [])) _
      refine XS.iload X0.here hx rfl (hb hby at_38) rfl ?_
      show Steps p.tables e below (s₁.setTop (mkF m 40 (own_F4 n j i1 i2 i3 (3 : Int32) v60 v64 (i3.toInt8.toInt32)) [(.int (3 : Int32))])) _
      refine st66 _ ?_
      show Steps p.tables e below (T66.setTop (mkF m 42 (own_F4 n j i1 i2 i3 (3 : Int32) v60 v64 (i3.toInt8.toInt32)) [(.ref b66)])) _
      refine XS.astore X66.here hx rfl (hb hby at_42) rfl rfl (l' := (own_F5 n j i1 i2 i3 (3 : Int32) v60 v64 (i3.toInt8.toInt32) b66)) rfl ?_
      show Steps p.tables e below (T66.setTop (mkF m 44 (own_F5 n j i1 i2 i3 (3 : Int32) v60 v64 (i3.toInt8.toInt32) b66) [])) _
      refine XS.iload X66.here hx rfl (hb hby at_44) rfl ?_
      show Steps p.tables e below (T66.setTop (mkF m 46 (own_F5 n j i1 i2 i3 (3 : Int32) v60 v64 (i3.toInt8.toInt32) b66) [(.int (3 : Int32))])) _
      refine XS.ifNo X66.here hx rfl (hb hby at_46) rfl ((if0 _ _).trans (tlt ((by decide) : (0 : Int32) < (3 : Int32))).2.2.2) ?_
      show Steps p.tables e below (T66.setTop (mkF m 49 (own_F5 n j i1 i2 i3 (3 : Int32) v60 v64 (i3.toInt8.toInt32) b66) [])) _
      refine XS.aload X66.here hx rfl (hb hby at_49) rfl rfl ?_
      show Steps p.tables e below (T66.setTop (mkF m 51 (own_F5 n j i1 i2 i3 (3 : Int32) v60 v64 (i3.toInt8.toInt32) b66) [(.ref b66)])) _
      refine XS.iconst X66.here hx rfl (hb hby at_51) ?_
      show Steps p.tables e below (T66.setTop (mkF m 52 (own_F5 n j i1 i2 i3 (3 : Int32) v60 v64 (i3.toInt8.toInt32) b66) [(.int (0 : Int32)), (.ref b66)])) _
      refine XS.iload X66.here hx rfl (hb hby at_52) rfl ?_
      show Steps p.tables e below (T66.setTop (mkF m 54 (own_F5 n j i1 i2 i3 (3 : Int32) v60 v64 (i3.toInt8.toInt32) b66) [(.int v60), (.int (0 : Int32)), (.ref b66)])) _
      refine st68 _ ?_
      show Steps p.tables e below (T68.setTop (mkF m 55 (own_F5 n j i1 i2 i3 (3 : Int32) v60 v64 (i3.toInt8.toInt32) b66) [])) _
      refine XS.iload X68.here hx rfl (hb hby at_55) rfl ?_
      show Steps p.tables e below (T68.setTop (mkF m 57 (own_F5 n j i1 i2 i3 (3 : Int32) v60 v64 (i3.toInt8.toInt32) b66) [(.int (3 : Int32))])) _
      refine XS.iconst X68.here hx rfl (hb hby at_57) ?_
      show Steps p.tables e below (T68.setTop (mkF m 58 (own_F5 n j i1 i2 i3 (3 : Int32) v60 v64 (i3.toInt8.toInt32) b66) [(.int (1 : Int32)), (.int (3 : Int32))])) _
      refine XS.icmpNo X68.here hx rfl (hb hby at_58) rfl (tlt ((by decide) : (1 : Int32) < (3 : Int32))).2.2.2 ?_
      show Steps p.tables e below (T68.setTop (mkF m 61 (own_F5 n j i1 i2 i3 (3 : Int32) v60 v64 (i3.toInt8.toInt32) b66) [])) _
      refine XS.aload X68.here hx rfl (hb hby at_61) rfl rfl ?_
      show Steps p.tables e below (T68.setTop (mkF m 63 (own_F5 n j i1 i2 i3 (3 : Int32) v60 v64 (i3.toInt8.toInt32) b66) [(.ref b66)])) _
      refine XS.iconst X68.here hx rfl (hb hby at_63) ?_
      show Steps p.tables e below (T68.setTop (mkF m 64 (own_F5 n j i1 i2 i3 (3 : Int32) v60 v64 (i3.toInt8.toInt32) b66) [(.int (1 : Int32)), (.ref b66)])) _
      refine XS.iload X68.here hx rfl (hb hby at_64) rfl ?_
      show Steps p.tables e below (T68.setTop (mkF m 66 (own_F5 n j i1 i2 i3 (3 : Int32) v60 v64 (i3.toInt8.toInt32) b66) [(.int v64), (.int (1 : Int32)), (.ref b66)])) _
      refine st70 _ ?_
      show Steps p.tables e below (T70.setTop (mkF m 67 (own_F5 n j i1 i2 i3 (3 : Int32) v60 v64 (i3.toInt8.toInt32) b66) [])) _
      refine XS.iload X70.here hx rfl (hb hby at_67) rfl ?_
      show Steps p.tables e below (T70.setTop (mkF m 69 (own_F5 n j i1 i2 i3 (3 : Int32) v60 v64 (i3.toInt8.toInt32) b66) [(.int (3 : Int32))])) _
      refine XS.iconst X70.here hx rfl (hb hby at_69) ?_
      show Steps p.tables e below (T70.setTop (mkF m 70 (own_F5 n j i1 i2 i3 (3 : Int32) v60 v64 (i3.toInt8.toInt32) b66) [(.int (2 : Int32)), (.int (3 : Int32))])) _
      refine XS.icmpNo X70.here hx rfl (hb hby at_70) rfl (tlt ((by decide) : (2 : Int32) < (3 : Int32))).2.2.2 ?_
      show Steps p.tables e below (T70.setTop (mkF m 73 (own_F5 n j i1 i2 i3 (3 : Int32) v60 v64 (i3.toInt8.toInt32) b66) [])) _
      refine XS.aload X70.here hx rfl (hb hby at_73) rfl rfl ?_
      show Steps p.tables e below (T70.setTop (mkF m 75 (own_F5 n j i1 i2 i3 (3 : Int32) v60 v64 (i3.toInt8.toInt32) b66) [(.ref b66)])) _
      refine XS.iconst X70.here hx rfl (hb hby at_75) ?_
      show Steps p.tables e below (T70.setTop (mkF m 76 (own_F5 n j i1 i2 i3 (3 : Int32) v60 v64 (i3.toInt8.toInt32) b66) [(.int (2 : Int32)), (.ref b66)])) _
      refine XS.iload X70.here hx rfl (hb hby at_76) rfl ?_
      show Steps p.tables e below (T70.setTop (mkF m 78 (own_F5 n j i1 i2 i3 (3 : Int32) v60 v64 (i3.toInt8.toInt32) b66) [(.int (i3.toInt8.toInt32)), (.int (2 : Int32)), (.ref b66)])) _
      refine st72 _ ?_
      show Steps p.tables e below (T72.setTop (mkF m 79 (own_F5 n j i1 i2 i3 (3 : Int32) v60 v64 (i3.toInt8.toInt32) b66) [])) _
      refine XS.iload X72.here hx rfl (hb hby at_79) rfl ?_
      show Steps p.tables e below (T72.setTop (mkF m 81 (own_F5 n j i1 i2 i3 (3 : Int32) v60 v64 (i3.toInt8.toInt32) b66) [(.int v60)])) _
      refine XS.sipush X72.here hx rfl (hb hby at_81) ?_
      show Steps p.tables e below (T72.setTop (mkF m 84 (own_F5 n j i1 i2 i3 (3 : Int32) v60 v64 (i3.toInt8.toInt32) b66) [(.int (255 : Int32)), (.int v60)])) _
      refine XS.iand X72.here hx rfl (hb hby at_84) rfl ?_
      show Steps p.tables e below (T72.setTop (mkF m 85 (own_F5 n j i1 i2 i3 (3 : Int32) v60 v64 (i3.toInt8.toInt32) b66) [(.int (v60 &&& (255 : Int32)))])) _
      refine XS.bipush X72.here hx rfl (hb hby at_85) ?_
      show Steps p.tables e below (T72.setTop (mkF m 87 (own_F5 n j i1 i2 i3 (3 : Int32) v60 v64 (i3.toInt8.toInt32) b66) [(.int (8 : Int32)), (.int (v60 &&& (255 : Int32)))])) _
      refine XS.ishl X72.here hx rfl (hb hby at_87) rfl ?_
      show Steps p.tables e below (T72.setTop (mkF m 88 (own_F5 n j i1 i2 i3 (3 : Int32) v60 v64 (i3.toInt8.toInt32) b66) [(.int ((v60 &&& (255 : Int32)) <<< ((8 : Int32) &&& 31)))])) _
      refine XS.iload X72.here hx rfl (hb hby at_88) rfl ?_
      show Steps p.tables e below (T72.setTop (mkF m 90 (own_F5 n j i1 i2 i3 (3 : Int32) v60 v64 (i3.toInt8.toInt32) b66) [(.int v64), (.int ((v60 &&& (255 : Int32)) <<< ((8 : Int32) &&& 31)))])) _
      refine XS.sipush X72.here hx rfl (hb hby at_90) ?_
      show Steps p.tables e below (T72.setTop (mkF m 93 (own_F5 n j i1 i2 i3 (3 : Int32) v60 v64 (i3.toInt8.toInt32) b66) [(.int (255 : Int32)), (.int v64), (.int ((v60 &&& (255 : Int32)) <<< ((8 : Int32) &&& 31)))])) _
      refine XS.iand X72.here hx rfl (hb hby at_93) rfl ?_
      show Steps p.tables e below (T72.setTop (mkF m 94 (own_F5 n j i1 i2 i3 (3 : Int32) v60 v64 (i3.toInt8.toInt32) b66) [(.int (v64 &&& (255 : Int32))), (.int ((v60 &&& (255 : Int32)) <<< ((8 : Int32) &&& 31)))])) _
      refine XS.ior X72.here hx rfl (hb hby at_94) rfl ?_
      show Steps p.tables e below (T72.setTop (mkF m 95 (own_F5 n j i1 i2 i3 (3 : Int32) v60 v64 (i3.toInt8.toInt32) b66) [(.int (((v60 &&& (255 : Int32)) <<< ((8 : Int32) &&& 31)) ||| (v64 &&& (255 : Int32))))])) _
      refine XS.istore X72.here hx rfl (hb hby at_95) rfl (l' := (own_F6 n j i1 i2 i3 (3 : Int32) v60 v64 (i3.toInt8.toInt32) b66 (((v60 &&& (255 : Int32)) <<< ((8 : Int32) &&& 31)) ||| (v64 &&& (255 : Int32))))) rfl ?_
      show Steps p.tables e below (T72.setTop (mkF m 97 (own_F6 n j i1 i2 i3 (3 : Int32) v60 v64 (i3.toInt8.toInt32) b66 (((v60 &&& (255 : Int32)) <<< ((8 : Int32) &&& 31)) ||| (v64 &&& (255 : Int32)))) [])) _
      refine XS.iload X72.here hx rfl (hb hby at_97) rfl ?_
      show Steps p.tables e below (T72.setTop (mkF m 99 (own_F6 n j i1 i2 i3 (3 : Int32) v60 v64 (i3.toInt8.toInt32) b66 (((v60 &&& (255 : Int32)) <<< ((8 : Int32) &&& 31)) ||| (v64 &&& (255 : Int32)))) [(.int (3 : Int32))])) _
      refine XS.iconst X72.here hx rfl (hb hby at_99) ?_
      show Steps p.tables e below (T72.setTop (mkF m 100 (own_F6 n j i1 i2 i3 (3 : Int32) v60 v64 (i3.toInt8.toInt32) b66 (((v60 &&& (255 : Int32)) <<< ((8 : Int32) &&& 31)) ||| (v64 &&& (255 : Int32)))) [(.int (2 : Int32)), (.int (3 : Int32))])) _
      refine XS.icmpNo X72.here hx rfl (hb hby at_100) rfl (flt ((by decide) : ¬ ((3 : Int32) < (2 : Int32)))).1 ?_
      show Steps p.tables e below (T72.setTop (mkF m 103 (own_F6 n j i1 i2 i3 (3 : Int32) v60 v64 (i3.toInt8.toInt32) b66 (((v60 &&& (255 : Int32)) <<< ((8 : Int32) &&& 31)) ||| (v64 &&& (255 : Int32)))) [])) _
      refine XS.iload X72.here hx rfl (hb hby at_103) rfl ?_
      show Steps p.tables e below (T72.setTop (mkF m 105 (own_F6 n j i1 i2 i3 (3 : Int32) v60 v64 (i3.toInt8.toInt32) b66 (((v60 &&& (255 : Int32)) <<< ((8 : Int32) &&& 31)) ||| (v64 &&& (255 : Int32)))) [(.int (((v60 &&& (255 : Int32)) <<< ((8 : Int32) &&& 31)) ||| (v64 &&& (255 : Int32))))])) _
      exact k
    by_cases hc105_74 : (((v60 &&& (255 : Int32)) <<< ((8 : Int32) &&& 31)) ||| (v64 &&& (255 : Int32))) = (0 : Int32)
    · have lt75_b66 := V_b66.lt
      obtain ⟨_, _, ⟨T75, L75, k75, n75⟩, -, X75, ⟨Lc75, hQ75, l75, y75, z75⟩, st75⟩ := Jvm.LawKit.callS X72 hx (y := (⟨"com/example/hashmesh/hashmesh/wire/Packet", "encodeWithoutJson", "(I)[B"⟩ : MethodName)) hown (mvT hZ (hw _ (List.mem_of_getElem? (i := 1) rfl))) (mvT hZ (hw _ (List.mem_of_getElem? (i := 2) rfl))) (mvT hZ (hw _ (List.mem_of_getElem? (i := 3) rfl))) (mvT hZ (hw _ (List.mem_of_getElem? (i := 4) rfl))) (by decide) (backOf (W := 0) (rm1 l Z a0 hw [] (((j.toUInt32 >>> ((2 : Int32) &&& 31).toUInt32).toInt32) &&& (7 : Int32)) h72 n0 O (own_len _).1 (own_len _).2.1) hZ (hw _ (List.mem_of_getElem? (i := 4) rfl)) (hw _ (List.mem_of_getElem? (i := 3) rfl)) (by decide) (by decide)) (g := (mkF m 121 (own_F7 n j i1 i2 i3 (3 : Int32) v60 v64 (i3.toInt8.toInt32) b66 (((v60 &&& (255 : Int32)) <<< ((8 : Int32) &&& 31)) ||| (v64 &&& (255 : Int32))) (1 : Int32)) [(.int (((j.toUInt32 >>> ((2 : Int32) &&& 31).toUInt32).toInt32) &&& (7 : Int32)))])) rfl (by rw [hml]; rfl) (argsL := [(.int (((j.toUInt32 >>> ((2 : Int32) &&& 31).toUInt32).toInt32) &&& (7 : Int32)))]) (rest := []) (lenOf pd__40I_41_91B rfl) rfl (by show 2 * 0 + _ ≤ _; exact Nat.le_of_eq rfl) (hb hby at_121) (fun _ _ => ⟨rfl, e72, (by decide : 1 + 1 ≤ _), (by decide : 3 + 9 ≤ _)⟩)
      dsimp only [Pt.U, Pt.locs, Pt.cells, Pt.slots] at X75 l75 y75 z75 st75 hQ75
      subst l75 y75 z75
      obtain ⟨z_75, kz_75, rfl, N75q, K75, V_z_c75, gz_75, gn_75⟩ := hQ75
      have N75 := Fr.app N72 N75q
      have V_b66 := V_b66.keep K75 nin0
      have ne_b66_z_75 : b66 ≠ z_75 := Nat.ne_of_lt (Nat.lt_of_lt_of_le lt75_b66 gz_75)
      have g_z_75 := gn_75
      have O := O.keep K75 all0
      obtain ⟨_, _, ⟨T76, L76, k76, n76⟩, -, X76, ⟨Lc76, hQ76, l76, y76, z76⟩, st76⟩ := Jvm.LawKit.callS X75 hx (y := (⟨"com/example/hashmesh/hashmesh/wire/Packet", "isWithoutJson", "([B)Z"⟩ : MethodName)) hown (mvT hZ (hw _ (List.mem_of_getElem? (i := 5) rfl))) (mvT hZ (hw _ (List.mem_of_getElem? (i := 6) rfl))) (mvT hZ (hw _ (List.mem_of_getElem? (i := 3) rfl))) (mvT hZ (hw _ (List.mem_of_getElem? (i := 7) rfl))) (by decide) (backOf (W := 0) (rm2_f l Z a0 hw [] z_75 kz_75 ((2 : Int32) + (((j.toUInt32 >>> ((2 : Int32) &&& 31).toUInt32).toInt32) &&& (7 : Int32))) T75.heap n0 O V_z_c75 (own_len _).2.2) hZ (hw _ (List.mem_of_getElem? (i := 7) rfl)) (hw _ (List.mem_of_getElem? (i := 3) rfl)) (by decide) (by decide)) (g := (mkF m 124 (own_F7 n j i1 i2 i3 (3 : Int32) v60 v64 (i3.toInt8.toInt32) b66 (((v60 &&& (255 : Int32)) <<< ((8 : Int32) &&& 31)) ||| (v64 &&& (255 : Int32))) (1 : Int32)) [(.ref z_75)])) rfl (by rw [hml]; rfl) (argsL := [(.ref z_75)]) (rest := []) (lenOf pd__40_91B_41Z rfl) rfl (by show 2 * 0 + _ ≤ _; exact Nat.le_of_eq rfl) (hb hby at_124) (fun _ _ => ⟨rfl, rfl, (by decide : 2 + 0 ≤ _), (by decide : 12 + 0 ≤ _)⟩)
      dsimp only [Pt.U, Pt.locs, Pt.cells, Pt.slots] at X76 l76 y76 z76 st76 hQ76
      subst l76 y76 z76
      obtain ⟨rfl, N76q, eh76⟩ := hQ76
      have N76 := Fr.app N75 N76q
      obtain ⟨_, _, ⟨T77, L77, k77, n77⟩, -, X77, ⟨Lc77, hQ77, l77, y77, z77⟩, st77⟩ := Jvm.LawKit.callS X76 hx (y := (⟨"com/example/hashmesh/hashmesh/wire/Packet", "isWithoutJson", "([B)Z"⟩ : MethodName)) hown (mvT hZ (hw _ (List.mem_of_getElem? (i := 5) rfl))) (mvT hZ (hw _ (List.mem_of_getElem? (i := 6) rfl))) (mvT hZ (hw _ (List.mem_of_getElem? (i := 3) rfl))) (mvT hZ (hw _ (List.mem_of_getElem? (i := 7) rfl))) (by decide) (backOf (W := 0) (rm2_3 l Z a0 hw [] b66 k66 (v60.toInt8.toInt32) (v64.toInt8.toInt32) ((i3.toInt8.toInt32).toInt8.toInt32) T75.heap n0 O V_b66) hZ (hw _ (List.mem_of_getElem? (i := 7) rfl)) (hw _ (List.mem_of_getElem? (i := 3) rfl)) (by decide) (by decide)) (g := (mkF m 131 (own_F8 n j i1 i2 i3 (3 : Int32) v60 v64 (i3.toInt8.toInt32) b66 (((v60 &&& (255 : Int32)) <<< ((8 : Int32) &&& 31)) ||| (v64 &&& (255 : Int32))) (1 : Int32) (1 : Int32)) [(.ref b66)])) rfl (by rw [hml]; rfl) (argsL := [(.ref b66)]) (rest := []) (lenOf pd__40_91B_41Z rfl) rfl (by show 2 * 0 + _ ≤ _; exact Nat.le_of_eq rfl) (hb hby at_131) (fun _ _ => ⟨rfl, eh76, (by decide : 2 + 0 ≤ _), (by decide : 12 + 0 ≤ _)⟩)
      dsimp only [Pt.U, Pt.locs, Pt.cells, Pt.slots] at X77 l77 y77 z77 st77 hQ77
      subst l77 y77 z77
      obtain ⟨rfl, N77q, eh77⟩ := hQ77
      have N77 := Fr.app N76 N77q
      have w78 : ∀ t, Steps p.tables e below (T77.setTop (mkF m 149 (own_F8 n j i1 i2 i3 (3 : Int32) v60 v64 (i3.toInt8.toInt32) b66 (((v60 &&& (255 : Int32)) <<< ((8 : Int32) &&& 31)) ||| (v64 &&& (255 : Int32))) (1 : Int32) (1 : Int32)) [(.int (1 : Int32))])) t → Steps p.tables e below (s₁.setTop (entryFrame m #[(.int n), (.int j), (.int i1), (.int i2), (.int i3)] maxLocals)) t := fun t k => by
        refine w73 t ?_
        refine XS.ifNo X72.here hx rfl (hb hby at_105) rfl ((if0 _ _).trans (teq hc105_74).2) ?_
        show Steps p.tables e below (T72.setTop (mkF m 108 (own_F6 n j i1 i2 i3 (3 : Int32) v60 v64 (i3.toInt8.toInt32) b66 (((v60 &&& (255 : Int32)) <<< ((8 : Int32) &&& 31)) ||| (v64 &&& (255 : Int32)))) [])) _
        refine XS.iconst X72.here hx rfl (hb hby at_108) ?_
        show Steps p.tables e below (T72.setTop (mkF m 109 (own_F6 n j i1 i2 i3 (3 : Int32) v60 v64 (i3.toInt8.toInt32) b66 (((v60 &&& (255 : Int32)) <<< ((8 : Int32) &&& 31)) ||| (v64 &&& (255 : Int32)))) [(.int (1 : Int32))])) _
        refine XS.goto X72.here hx rfl (pc0 := 109) (pc' := 113) rfl (hb hby at_109) (by decide) (by decide) ?_
        show Steps p.tables e below (T72.setTop (mkF m 113 (own_F6 n j i1 i2 i3 (3 : Int32) v60 v64 (i3.toInt8.toInt32) b66 (((v60 &&& (255 : Int32)) <<< ((8 : Int32) &&& 31)) ||| (v64 &&& (255 : Int32)))) [(.int (1 : Int32))])) _
        refine XS.istore X72.here hx rfl (hb hby at_113) rfl (l' := (own_F7 n j i1 i2 i3 (3 : Int32) v60 v64 (i3.toInt8.toInt32) b66 (((v60 &&& (255 : Int32)) <<< ((8 : Int32) &&& 31)) ||| (v64 &&& (255 : Int32))) (1 : Int32))) rfl ?_
        show Steps p.tables e below (T72.setTop (mkF m 115 (own_F7 n j i1 i2 i3 (3 : Int32) v60 v64 (i3.toInt8.toInt32) b66 (((v60 &&& (255 : Int32)) <<< ((8 : Int32) &&& 31)) ||| (v64 &&& (255 : Int32))) (1 : Int32)) [])) _
        refine XS.iloadN X72.here hx rfl (hb hby at_115) rfl ?_
        show Steps p.tables e below (T72.setTop (mkF m 116 (own_F7 n j i1 i2 i3 (3 : Int32) v60 v64 (i3.toInt8.toInt32) b66 (((v60 &&& (255 : Int32)) <<< ((8 : Int32) &&& 31)) ||| (v64 &&& (255 : Int32))) (1 : Int32)) [(.int j)])) _
        refine XS.iconst X72.here hx rfl (hb hby at_116) ?_
        show Steps p.tables e below (T72.setTop (mkF m 117 (own_F7 n j i1 i2 i3 (3 : Int32) v60 v64 (i3.toInt8.toInt32) b66 (((v60 &&& (255 : Int32)) <<< ((8 : Int32) &&& 31)) ||| (v64 &&& (255 : Int32))) (1 : Int32)) [(.int (2 : Int32)), (.int j)])) _
        refine XS.iushr X72.here hx rfl (hb hby at_117) rfl ?_
        show Steps p.tables e below (T72.setTop (mkF m 118 (own_F7 n j i1 i2 i3 (3 : Int32) v60 v64 (i3.toInt8.toInt32) b66 (((v60 &&& (255 : Int32)) <<< ((8 : Int32) &&& 31)) ||| (v64 &&& (255 : Int32))) (1 : Int32)) [(.int ((j.toUInt32 >>> ((2 : Int32) &&& 31).toUInt32).toInt32))])) _
        refine XS.bipush X72.here hx rfl (hb hby at_118) ?_
        show Steps p.tables e below (T72.setTop (mkF m 120 (own_F7 n j i1 i2 i3 (3 : Int32) v60 v64 (i3.toInt8.toInt32) b66 (((v60 &&& (255 : Int32)) <<< ((8 : Int32) &&& 31)) ||| (v64 &&& (255 : Int32))) (1 : Int32)) [(.int (7 : Int32)), (.int ((j.toUInt32 >>> ((2 : Int32) &&& 31).toUInt32).toInt32))])) _
        refine XS.iand X72.here hx rfl (hb hby at_120) rfl ?_
        show Steps p.tables e below (T72.setTop (mkF m 121 (own_F7 n j i1 i2 i3 (3 : Int32) v60 v64 (i3.toInt8.toInt32) b66 (((v60 &&& (255 : Int32)) <<< ((8 : Int32) &&& 31)) ||| (v64 &&& (255 : Int32))) (1 : Int32)) [(.int (((j.toUInt32 >>> ((2 : Int32) &&& 31).toUInt32).toInt32) &&& (7 : Int32)))])) _
        refine st75 _ ?_
        show Steps p.tables e below (T75.setTop (mkF m 124 (own_F7 n j i1 i2 i3 (3 : Int32) v60 v64 (i3.toInt8.toInt32) b66 (((v60 &&& (255 : Int32)) <<< ((8 : Int32) &&& 31)) ||| (v64 &&& (255 : Int32))) (1 : Int32)) [(.ref z_75)])) _
        refine st76 _ ?_
        show Steps p.tables e below (T76.setTop (mkF m 127 (own_F7 n j i1 i2 i3 (3 : Int32) v60 v64 (i3.toInt8.toInt32) b66 (((v60 &&& (255 : Int32)) <<< ((8 : Int32) &&& 31)) ||| (v64 &&& (255 : Int32))) (1 : Int32)) [(.int (1 : Int32))])) _
        refine XS.istore X76.here hx rfl (hb hby at_127) rfl (l' := (own_F8 n j i1 i2 i3 (3 : Int32) v60 v64 (i3.toInt8.toInt32) b66 (((v60 &&& (255 : Int32)) <<< ((8 : Int32) &&& 31)) ||| (v64 &&& (255 : Int32))) (1 : Int32) (1 : Int32))) rfl ?_
        show Steps p.tables e below (T76.setTop (mkF m 129 (own_F8 n j i1 i2 i3 (3 : Int32) v60 v64 (i3.toInt8.toInt32) b66 (((v60 &&& (255 : Int32)) <<< ((8 : Int32) &&& 31)) ||| (v64 &&& (255 : Int32))) (1 : Int32) (1 : Int32)) [])) _
        refine XS.aload X76.here hx rfl (hb hby at_129) rfl rfl ?_
        show Steps p.tables e below (T76.setTop (mkF m 131 (own_F8 n j i1 i2 i3 (3 : Int32) v60 v64 (i3.toInt8.toInt32) b66 (((v60 &&& (255 : Int32)) <<< ((8 : Int32) &&& 31)) ||| (v64 &&& (255 : Int32))) (1 : Int32) (1 : Int32)) [(.ref b66)])) _
        refine st77 _ ?_
        show Steps p.tables e below (T77.setTop (mkF m 134 (own_F8 n j i1 i2 i3 (3 : Int32) v60 v64 (i3.toInt8.toInt32) b66 (((v60 &&& (255 : Int32)) <<< ((8 : Int32) &&& 31)) ||| (v64 &&& (255 : Int32))) (1 : Int32) (1 : Int32)) [(.int (own_w (v60.toInt8.toInt32) (v64.toInt8.toInt32)))])) _
        refine XS.iload X77.here hx rfl (hb hby at_134) rfl ?_
        show Steps p.tables e below (T77.setTop (mkF m 136 (own_F8 n j i1 i2 i3 (3 : Int32) v60 v64 (i3.toInt8.toInt32) b66 (((v60 &&& (255 : Int32)) <<< ((8 : Int32) &&& 31)) ||| (v64 &&& (255 : Int32))) (1 : Int32) (1 : Int32)) [(.int (1 : Int32)), (.int (own_w (v60.toInt8.toInt32) (v64.toInt8.toInt32)))])) _
        refine XS.icmpNo X77.here hx rfl (hb hby at_136) rfl (teq (own_y hc105_74 : (own_w (v60.toInt8.toInt32) (v64.toInt8.toInt32)) = (1 : Int32))).2 ?_
        show Steps p.tables e below (T77.setTop (mkF m 139 (own_F8 n j i1 i2 i3 (3 : Int32) v60 v64 (i3.toInt8.toInt32) b66 (((v60 &&& (255 : Int32)) <<< ((8 : Int32) &&& 31)) ||| (v64 &&& (255 : Int32))) (1 : Int32) (1 : Int32)) [])) _
        refine XS.iload X77.here hx rfl (hb hby at_139) rfl ?_
        show Steps p.tables e below (T77.setTop (mkF m 141 (own_F8 n j i1 i2 i3 (3 : Int32) v60 v64 (i3.toInt8.toInt32) b66 (((v60 &&& (255 : Int32)) <<< ((8 : Int32) &&& 31)) ||| (v64 &&& (255 : Int32))) (1 : Int32) (1 : Int32)) [(.int (1 : Int32))])) _
        refine XS.ifNo X77.here hx rfl (hb hby at_141) rfl ((if0 _ _).trans (feq ((by decide) : ¬ ((1 : Int32) = (0 : Int32)))).1) ?_
        show Steps p.tables e below (T77.setTop (mkF m 144 (own_F8 n j i1 i2 i3 (3 : Int32) v60 v64 (i3.toInt8.toInt32) b66 (((v60 &&& (255 : Int32)) <<< ((8 : Int32) &&& 31)) ||| (v64 &&& (255 : Int32))) (1 : Int32) (1 : Int32)) [])) _
        refine XS.iconst X77.here hx rfl (hb hby at_144) ?_
        show Steps p.tables e below (T77.setTop (mkF m 145 (own_F8 n j i1 i2 i3 (3 : Int32) v60 v64 (i3.toInt8.toInt32) b66 (((v60 &&& (255 : Int32)) <<< ((8 : Int32) &&& 31)) ||| (v64 &&& (255 : Int32))) (1 : Int32) (1 : Int32)) [(.int (1 : Int32))])) _
        refine XS.goto X77.here hx rfl (pc0 := 145) (pc' := 149) rfl (hb hby at_145) (by decide) (by decide) ?_
        show Steps p.tables e below (T77.setTop (mkF m 149 (own_F8 n j i1 i2 i3 (3 : Int32) v60 v64 (i3.toInt8.toInt32) b66 (((v60 &&& (255 : Int32)) <<< ((8 : Int32) &&& 31)) ||| (v64 &&& (255 : Int32))) (1 : Int32) (1 : Int32)) [(.int (1 : Int32))])) _
        exact k
      obtain ⟨fs, hr, hrun, hended, hW, hsame⟩ := X77.leave (v := some (.int (1 : Int32))) (fun h => by rw [Bd.returns] at h; cases h)
      refine ⟨_, _, w78 _ ?_, hrun, hended, _, _, rfl, ?_, ⟨_, rfl⟩, hW, hsame.mono (by decide) (by decide)⟩
      · exact retN X77 hx (t := .boolean) Bd.returns (by simp) (hb hby at_149) hr
      · show Q0 Z n j i1 i2 i3  h0 n0 _ T77.heap _
        rw [eh77]
        exact ⟨rfl, N77⟩
    · have lt79_b66 := V_b66.lt
      obtain ⟨_, _, ⟨T79, L79, k79, n79⟩, -, X79, ⟨Lc79, hQ79, l79, y79, z79⟩, st79⟩ := Jvm.LawKit.callS X72 hx (y := (⟨"com/example/hashmesh/hashmesh/wire/Packet", "encodeWithoutJson", "(I)[B"⟩ : MethodName)) hown (mvT hZ (hw _ (List.mem_of_getElem? (i := 1) rfl))) (mvT hZ (hw _ (List.mem_of_getElem? (i := 2) rfl))) (mvT hZ (hw _ (List.mem_of_getElem? (i := 3) rfl))) (mvT hZ (hw _ (List.mem_of_getElem? (i := 4) rfl))) (by decide) (backOf (W := 0) (rm1 l Z a0 hw [] (((j.toUInt32 >>> ((2 : Int32) &&& 31).toUInt32).toInt32) &&& (7 : Int32)) h72 n0 O (own_len _).1 (own_len _).2.1) hZ (hw _ (List.mem_of_getElem? (i := 4) rfl)) (hw _ (List.mem_of_getElem? (i := 3) rfl)) (by decide) (by decide)) (g := (mkF m 121 (own_F7 n j i1 i2 i3 (3 : Int32) v60 v64 (i3.toInt8.toInt32) b66 (((v60 &&& (255 : Int32)) <<< ((8 : Int32) &&& 31)) ||| (v64 &&& (255 : Int32))) (0 : Int32)) [(.int (((j.toUInt32 >>> ((2 : Int32) &&& 31).toUInt32).toInt32) &&& (7 : Int32)))])) rfl (by rw [hml]; rfl) (argsL := [(.int (((j.toUInt32 >>> ((2 : Int32) &&& 31).toUInt32).toInt32) &&& (7 : Int32)))]) (rest := []) (lenOf pd__40I_41_91B rfl) rfl (by show 2 * 0 + _ ≤ _; exact Nat.le_of_eq rfl) (hb hby at_121) (fun _ _ => ⟨rfl, e72, (by decide : 1 + 1 ≤ _), (by decide : 3 + 9 ≤ _)⟩)
      dsimp only [Pt.U, Pt.locs, Pt.cells, Pt.slots] at X79 l79 y79 z79 st79 hQ79
      subst l79 y79 z79
      obtain ⟨z_79, kz_79, rfl, N79q, K79, V_z_c79, gz_79, gn_79⟩ := hQ79
      have N79 := Fr.app N72 N79q
      have V_b66 := V_b66.keep K79 nin0
      have ne_b66_z_79 : b66 ≠ z_79 := Nat.ne_of_lt (Nat.lt_of_lt_of_le lt79_b66 gz_79)
      have g_z_79 := gn_79
      have O := O.keep K79 all0
      obtain ⟨_, _, ⟨T80, L80, k80, n80⟩, -, X80, ⟨Lc80, hQ80, l80, y80, z80⟩, st80⟩ := Jvm.LawKit.callS X79 hx (y := (⟨"com/example/hashmesh/hashmesh/wire/Packet", "isWithoutJson", "([B)Z"⟩ : MethodName)) hown (mvT hZ (hw _ (List.mem_of_getElem? (i := 5) rfl))) (mvT hZ (hw _ (List.mem_of_getElem? (i := 6) rfl))) (mvT hZ (hw _ (List.mem_of_getElem? (i := 3) rfl))) (mvT hZ (hw _ (List.mem_of_getElem? (i := 7) rfl))) (by decide) (backOf (W := 0) (rm2_f l Z a0 hw [] z_79 kz_79 ((2 : Int32) + (((j.toUInt32 >>> ((2 : Int32) &&& 31).toUInt32).toInt32) &&& (7 : Int32))) T79.heap n0 O V_z_c79 (own_len _).2.2) hZ (hw _ (List.mem_of_getElem? (i := 7) rfl)) (hw _ (List.mem_of_getElem? (i := 3) rfl)) (by decide) (by decide)) (g := (mkF m 124 (own_F7 n j i1 i2 i3 (3 : Int32) v60 v64 (i3.toInt8.toInt32) b66 (((v60 &&& (255 : Int32)) <<< ((8 : Int32) &&& 31)) ||| (v64 &&& (255 : Int32))) (0 : Int32)) [(.ref z_79)])) rfl (by rw [hml]; rfl) (argsL := [(.ref z_79)]) (rest := []) (lenOf pd__40_91B_41Z rfl) rfl (by show 2 * 0 + _ ≤ _; exact Nat.le_of_eq rfl) (hb hby at_124) (fun _ _ => ⟨rfl, rfl, (by decide : 2 + 0 ≤ _), (by decide : 12 + 0 ≤ _)⟩)
      dsimp only [Pt.U, Pt.locs, Pt.cells, Pt.slots] at X80 l80 y80 z80 st80 hQ80
      subst l80 y80 z80
      obtain ⟨rfl, N80q, eh80⟩ := hQ80
      have N80 := Fr.app N79 N80q
      obtain ⟨_, _, ⟨T81, L81, k81, n81⟩, -, X81, ⟨Lc81, hQ81, l81, y81, z81⟩, st81⟩ := Jvm.LawKit.callS X80 hx (y := (⟨"com/example/hashmesh/hashmesh/wire/Packet", "isWithoutJson", "([B)Z"⟩ : MethodName)) hown (mvT hZ (hw _ (List.mem_of_getElem? (i := 5) rfl))) (mvT hZ (hw _ (List.mem_of_getElem? (i := 6) rfl))) (mvT hZ (hw _ (List.mem_of_getElem? (i := 3) rfl))) (mvT hZ (hw _ (List.mem_of_getElem? (i := 7) rfl))) (by decide) (backOf (W := 0) (rm2_3 l Z a0 hw [] b66 k66 (v60.toInt8.toInt32) (v64.toInt8.toInt32) ((i3.toInt8.toInt32).toInt8.toInt32) T79.heap n0 O V_b66) hZ (hw _ (List.mem_of_getElem? (i := 7) rfl)) (hw _ (List.mem_of_getElem? (i := 3) rfl)) (by decide) (by decide)) (g := (mkF m 131 (own_F8 n j i1 i2 i3 (3 : Int32) v60 v64 (i3.toInt8.toInt32) b66 (((v60 &&& (255 : Int32)) <<< ((8 : Int32) &&& 31)) ||| (v64 &&& (255 : Int32))) (0 : Int32) (1 : Int32)) [(.ref b66)])) rfl (by rw [hml]; rfl) (argsL := [(.ref b66)]) (rest := []) (lenOf pd__40_91B_41Z rfl) rfl (by show 2 * 0 + _ ≤ _; exact Nat.le_of_eq rfl) (hb hby at_131) (fun _ _ => ⟨rfl, eh80, (by decide : 2 + 0 ≤ _), (by decide : 12 + 0 ≤ _)⟩)
      dsimp only [Pt.U, Pt.locs, Pt.cells, Pt.slots] at X81 l81 y81 z81 st81 hQ81
      subst l81 y81 z81
      obtain ⟨rfl, N81q, eh81⟩ := hQ81
      have N81 := Fr.app N80 N81q
      have w82 : ∀ t, Steps p.tables e below (T81.setTop (mkF m 149 (own_F8 n j i1 i2 i3 (3 : Int32) v60 v64 (i3.toInt8.toInt32) b66 (((v60 &&& (255 : Int32)) <<< ((8 : Int32) &&& 31)) ||| (v64 &&& (255 : Int32))) (0 : Int32) (1 : Int32)) [(.int (1 : Int32))])) t → Steps p.tables e below (s₁.setTop (entryFrame m #[(.int n), (.int j), (.int i1), (.int i2), (.int i3)] maxLocals)) t := fun t k => by
        refine w73 t ?_
        refine XS.ifYes X72.here hx rfl (pc0 := 105) (pc' := 112) rfl (hb hby at_105) rfl ((if0 _ _).trans (feq hc105_74).2) (by decide) (by decide) ?_
        show Steps p.tables e below (T72.setTop (mkF m 112 (own_F6 n j i1 i2 i3 (3 : Int32) v60 v64 (i3.toInt8.toInt32) b66 (((v60 &&& (255 : Int32)) <<< ((8 : Int32) &&& 31)) ||| (v64 &&& (255 : Int32)))) [])) _
        refine XS.iconst X72.here hx rfl (hb hby at_112) ?_
        show Steps p.tables e below (T72.setTop (mkF m 113 (own_F6 n j i1 i2 i3 (3 : Int32) v60 v64 (i3.toInt8.toInt32) b66 (((v60 &&& (255 : Int32)) <<< ((8 : Int32) &&& 31)) ||| (v64 &&& (255 : Int32)))) [(.int (0 : Int32))])) _
        refine XS.istore X72.here hx rfl (hb hby at_113) rfl (l' := (own_F7 n j i1 i2 i3 (3 : Int32) v60 v64 (i3.toInt8.toInt32) b66 (((v60 &&& (255 : Int32)) <<< ((8 : Int32) &&& 31)) ||| (v64 &&& (255 : Int32))) (0 : Int32))) rfl ?_
        show Steps p.tables e below (T72.setTop (mkF m 115 (own_F7 n j i1 i2 i3 (3 : Int32) v60 v64 (i3.toInt8.toInt32) b66 (((v60 &&& (255 : Int32)) <<< ((8 : Int32) &&& 31)) ||| (v64 &&& (255 : Int32))) (0 : Int32)) [])) _
        refine XS.iloadN X72.here hx rfl (hb hby at_115) rfl ?_
        show Steps p.tables e below (T72.setTop (mkF m 116 (own_F7 n j i1 i2 i3 (3 : Int32) v60 v64 (i3.toInt8.toInt32) b66 (((v60 &&& (255 : Int32)) <<< ((8 : Int32) &&& 31)) ||| (v64 &&& (255 : Int32))) (0 : Int32)) [(.int j)])) _
        refine XS.iconst X72.here hx rfl (hb hby at_116) ?_
        show Steps p.tables e below (T72.setTop (mkF m 117 (own_F7 n j i1 i2 i3 (3 : Int32) v60 v64 (i3.toInt8.toInt32) b66 (((v60 &&& (255 : Int32)) <<< ((8 : Int32) &&& 31)) ||| (v64 &&& (255 : Int32))) (0 : Int32)) [(.int (2 : Int32)), (.int j)])) _
        refine XS.iushr X72.here hx rfl (hb hby at_117) rfl ?_
        show Steps p.tables e below (T72.setTop (mkF m 118 (own_F7 n j i1 i2 i3 (3 : Int32) v60 v64 (i3.toInt8.toInt32) b66 (((v60 &&& (255 : Int32)) <<< ((8 : Int32) &&& 31)) ||| (v64 &&& (255 : Int32))) (0 : Int32)) [(.int ((j.toUInt32 >>> ((2 : Int32) &&& 31).toUInt32).toInt32))])) _
        refine XS.bipush X72.here hx rfl (hb hby at_118) ?_
        show Steps p.tables e below (T72.setTop (mkF m 120 (own_F7 n j i1 i2 i3 (3 : Int32) v60 v64 (i3.toInt8.toInt32) b66 (((v60 &&& (255 : Int32)) <<< ((8 : Int32) &&& 31)) ||| (v64 &&& (255 : Int32))) (0 : Int32)) [(.int (7 : Int32)), (.int ((j.toUInt32 >>> ((2 : Int32) &&& 31).toUInt32).toInt32))])) _
        refine XS.iand X72.here hx rfl (hb hby at_120) rfl ?_
        show Steps p.tables e below (T72.setTop (mkF m 121 (own_F7 n j i1 i2 i3 (3 : Int32) v60 v64 (i3.toInt8.toInt32) b66 (((v60 &&& (255 : Int32)) <<< ((8 : Int32) &&& 31)) ||| (v64 &&& (255 : Int32))) (0 : Int32)) [(.int (((j.toUInt32 >>> ((2 : Int32) &&& 31).toUInt32).toInt32) &&& (7 : Int32)))])) _
        refine st79 _ ?_
        show Steps p.tables e below (T79.setTop (mkF m 124 (own_F7 n j i1 i2 i3 (3 : Int32) v60 v64 (i3.toInt8.toInt32) b66 (((v60 &&& (255 : Int32)) <<< ((8 : Int32) &&& 31)) ||| (v64 &&& (255 : Int32))) (0 : Int32)) [(.ref z_79)])) _
        refine st80 _ ?_
        show Steps p.tables e below (T80.setTop (mkF m 127 (own_F7 n j i1 i2 i3 (3 : Int32) v60 v64 (i3.toInt8.toInt32) b66 (((v60 &&& (255 : Int32)) <<< ((8 : Int32) &&& 31)) ||| (v64 &&& (255 : Int32))) (0 : Int32)) [(.int (1 : Int32))])) _
        refine XS.istore X80.here hx rfl (hb hby at_127) rfl (l' := (own_F8 n j i1 i2 i3 (3 : Int32) v60 v64 (i3.toInt8.toInt32) b66 (((v60 &&& (255 : Int32)) <<< ((8 : Int32) &&& 31)) ||| (v64 &&& (255 : Int32))) (0 : Int32) (1 : Int32))) rfl ?_
        show Steps p.tables e below (T80.setTop (mkF m 129 (own_F8 n j i1 i2 i3 (3 : Int32) v60 v64 (i3.toInt8.toInt32) b66 (((v60 &&& (255 : Int32)) <<< ((8 : Int32) &&& 31)) ||| (v64 &&& (255 : Int32))) (0 : Int32) (1 : Int32)) [])) _
        refine XS.aload X80.here hx rfl (hb hby at_129) rfl rfl ?_
        show Steps p.tables e below (T80.setTop (mkF m 131 (own_F8 n j i1 i2 i3 (3 : Int32) v60 v64 (i3.toInt8.toInt32) b66 (((v60 &&& (255 : Int32)) <<< ((8 : Int32) &&& 31)) ||| (v64 &&& (255 : Int32))) (0 : Int32) (1 : Int32)) [(.ref b66)])) _
        refine st81 _ ?_
        show Steps p.tables e below (T81.setTop (mkF m 134 (own_F8 n j i1 i2 i3 (3 : Int32) v60 v64 (i3.toInt8.toInt32) b66 (((v60 &&& (255 : Int32)) <<< ((8 : Int32) &&& 31)) ||| (v64 &&& (255 : Int32))) (0 : Int32) (1 : Int32)) [(.int (own_w (v60.toInt8.toInt32) (v64.toInt8.toInt32)))])) _
        refine XS.iload X81.here hx rfl (hb hby at_134) rfl ?_
        show Steps p.tables e below (T81.setTop (mkF m 136 (own_F8 n j i1 i2 i3 (3 : Int32) v60 v64 (i3.toInt8.toInt32) b66 (((v60 &&& (255 : Int32)) <<< ((8 : Int32) &&& 31)) ||| (v64 &&& (255 : Int32))) (0 : Int32) (1 : Int32)) [(.int (0 : Int32)), (.int (own_w (v60.toInt8.toInt32) (v64.toInt8.toInt32)))])) _
        refine XS.icmpNo X81.here hx rfl (hb hby at_136) rfl (teq (own_n hc105_74 : (own_w (v60.toInt8.toInt32) (v64.toInt8.toInt32)) = (0 : Int32))).2 ?_
        show Steps p.tables e below (T81.setTop (mkF m 139 (own_F8 n j i1 i2 i3 (3 : Int32) v60 v64 (i3.toInt8.toInt32) b66 (((v60 &&& (255 : Int32)) <<< ((8 : Int32) &&& 31)) ||| (v64 &&& (255 : Int32))) (0 : Int32) (1 : Int32)) [])) _
        refine XS.iload X81.here hx rfl (hb hby at_139) rfl ?_
        show Steps p.tables e below (T81.setTop (mkF m 141 (own_F8 n j i1 i2 i3 (3 : Int32) v60 v64 (i3.toInt8.toInt32) b66 (((v60 &&& (255 : Int32)) <<< ((8 : Int32) &&& 31)) ||| (v64 &&& (255 : Int32))) (0 : Int32) (1 : Int32)) [(.int (1 : Int32))])) _
        refine XS.ifNo X81.here hx rfl (hb hby at_141) rfl ((if0 _ _).trans (feq ((by decide) : ¬ ((1 : Int32) = (0 : Int32)))).1) ?_
        show Steps p.tables e below (T81.setTop (mkF m 144 (own_F8 n j i1 i2 i3 (3 : Int32) v60 v64 (i3.toInt8.toInt32) b66 (((v60 &&& (255 : Int32)) <<< ((8 : Int32) &&& 31)) ||| (v64 &&& (255 : Int32))) (0 : Int32) (1 : Int32)) [])) _
        refine XS.iconst X81.here hx rfl (hb hby at_144) ?_
        show Steps p.tables e below (T81.setTop (mkF m 145 (own_F8 n j i1 i2 i3 (3 : Int32) v60 v64 (i3.toInt8.toInt32) b66 (((v60 &&& (255 : Int32)) <<< ((8 : Int32) &&& 31)) ||| (v64 &&& (255 : Int32))) (0 : Int32) (1 : Int32)) [(.int (1 : Int32))])) _
        refine XS.goto X81.here hx rfl (pc0 := 145) (pc' := 149) rfl (hb hby at_145) (by decide) (by decide) ?_
        show Steps p.tables e below (T81.setTop (mkF m 149 (own_F8 n j i1 i2 i3 (3 : Int32) v60 v64 (i3.toInt8.toInt32) b66 (((v60 &&& (255 : Int32)) <<< ((8 : Int32) &&& 31)) ||| (v64 &&& (255 : Int32))) (0 : Int32) (1 : Int32)) [(.int (1 : Int32))])) _
        exact k
      obtain ⟨fs, hr, hrun, hended, hW, hsame⟩ := X81.leave (v := some (.int (1 : Int32))) (fun h => by rw [Bd.returns] at h; cases h)
      refine ⟨_, _, w82 _ ?_, hrun, hended, _, _, rfl, ?_, ⟨_, rfl⟩, hW, hsame.mono (by decide) (by decide)⟩
      · exact retN X81 hx (t := .boolean) Bd.returns (by simp) (hb hby at_149) hr
      · show Q0 Z n j i1 i2 i3  h0 n0 _ T81.heap _
        rw [eh81]
        exact ⟨rfl, N81⟩
set_option maxRecDepth 65536 in
set_option maxHeartbeats 40000000 in
theorem comes_1 {Post : Tables → Env → Array Value → State → Outcome → State → Prop} (hpost : ∀ tb e args s v u, (limb_1_1.after args s (.returned v) u = true ∧ limb_1_2.after args s (.returned v) u = true ∧ True) → FrameEnd s (.returned v) u (Jvm.fieldLocs frame_1_writes args s ++ Jvm.arrayLocs frame_1_arrays args s ++ Jvm.staticLocs frame_1_statics s) 16 128 → Post tb e args s (.returned v) u) :
    ArmFor flags0 classFile x code maxLocals ret World_1 tables_1 room_1 Calls_1 rest_1 Pre_1 Post := by
  intro l hfl _ _ p e ha hc hk s m args below hf hA hF happ hP
  obtain ⟨hcalls, hrest, hpre⟩ := hP
  obtain ⟨-, -, -, hnamed, -, -, -, hat⟩ := (Spec.applies_iff hf).mp happ
  obtain ⟨hg, hn⟩ := and_e (Cond.before_iff.mp (show (Jvm.Cond.and given_1 narrow_1).before args s = true from hpre))
  obtain ⟨g1, g2⟩ := and_e hg
  obtain ⟨g3, g4⟩ := and_e g2
  obtain ⟨g5, g6⟩ := and_e g4
  obtain ⟨g7, g8⟩ := and_e g6
  obtain ⟨g9, g10⟩ := and_e g8
  obtain ⟨w0, w1, w2, w3, w4, rfl⟩ : ∃ w0 w1 w2 w3 w4 : Value, args = #[w0, w1, w2, w3, w4] := by
    have hs : args.size = 5 := by simpa [Cond.value, given_1] using g1
    obtain ⟨L⟩ := args
    match L, hs with
    | [w0, w1, w2, w3, w4], _ => exact ⟨w0, w1, w2, w3, w4, rfl⟩
  have hw := fun d (hd : d ∈ tables_1) => atoms_spec (ws := Jvm.Cond.code x code maxLocals ret :: tables_1) hat d (List.mem_cons_of_mem _ hd)
  have hfit : Fit s := fun {y c} hc i hi => by
    obtain ⟨ha, rfl⟩ := Array.getElem?_eq_some_iff.mp hc
    have q := List.all_eq_true.mp ((Array.all_eq_true_iff_forall_mem.mp hF) _ (Array.getElem_mem ha)) i (List.mem_range.mpr hi)
    simpa [Array.getElem?_eq_getElem hi] using q
  obtain ⟨i0, ei0⟩ := is_v g3
  obtain rfl : w0 = (.int i0) := Option.some.inj ei0
  obtain ⟨i1, ei1⟩ := is_v g5
  obtain rfl : w1 = (.int i1) := Option.some.inj ei1
  obtain ⟨i2, ei2⟩ := is_v g7
  obtain rfl : w2 = (.int i2) := Option.some.inj ei2
  obtain ⟨i3, ei3⟩ := is_v g9
  obtain rfl : w3 = (.int i3) := Option.some.inj ei3
  obtain ⟨i4, ei4⟩ := is_v g10
  obtain rfl : w4 = (.int i4) := Option.some.inj ei4
  obtain ⟨n, o, h1, h2, h3, _, L, rfl, ⟨rfl, N⟩, hq⟩ := rm0 l s _ hw tables_1 i0 i1 i2 i3 i4 s.heap s.heap.size (Old.start s)  p e ha hc hk s m _ below hf ((Spec.applies_iff_loose hf).mp happ).1 ⟨rfl, State.Warmed39.refl s, rfl⟩ trivial
  refine ⟨n, _, h1, h2, h3, hpost _ _ _ _ _ _ ⟨Cond.after_iff.mpr rfl, Cond.after_iff.mpr (eq_i res_at (Term.int_eval (1)) rfl), trivial⟩ ⟨hq.1, hq.2.1, (hq.2.2.sift fun y hy => Or.inr (N y hy)).mono (by decide) (by decide)⟩⟩
theorem main_1_1 : Claimed_1_1 := comes_1 fun _ _ _ _ _ _ h hF => ⟨h.1, hF⟩
theorem main_1_2 : Claimed_1_2 := comes_1 fun _ _ _ _ _ _ h hF => ⟨h.2.1, hF⟩
end Jvm.Pilot.@@N@@
namespace Jvm.Pilot.@@N@@
open Jvm Jvm.ClassFile Sem Op Lib Jvm.Free Jvm.Stand Jvm.Pilot.@@N@@.Jvm.D
/-! MADE BY PROGRAM (witnessworld.py) out of the Statement's table words and the real class files: 9 classes; the members and pool entries that the words name. The judged class is class 1, her method 1. -/
namespace start1
open Jvm.ClassFile
def u (s : String) : CpInfo := .utf8 (stringToUtf16 s)
/-- a pool by its gaps: so many unusable entries, then the entry; so many at the end -/
def gap : Nat → List CpInfo → List CpInfo
  | 0, r => r
  | n + 1, r => .unusable :: gap n r
def poolList (es : List (Nat × CpInfo)) (last : Nat) : List CpInfo := es.foldr (fun e r => gap e.1 (e.2 :: r)) (gap last [])
def pool (es : List (Nat × CpInfo)) (last : Nat) : Array CpInfo := ⟨poolList es last⟩
def fileOf (pool : Array CpInfo) (this : Nat) (attrs : Array Attribute := #[]) (ms : Array MethodInfo := #[]) (fl : Nat := 33) (sup : Nat := 0) (ifs : Array Nat := #[]) (fds : Array FieldInfo := #[]) : ClassFile where
  minorVersion := 0
  majorVersion := 65
  constantPool := pool
  accessFlags := fl
  thisClass := this
  superClass := sup
  interfaces := ifs
  fields := fds
  methods := ms
  attributes := attrs
def plain (name : String) (sup : Option ClassId) : Class where
  name := name
  kind := .ordinary
  loader := none
  accessFlags := 33
  super := sup
  interfaces := #[]
  cf := none
  fields := #[]
  methods := #[]
  instanceTypes := #[]
  staticTypes := #[]
  resolved := #[]
  callSites := []
  init := .initialized
  statics := none
  mirror := none

def pool0 : Array CpInfo := pool [(5, u "<init>"), (0, u "()V"), (1, .class_ 10), (1, u "java/lang/Object")] 113

def k0m0 : Method := { name := "<init>", desc := "()V", sig := { parameters := [], returnType := none }, accessFlags := 1, code := none }
/-- java/lang/Object -/
def k0 : Class := { plain "java/lang/Object" none with
  accessFlags := 33
  interfaces := #[]
  cf := some (fileOf pool0 8 #[] #[{ accessFlags := 1, nameIndex := 5, descriptorIndex := 6, attributes := #[] }] 33 0 #[] #[])
  fields := #[]
  methods := #[k0m0]
  instanceTypes := #[]
  staticTypes := #[]
  resolved := Array.replicate 124 none
  statics := none }

def pool1 : Array CpInfo := pool [(2, .class_ 4), (1, u "java/lang/Object"), (0, u "<init>"), (0, u "()V"), (0, .methodref 8 9), (0, .class_ 10), (0, .nameAndType 11 12), (0, u "com/example/hashmesh/hashmesh/wire/Packet"), (0, u "encodeWithoutJson"), (0, u "(I)[B"), (0, .methodref 8 14), (0, .nameAndType 15 16), (0, u "isWithoutJson"), (0, u "([B)Z"), (0, .class_ 18), (0, u "com/example/hashmesh/hashmesh/wire/PacketIsWithoutJsonPinLaw"), (2, u "law"), (0, u "(IIIII)Z")] 5

def k1m0 : Method := { name := "<init>", desc := "()V", sig := { parameters := [], returnType := none }, accessFlags := 1, code := none }
def k1c1 : Code := { maxStack := 3, maxLocals := 13, code := code, exceptionTable := #[], attributes := #[] }
def k1m1 : Method := { name := "law", desc := "(IIIII)Z", sig := { parameters := [.int, .int, .int, .int, .int], returnType := some .boolean }, accessFlags := 9, code := some k1c1 }
/-- com/example/hashmesh/hashmesh/wire/PacketIsWithoutJsonPinLaw -/
def k1 : Class := { plain "com/example/hashmesh/hashmesh/wire/PacketIsWithoutJsonPinLaw" (some 0) with
  accessFlags := 49
  interfaces := #[]
  cf := some (fileOf pool1 17 #[] #[{ accessFlags := 1, nameIndex := 5, descriptorIndex := 6, attributes := #[] }, { accessFlags := 9, nameIndex := 21, descriptorIndex := 22, attributes := #[] }] 49 2 #[] #[])
  fields := #[]
  methods := #[k1m0, k1m1]
  instanceTypes := #[]
  staticTypes := #[]
  resolved := Array.replicate 28 none
  statics := none }

def pool2 : Array CpInfo := pool [(2, .class_ 4), (1, u "java/lang/Object"), (3, .class_ 10), (1, u "com/example/hashmesh/hashmesh/wire/Packet"), (0, u "jsonText"), (0, u "Ljava/lang/String;"), (2, u "jsonBytes"), (0, u "[B"), (2, u "json"), (0, u "Ljava/util/Map;"), (2, u "bytes"), (2, u "bodyOffset"), (0, u "I"), (2, u "bodyLength"), (39, u "NO_BODY"), (95, u "MAX_DATAGRAM"), (2, u "LENGTH_BYTES"), (1, u "MAX_JSON"), (16, u "encodeWithoutJson"), (0, u "(I)[B"), (0, u "isWithoutJson"), (0, u "([B)Z")] 9

def k2c0 : Code := { maxStack := 2, maxLocals := 1, code := prog_143_method_11_code, exceptionTable := #[], attributes := #[] }
def k2m0 : Method := { name := "encodeWithoutJson", desc := "(I)[B", sig := { parameters := [.int], returnType := some (.array .byte) }, accessFlags := 9, code := some k2c0 }
def k2c1 : Code := { maxStack := 2, maxLocals := 1, code := prog_143_method_12_code, exceptionTable := #[], attributes := #[] }
def k2m1 : Method := { name := "isWithoutJson", desc := "([B)Z", sig := { parameters := [(.array .byte)], returnType := some .boolean }, accessFlags := 9, code := some k2c1 }
/-- com/example/hashmesh/hashmesh/wire/Packet -/
def k2 : Class := { plain "com/example/hashmesh/hashmesh/wire/Packet" (some 0) with
  accessFlags := 49
  interfaces := #[]
  cf := some (fileOf pool2 8 #[] #[{ accessFlags := 9, nameIndex := 188, descriptorIndex := 189, attributes := #[] }, { accessFlags := 9, nameIndex := 190, descriptorIndex := 191, attributes := #[] }] 49 2 #[] #[{ accessFlags := 25, nameIndex := 166, descriptorIndex := 27, attributes := #[] }, { accessFlags := 25, nameIndex := 169, descriptorIndex := 27, attributes := #[] }, { accessFlags := 26, nameIndex := 171, descriptorIndex := 27, attributes := #[] }, { accessFlags := 26, nameIndex := 70, descriptorIndex := 16, attributes := #[] }, { accessFlags := 18, nameIndex := 11, descriptorIndex := 12, attributes := #[] }, { accessFlags := 18, nameIndex := 15, descriptorIndex := 16, attributes := #[] }, { accessFlags := 66, nameIndex := 19, descriptorIndex := 20, attributes := #[] }, { accessFlags := 18, nameIndex := 23, descriptorIndex := 16, attributes := #[] }, { accessFlags := 18, nameIndex := 26, descriptorIndex := 27, attributes := #[] }, { accessFlags := 18, nameIndex := 30, descriptorIndex := 27, attributes := #[] }])
  fields := #[{ name := "MAX_DATAGRAM", type := .int, accessFlags := 25, slot := 0, constantValue := 0 }, { name := "LENGTH_BYTES", type := .int, accessFlags := 25, slot := 1, constantValue := 0 }, { name := "MAX_JSON", type := .int, accessFlags := 26, slot := 2, constantValue := 0 }, { name := "NO_BODY", type := (.array .byte), accessFlags := 26, slot := 3, constantValue := 0 }, { name := "jsonText", type := (.object "java/lang/String"), accessFlags := 18, slot := 0, constantValue := 0 }, { name := "jsonBytes", type := (.array .byte), accessFlags := 18, slot := 1, constantValue := 0 }, { name := "json", type := (.object "java/util/Map"), accessFlags := 66, slot := 2, constantValue := 0 }, { name := "bytes", type := (.array .byte), accessFlags := 18, slot := 3, constantValue := 0 }, { name := "bodyOffset", type := .int, accessFlags := 18, slot := 4, constantValue := 0 }, { name := "bodyLength", type := .int, accessFlags := 18, slot := 5, constantValue := 0 }]
  methods := #[k2m0, k2m1]
  instanceTypes := #[(.object "java/lang/String"), (.array .byte), (.object "java/util/Map"), (.array .byte), .int, .int]
  staticTypes := #[.int, .int, .int, (.array .byte)]
  resolved := Array.replicate 201 none
  statics := none }

def pool3 : Array CpInfo := pool [(1, u "java/lang/Cloneable"), (0, .class_ 1), (0, u "java/lang/Object"), (0, .class_ 3)] 3

/-- java/lang/Cloneable -/
def k3 : Class := { plain "java/lang/Cloneable" (some 0) with
  accessFlags := 1537
  interfaces := #[]
  cf := some (fileOf pool3 2 #[] #[] 1537 4 #[] #[])
  fields := #[]
  methods := #[]
  instanceTypes := #[]
  staticTypes := #[]
  resolved := Array.replicate 8 none
  statics := none }

def pool4 : Array CpInfo := pool [(1, u "java/io/Serializable"), (0, .class_ 1), (0, u "java/lang/Object"), (0, .class_ 3)] 3

/-- java/io/Serializable -/
def k4 : Class := { plain "java/io/Serializable" (some 0) with
  accessFlags := 1537
  interfaces := #[]
  cf := some (fileOf pool4 2 #[] #[] 1537 4 #[] #[])
  fields := #[]
  methods := #[]
  instanceTypes := #[]
  staticTypes := #[]
  resolved := Array.replicate 8 none
  statics := none }

/-- the primitive byte -/
def k5 : Class := { plain "byte" none with kind := .primitive 'B', accessFlags := 0x411 }
/-- [B -/
def k6 : Class := { plain "[B" (some 0) with kind := .array 5 .byte, interfaces := #[3, 4], accessFlags := 1041 }

/-- the primitive int -/
def k7 : Class := { plain "int" none with kind := .primitive 'I', accessFlags := 0x411 }
/-- [I -/
def k8 : Class := { plain "[I" (some 0) with kind := .array 7 .int, interfaces := #[3, 4], accessFlags := 1041 }

def heap : Heap := #[]
def classes : Array Class := #[k0, k1, k2, k3, k4, k5, k6, k7, k8]
def interned : List (Array UInt16 × Addr) := []
def slotsUsed : Nat := 0
def theMethod : MethodId := ⟨1, 1⟩
def args0 : Array Value := #[.int 3, .int 1, .int 7, .int 0, .int 9]
def aboutOver (below : List Frame) : State where
  vm := { classes := classes, interned := interned.toArray }
  heap := heap
  slotsUsed := slotsUsed
  threads := #[{ frames := .invoking theMethod args0 :: below }]
def below0 : List Frame := [.native { method := ⟨0, 0⟩, args := #[] }]
def about1 : State := aboutOver below0
def p0 : Program := .bare "" "" ""
def e0 : Env := launch0.env 0 0 0
theorem w_frames : about1.frames = Frame.invoking theMethod args0 :: below0 := rfl
set_option maxRecDepth 65536 in
theorem w_args : argsFit about1.vm theMethod args0 = true := by decide +kernel
set_option maxRecDepth 65536 in
theorem w_heap : heapFits about1 = true := by decide +kernel
set_option maxRecDepth 65536 in
theorem w_runnable : about1.curStatus? = some .runnable := by decide +kernel
set_option maxRecDepth 65536 in
theorem w_alone : about1.alone = true := by decide +kernel
set_option maxRecDepth 65536 in
theorem w_named : about1.methodNamed? x = some theMethod := by decide +kernel
set_option maxRecDepth 65536 in
theorem w_hears : about1.hears theMethod below0 = true := by decide +kernel
set_option maxRecDepth 65536 in
theorem w_ripe : about1.ripe theMethod args0 below0 = true := by decide +kernel
theorem w_running : about1.status = .running := rfl
set_option maxRecDepth 65536 in
theorem w_room : about1.hasRoom e0.platform room_1 = true :=
  launch0.hasRoom_least _ room_1 (by decide +kernel) (by decide +kernel) (by decide +kernel) (by decide +kernel) (by decide +kernel) (by decide +kernel)
theorem allAtoms_all (ts : List Jvm.Cond) (a : Array Jvm.Value) (st : Jvm.State) : (allAtoms ts).before a st = ts.all (fun c => c.before a st) := by
  induction ts with
  | nil => rfl
  | cons c t ih =>
    show (Jvm.Cond.and c (allAtoms t)).before a st = _
    rw [Jvm.Cond.before_and, ih, List.all_cons]
def words1 : List Jvm.Cond := Jvm.Cond.code x code maxLocals ret :: tables_1
/-- a 'code' word, met by the world's own term for the bytes: nothing is compared byte by byte -/
theorem code_word {y : MethodName} {bytes : ByteArray} {mx : Nat} {rt : Option FieldType} {a : Array Value} {s : State} {m : MethodId} {meth : Method} {c : Code} (h1 : s.methodNamed? y = some m) (h2 : s.vm.method? m = some meth) (h3 : meth.code = some c) (h4 : c.code = bytes)
    (h5 : (c.maxLocals == mx && c.exceptionTable.isEmpty && decide (c.maxStack ≤ mostOperands) && decide (meth.sig.returnType = rt) && !meth.locks && decide (parseMethodDescriptor y.desc = some meth.sig)) = true) : (Jvm.Cond.code y bytes mx rt).before a s = true := by
  simp only [Bool.and_eq_true, beq_iff_eq, Bool.not_eq_true', decide_eq_true_eq] at h5
  obtain ⟨⟨⟨⟨⟨g1, g2⟩, g3⟩, g4⟩, g5⟩, g6⟩ := h5
  simp [Cond.before, Cond.holds, Cond.value, h1, h2, h3, h4, g1, g2, g3, g4, g5, g6]
def isCode : Jvm.Cond → Bool
  | .code _ _ _ _ => true
  | _ => false
theorem all_split {L : List Jvm.Cond} {P : Jvm.Cond → Bool} (h1 : L.all (fun c => isCode c || P c) = true) (h2 : ∀ c ∈ L.filter isCode, P c = true) : L.all P = true := by
  refine List.all_eq_true.mpr fun c hc => ?_
  have h := List.all_eq_true.mp h1 c hc
  rcases Bool.eq_false_or_eq_true (isCode c) with hi | hi
  · exact h2 c (List.mem_filter.mpr ⟨hc, hi⟩)
  · simpa [hi] using h
set_option maxRecDepth 65536 in
theorem w_c0 : (Jvm.Cond.code x code maxLocals ret).before args0 about1 = true := code_word (m := ⟨1, 1⟩) (meth := k1m1) (c := k1c1) (by decide +kernel) rfl rfl rfl (by decide +kernel)
set_option maxRecDepth 65536 in
theorem w_c1 : (Jvm.Cond.code ({ cls := "com/example/hashmesh/hashmesh/wire/Packet", name := "encodeWithoutJson", desc := "(I)[B" } : Jvm.MethodName) prog_143_method_11_code (1 : Nat) (Option.some (Jvm.ClassFile.FieldType.array Jvm.ClassFile.FieldType.byte))).before args0 about1 = true := code_word (m := ⟨2, 0⟩) (meth := k2m0) (c := k2c0) (by decide +kernel) rfl rfl rfl (by decide +kernel)
set_option maxRecDepth 65536 in
theorem w_c2 : (Jvm.Cond.code ({ cls := "com/example/hashmesh/hashmesh/wire/Packet", name := "isWithoutJson", desc := "([B)Z" } : Jvm.MethodName) prog_143_method_12_code (1 : Nat) (Option.some Jvm.ClassFile.FieldType.boolean)).before args0 about1 = true := code_word (m := ⟨2, 1⟩) (meth := k2m1) (c := k2c1) (by decide +kernel) rfl rfl rfl (by decide +kernel)
def codes1 : List Jvm.Cond := [Jvm.Cond.code x code maxLocals ret, Jvm.Cond.code ({ cls := "com/example/hashmesh/hashmesh/wire/Packet", name := "encodeWithoutJson", desc := "(I)[B" } : Jvm.MethodName) prog_143_method_11_code (1 : Nat) (Option.some (Jvm.ClassFile.FieldType.array Jvm.ClassFile.FieldType.byte)), Jvm.Cond.code ({ cls := "com/example/hashmesh/hashmesh/wire/Packet", name := "isWithoutJson", desc := "([B)Z" } : Jvm.MethodName) prog_143_method_12_code (1 : Nat) (Option.some Jvm.ClassFile.FieldType.boolean)]
set_option maxRecDepth 65536 in
theorem codes_eq : words1.filter isCode = codes1 := rfl
theorem w_codes : ∀ c ∈ words1.filter isCode, c.before args0 about1 = true := by
  rw [codes_eq]
  intro c hc
  simp only [codes1, List.mem_cons, List.not_mem_nil, or_false] at hc
  rcases hc with rfl | rfl | rfl
  · exact w_c0
  · exact w_c1
  · exact w_c2
set_option maxRecDepth 65536 in
theorem w_t1 : words1.all (fun c => isCode c || c.before args0 about1) = true := by decide +kernel
theorem w_tables : (allAtoms (Jvm.Cond.code x code maxLocals ret :: tables_1)).before args0 about1 = true := by
  rw [allAtoms_all]
  show words1.all (fun c => c.before args0 about1) = true
  refine all_split ?_ w_codes
  rw [w_t1]
set_option maxRecDepth 65536 in
theorem w_case : (Jvm.Cond.and given_1 narrow_1).before args0 about1 = true := by decide +kernel
theorem w_applies : (headSpec (Jvm.Cond.code x code maxLocals ret :: tables_1) room_1).applies x e0.platform about1 = true :=
  (Spec.applies_iff w_frames).mpr ⟨w_running, w_runnable, w_alone, w_named, w_hears, w_ripe, w_room, w_tables⟩
theorem atStart : AtStart classFile x code maxLocals ret World_1 tables_1 room_1 Calls_1 rest_1 Pre_1 launch0 p0 e0 about1 theMethod args0 below0 :=
  ⟨lists_1, trivial, launch0.admits_env _ _ _, launch0.least_env, fairChoices_fair.cas, fairChoices_fair.clock, w_frames, w_args, w_heap, w_applies, trivial, trivial, w_case⟩
end start1
theorem witness_1 : WitnessClaimed_1 := ⟨start1.p0, start1.e0, start1.about1, start1.theMethod, start1.args0, start1.below0, start1.atStart⟩
end Jvm.Pilot.@@N@@
