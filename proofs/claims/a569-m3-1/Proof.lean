import JvmDerived
import JvmDerived.Pilot.@@N@@Statement
import JvmDerived.Pilot.@@N@@Code
set_option linter.unusedVariables false
set_option linter.unusedSimpArgs false
namespace Jvm.RoadKit
open Sem ClassFile Op Lib Jvm.Stand Jvm.Free Jvm.LawKit
section New
variable {p : Program} {l : Launch} {e : Env} {R : Room} {s : State} {m : MethodId} {args : Array Value} {below : List Frame} {meth : Method} {c : Code} {T : State} {locs : List Loc} {cells slots : Nat}
theorem retI (X : Stand p l e R s m args below meth c T locs cells slots) (hx : p.tables.exec = Jvm.exec) {pc : Nat} {Ls : Array Slot} {z : Int32} {rest : List Value} (hret : meth.sig.returnType = some .int) (hd : decode c.code pc = .ok (.ireturn, 1)) {fs : List Frame}
    (hl : ∀ (f : JFrame) (acts : List Action), f.method = m → f.locked = none → f.entered = [] → (doReturn e (T.setTop f) acts (some (.int z))).1 = T.setFrames fs) : Steps p.tables e below (T.setTop (mkF m pc Ls (.int z :: rest))) (T.setFrames fs) := by
  have hm' : T.vm.method? m = some meth := X.method'
  have hn : narrow .int (.int z) = .int z := rfl
  show Steps p.tables e below (T.setTop { method := m, pc := pc, locals := Ls, stack := _ :: rest, locked := none }) _
  jvm_step X.here [X.here.top, hx, hd, hm', hret, hn]
  first | (intro acts; rw [hl _ acts rfl rfl rfl]) | rw [hl _ _ rfl rfl rfl]
  exact Steps.refl _
end New
end Jvm.RoadKit
namespace Jvm.Pilot.@@N@@
open Jvm Jvm.ClassFile Sem Op Lib Jvm.Free Jvm.Stand Jvm.LawKit Jvm.RoadKit Bundle Jvm.Pilot.@@N@@.Jvm.D
theorem own_fld {args : Array Value} {s : State} {t r : Term} {C n d : String} {a : Addr} {v : Value} (ht : t.eval args s none [] s = some (.ref a)) (hr : r.eval args s none [] s = some v) (h : (Jvm.Cond.eq (.field t C n d) r).value args s none s [] = some true) : s.fieldOf? a C n d = some v := by
  obtain ⟨x, y, h1, h2, hk, -⟩ := cmp_v (Or.inl h)
  have e1 : s.fieldOf? a C n d = some x := (fld_at ht).symm.trans h1
  cases hr.symm.trans h2
  rw [e1]
  simp only [Cond.value, h1, hr] at h
  cases x <;> cases v <;> simp_all [Kin, Value.isRef]
theorem own_xs {q : Int64} : lcmpW (q ^^^ (1000000000 : Int64)) 0 < 0 ↔ q.toInt < 0 := by
  rw [lw_lt, Int64.lt_iff_toInt_lt]
  have e := c_xorSL q 1000000000
  simp only [show (0 : Int64).toInt = 0 from rfl, show (1000000000 : Int64).toInt = 1000000000 from rfl] at *
  omega
theorem own_q (q : Int64) : (0 ≤ q.toInt → (q / (1000000000 : Int64)).toInt = q.toInt / 1000000000) ∧ (q.toInt < 0 → (q / (1000000000 : Int64)).toInt = -((-q.toInt) / 1000000000)) := c_ldiv q 1000000000 1000000000 rfl (by decide)
theorem own_r (q : Int64) : (0 ≤ q.toInt → (q - q / (1000000000 : Int64) * (1000000000 : Int64)).toInt = q.toInt % 1000000000) ∧ (q.toInt < 0 → (q - q / (1000000000 : Int64) * (1000000000 : Int64)).toInt = -((-q.toInt) % 1000000000)) := c_lrem q 1000000000 1000000000 rfl
theorem own_fd1 {q : Int64} (h : ¬ lcmpW (q ^^^ (1000000000 : Int64)) 0 < 0) : (q / (1000000000 : Int64)).toInt = q.toInt / 1000000000 := by
  rw [own_xs] at h
  have e := own_q q
  omega
theorem own_qm {q : Int64} (h : q.toInt < 0) : (q / (1000000000 : Int64) * (1000000000 : Int64)).toInt = -((-q.toInt) / 1000000000) * 1000000000 := by
  have e := own_q q
  have f := c_lmul (q / 1000000000) 1000000000
  have r := rng64 (q / 1000000000 * 1000000000)
  have s := rng64 q
  simp only [show (1000000000 : Int64).toInt = 1000000000 from rfl] at f
  omega
theorem own_fd2 {q : Int64} (h : lcmpW (q ^^^ (1000000000 : Int64)) 0 < 0) (k : lcmpW (q / (1000000000 : Int64) * (1000000000 : Int64)) q = 0) : (q / (1000000000 : Int64)).toInt = q.toInt / 1000000000 := by
  rw [own_xs] at h
  rw [lw_eq, ← Int64.toInt_inj, own_qm h] at k
  have e := own_q q
  omega
theorem own_fd3 {q : Int64} (h : lcmpW (q ^^^ (1000000000 : Int64)) 0 < 0) (k : ¬ lcmpW (q / (1000000000 : Int64) * (1000000000 : Int64)) q = 0) : (q / (1000000000 : Int64) - (1 : Int64)).toInt = q.toInt / 1000000000 := by
  rw [own_xs] at h
  rw [lw_eq, ← Int64.toInt_inj, own_qm h] at k
  have e := own_q q
  have f := c_lsub (q / 1000000000) 1
  have r := rng64 (q / 1000000000 - 1)
  have s := rng64 q
  simp only [show (1 : Int64).toInt = 1 from rfl] at f
  omega
theorem own_fm1 {q : Int64} (h : ¬ lcmpW (q ^^^ (1000000000 : Int64)) 0 < 0) : (q - q / (1000000000 : Int64) * (1000000000 : Int64)).toInt = q.toInt % 1000000000 := by
  rw [own_xs] at h
  have e := own_r q
  omega
theorem own_fm2 {q : Int64} (h : lcmpW (q ^^^ (1000000000 : Int64)) 0 < 0) (k : lcmpW (q - q / (1000000000 : Int64) * (1000000000 : Int64)) 0 = 0) : (q - q / (1000000000 : Int64) * (1000000000 : Int64)).toInt = q.toInt % 1000000000 := by
  rw [own_xs] at h
  rw [lw_eq, ← Int64.toInt_inj] at k
  have e := own_r q
  simp only [show (0 : Int64).toInt = 0 from rfl] at k
  omega
theorem own_fm3 {q : Int64} (h : lcmpW (q ^^^ (1000000000 : Int64)) 0 < 0) (k : ¬ lcmpW (q - q / (1000000000 : Int64) * (1000000000 : Int64)) 0 = 0) : (q - q / (1000000000 : Int64) * (1000000000 : Int64) + (1000000000 : Int64)).toInt = q.toInt % 1000000000 := by
  rw [own_xs] at h
  rw [lw_eq, ← Int64.toInt_inj] at k
  have e := own_r q
  have f := c_ladd (q - q / 1000000000 * 1000000000) 1000000000
  have r := rng64 (q - q / 1000000000 * 1000000000 + 1000000000)
  simp only [show (0 : Int64).toInt = 0 from rfl, show (1000000000 : Int64).toInt = 1000000000 from rfl] at k f
  omega
theorem own_add {q r : Int64} (h : -9223372036854775808 ≤ q.toInt + r.toInt ∧ q.toInt + r.toInt < 9223372036854775808) : (q + r).toInt = q.toInt + r.toInt := by
  have f := c_ladd q r
  have s := rng64 (q + r)
  omega
theorem own_ax {q r : Int64} (h : -9223372036854775808 ≤ q.toInt + r.toInt ∧ q.toInt + r.toInt < 9223372036854775808) : ¬ lcmpW ((q ^^^ (q + r)) &&& (r ^^^ (q + r))) 0 < 0 := by
  rw [lw_lt, Int64.lt_iff_toInt_lt, show (0 : Int64).toInt = 0 from rfl]
  have e := own_add h
  have f := c_xorSL q (q + r)
  have g := c_xorSL r (q + r)
  have k := c_andSL (q ^^^ (q + r)) (r ^^^ (q + r))
  omega
theorem own_mul {q : Int64} (h : -9223372036854775808 ≤ q.toInt * 1000000000 ∧ q.toInt * 1000000000 < 9223372036854775808) : (q * (1000000000 : Int64)).toInt = q.toInt * 1000000000 := by
  have f := c_lmul q 1000000000
  have s := rng64 (q * 1000000000)
  simp only [show (1000000000 : Int64).toInt = 1000000000 from rfl] at f
  omega
theorem own_md {q : Int64} (h : -9223372036854775808 ≤ q.toInt * 1000000000 ∧ q.toInt * 1000000000 < 9223372036854775808) : lcmpW (q * (1000000000 : Int64) / (1000000000 : Int64)) q = 0 := by
  rw [lw_eq, ← Int64.toInt_inj]
  have e := own_mul h
  have f := own_q (q * 1000000000)
  omega
theorem own_mn {q : Int64} (h : -9223372036854775808 ≤ q.toInt * 1000000000 ∧ q.toInt * 1000000000 < 9223372036854775808) : ¬ lcmpW q (-9223372036854775808 : Int64) = 0 := by
  rw [lw_eq, ← Int64.toInt_inj, show (-9223372036854775808 : Int64).toInt = -9223372036854775808 from rfl]
  omega
def own_abs (q : Int64) : Int64 := if lcmpW q 0 < 0 then -q else q
theorem own_rg {q : Int64} (h : -31557014167219200 ≤ q.toInt ∧ q.toInt ≤ 31556889864403199) : ¬ lcmpW q (-31557014167219200 : Int64) < 0 ∧ ¬ 0 < lcmpW q (31556889864403199 : Int64) := by
  rw [lw_lt, lw_gt, Int64.lt_iff_toInt_lt, Int64.lt_iff_toInt_lt, show (-31557014167219200 : Int64).toInt = -31557014167219200 from rfl, show (31556889864403199 : Int64).toInt = 31556889864403199 from rfl]
  omega
theorem own_oz {q : Int64} {i : Int32} (h : lcmpW (q ||| i.toInt64) 0 = 0) : q = 0 ∧ i = 0 := by
  rw [lw_eq, Int64.or_eq_zero_iff] at h
  refine ⟨h.1, ?_⟩
  have e := c_i2l i
  rw [h.2] at e
  rw [← Int32.toInt_inj, ← e]
  rfl
theorem own_l2i {r : Int64} (h : 0 ≤ r.toInt ∧ r.toInt < 1000000000) : r.toInt32.toInt = r.toInt := by
  have e := c_l2i r
  have s := rng32 r.toInt32
  omega
theorem own_v {q v : Int64} (h : v = if lcmpW q (-9223372036000000000 : Int64) < 0 then q - (-9223372036854775808 : Int64) else q) : -9223372036000000000 ≤ v.toInt := by
  have s := rng64 q
  by_cases c : lcmpW q (-9223372036000000000 : Int64) < 0
  · rw [if_pos c] at h
    rw [lw_lt, Int64.lt_iff_toInt_lt, show (-9223372036000000000 : Int64).toInt = -9223372036000000000 from rfl] at c
    have f := c_lsub q (-9223372036854775808)
    have t := rng64 (q - (-9223372036854775808 : Int64))
    rw [show (-9223372036854775808 : Int64).toInt = -9223372036854775808 from rfl] at f
    subst h
    omega
  · rw [if_neg c] at h
    rw [lw_lt, Int64.lt_iff_toInt_lt, show (-9223372036000000000 : Int64).toInt = -9223372036000000000 from rfl] at c
    subst h
    omega
theorem own_fin {v u : Int64} {i : Int32} (hv : -9223372036000000000 ≤ v.toInt) (hu : u.toInt = v.toInt / 1000000000) (hi : i.toInt = v.toInt % 1000000000) : lcmpW (u * (1000000000 : Int64) + i.toInt64) v = 0 := by
  rw [lw_eq, ← Int64.toInt_inj]
  have s := rng64 v
  have e := own_mul (q := u) (by omega)
  have f := own_add (q := u * 1000000000) (r := i.toInt64) (by rw [c_i2l]; omega)
  rw [f, e, c_i2l]
  omega
theorem d2_0 : decode jdk_29_method_49_code 0 = .ok (.lload_n 0, 1) := by decide +kernel
theorem d2_1 : decode jdk_29_method_49_code 1 = .ok (.lload_n 2, 1) := by decide +kernel
theorem d2_2 : decode jdk_29_method_49_code 2 = .ok (.ldiv, 1) := by decide +kernel
theorem d2_3 : decode jdk_29_method_49_code 3 = .ok (.lstore 4, 2) := by decide +kernel
theorem d2_5 : decode jdk_29_method_49_code 5 = .ok (.lload_n 0, 1) := by decide +kernel
theorem d2_6 : decode jdk_29_method_49_code 6 = .ok (.lload_n 2, 1) := by decide +kernel
theorem d2_7 : decode jdk_29_method_49_code 7 = .ok (.lxor, 1) := by decide +kernel
theorem d2_8 : decode jdk_29_method_49_code 8 = .ok (.lconst 0, 1) := by decide +kernel
theorem d2_9 : decode jdk_29_method_49_code 9 = .ok (.lcmp, 1) := by decide +kernel
theorem d2_10 : decode jdk_29_method_49_code 10 = .ok (.ifCond .ge 17, 3) := by decide +kernel
theorem d2_13 : decode jdk_29_method_49_code 13 = .ok (.lload 4, 2) := by decide +kernel
theorem d2_15 : decode jdk_29_method_49_code 15 = .ok (.lload_n 2, 1) := by decide +kernel
theorem d2_16 : decode jdk_29_method_49_code 16 = .ok (.lmul, 1) := by decide +kernel
theorem d2_17 : decode jdk_29_method_49_code 17 = .ok (.lload_n 0, 1) := by decide +kernel
theorem d2_18 : decode jdk_29_method_49_code 18 = .ok (.lcmp, 1) := by decide +kernel
theorem d2_19 : decode jdk_29_method_49_code 19 = .ok (.ifCond .eq 8, 3) := by decide +kernel
theorem d2_27 : decode jdk_29_method_49_code 27 = .ok (.lload 4, 2) := by decide +kernel
theorem d2_29 : decode jdk_29_method_49_code 29 = .ok (.lreturn, 1) := by decide +kernel
theorem d2_22 : decode jdk_29_method_49_code 22 = .ok (.lload 4, 2) := by decide +kernel
theorem d2_24 : decode jdk_29_method_49_code 24 = .ok (.lconst 1, 1) := by decide +kernel
theorem d2_25 : decode jdk_29_method_49_code 25 = .ok (.lsub, 1) := by decide +kernel
theorem d2_26 : decode jdk_29_method_49_code 26 = .ok (.lreturn, 1) := by decide +kernel
theorem ef_2 (m : MethodId) (x0 : Int64) : entryFrame m #[(.long x0), (.long (1000000000 : Int64))] 6 = mkF m 0 #[.val (.long x0), .second, .val (.long (1000000000 : Int64)), .second, .unset, .unset] [] := by first | (simp [entryFrame, mkF, argsToLocals, Value.category]; done) | rfl
def Q2 (Z : State) (q : Int64) (h0 : Heap) (n0 : Nat) (v : Option Value) (h : Heap) (L : List Loc) : Prop := ∃ r : Int64, v = some (.long r) ∧ Fr n0 L ∧ h = h0 ∧ r.toInt = q.toInt / 1000000000
set_option maxRecDepth 65536 in
set_option maxHeartbeats 40000000 in
theorem rm2 (l : Launch) (Z : State) (a0 : Array Value) (hw : ∀ d ∈ tables_1, d.before a0 Z = true) (ws : List Jvm.Cond) (q : Int64) (h0 : Heap) (n0 : Nat) (O0 : Old Z n0 h0) :
    MetFree l (⟨"java/lang/Math", "floorDiv", "(JJ)J"⟩ : MethodName) (head1 (Jvm.Cond.code (⟨"java/lang/Math", "floorDiv", "(JJ)J"⟩ : MethodName) jdk_29_method_49_code 6 (some .long) :: ws) ({ frames := 0, cells := 0, slots := 0, locals := 0 } : Room)) (fun aA uU => aA = #[(.long q), (.long (1000000000 : Int64))] ∧ Z.Warmed39 uU.vm ∧ uU.heap = h0) (fun _ _ _ _ _ => True) (fun _ uU oO uU' => ∃ vV lL, oO = .returned vV ∧ Q2 Z q  h0 n0 vV uU'.heap lL ∧ FrameEnd uU oO uU' lL ({ frames := 0, cells := 0, slots := 0, locals := 0 } : Room).cells ({ frames := 0, cells := 0, slots := 0, locals := 0 } : Room).slots) := by
  refine MetFree.of_bodySF (Jvm.Free.JP.mathPlain rfl (by decide +kernel)) hisR ?_
  intro p e s m args below meth c s₁ Bd hml0 hP hK
  obtain ⟨rfl, hZ, hh⟩ := hP
  have hx := Bd.exec
  have hby := Bd.bytes
  have hml : c.maxLocals = 6 := hml0
  have hown : s.vm.findClass "java/lang/Math" = some m.cls := findClass_of_methodNamed Bd.named
  have hnm := (name_of_methodNamed Bd.named Bd.method).1
  have X0 : Stand p l e ({ frames := 0, cells := 0, slots := 0, locals := 0 } : Room) s m #[(.long q), (.long (1000000000 : Int64))] below meth c s₁ [] 0 0 := Stand.of_body Bd
  have e0 : s₁.heap = h0 := by rw [← hh, Bd.state]; rfl
  have N0 := Fr.nil n0
  have O := O0
  have pre0 : ∀ t, Steps p.tables e below (s₁.setTop (mkF m 0 #[.val (.long q), .second, .val (.long (1000000000 : Int64)), .second, .unset, .unset] [])) t → Steps p.tables e below (s₁.setTop (entryFrame m #[(.long q), (.long (1000000000 : Int64))] 6)) t := fun t k => castTop (ef_2 m q) k
  have w1 : ∀ t, Steps p.tables e below (s₁.setTop (mkF m 10 #[.val (.long q), .second, .val (.long (1000000000 : Int64)), .second, .val (.long (q / (1000000000 : Int64))), .second] [(.int (lcmpW (q ^^^ (1000000000 : Int64)) (0 : Int64)))])) t → Steps p.tables e below (s₁.setTop (entryFrame m #[(.long q), (.long (1000000000 : Int64))] 6)) t := fun t k => by
    refine pre0 t ?_
    refine XS.lloadN X0.here hx rfl (hb hby d2_0) rfl ?_
    show Steps p.tables e below (s₁.setTop (mkF m 1 #[.val (.long q), .second, .val (.long (1000000000 : Int64)), .second, .unset, .unset] [(.long q)])) _
    refine XS.lloadN X0.here hx rfl (hb hby d2_1) rfl ?_
    show Steps p.tables e below (s₁.setTop (mkF m 2 #[.val (.long q), .second, .val (.long (1000000000 : Int64)), .second, .unset, .unset] [(.long (1000000000 : Int64)), (.long q)])) _
    refine XS.ldiv X0.here hx rfl (hb hby d2_2) rfl (by decide) ?_
    show Steps p.tables e below (s₁.setTop (mkF m 3 #[.val (.long q), .second, .val (.long (1000000000 : Int64)), .second, .unset, .unset] [(.long (q / (1000000000 : Int64)))])) _
    refine XS.lstore X0.here hx rfl (hb hby d2_3) rfl (l' := #[.val (.long q), .second, .val (.long (1000000000 : Int64)), .second, .val (.long (q / (1000000000 : Int64))), .second]) rfl ?_
    show Steps p.tables e below (s₁.setTop (mkF m 5 #[.val (.long q), .second, .val (.long (1000000000 : Int64)), .second, .val (.long (q / (1000000000 : Int64))), .second] [])) _
    refine XS.lloadN X0.here hx rfl (hb hby d2_5) rfl ?_
    show Steps p.tables e below (s₁.setTop (mkF m 6 #[.val (.long q), .second, .val (.long (1000000000 : Int64)), .second, .val (.long (q / (1000000000 : Int64))), .second] [(.long q)])) _
    refine XS.lloadN X0.here hx rfl (hb hby d2_6) rfl ?_
    show Steps p.tables e below (s₁.setTop (mkF m 7 #[.val (.long q), .second, .val (.long (1000000000 : Int64)), .second, .val (.long (q / (1000000000 : Int64))), .second] [(.long (1000000000 : Int64)), (.long q)])) _
    refine XS.lxor X0.here hx rfl (hb hby d2_7) rfl ?_
    show Steps p.tables e below (s₁.setTop (mkF m 8 #[.val (.long q), .second, .val (.long (1000000000 : Int64)), .second, .val (.long (q / (1000000000 : Int64))), .second] [(.long (q ^^^ (1000000000 : Int64)))])) _
    refine XS.lconst X0.here hx rfl (hb hby d2_8) ?_
    show Steps p.tables e below (s₁.setTop (mkF m 9 #[.val (.long q), .second, .val (.long (1000000000 : Int64)), .second, .val (.long (q / (1000000000 : Int64))), .second] [(.long (0 : Int64)), (.long (q ^^^ (1000000000 : Int64)))])) _
    refine XS.lcmp X0.here hx rfl (hb hby d2_9) rfl ?_
    show Steps p.tables e below (s₁.setTop (mkF m 10 #[.val (.long q), .second, .val (.long (1000000000 : Int64)), .second, .val (.long (q / (1000000000 : Int64))), .second] [(.int (lcmpW (q ^^^ (1000000000 : Int64)) (0 : Int64)))])) _
    exact k
  by_cases hc10_2 : (lcmpW (q ^^^ (1000000000 : Int64)) (0 : Int64)) < (0 : Int32)
  · have w3 : ∀ t, Steps p.tables e below (s₁.setTop (mkF m 19 #[.val (.long q), .second, .val (.long (1000000000 : Int64)), .second, .val (.long (q / (1000000000 : Int64))), .second] [(.int (lcmpW ((q / (1000000000 : Int64)) * (1000000000 : Int64)) q))])) t → Steps p.tables e below (s₁.setTop (entryFrame m #[(.long q), (.long (1000000000 : Int64))] 6)) t := fun t k => by
      refine w1 t ?_
      refine XS.ifNo X0.here hx rfl (hb hby d2_10) rfl ((if0 _ _).trans (tlt hc10_2).2.1) ?_
      show Steps p.tables e below (s₁.setTop (mkF m 13 #[.val (.long q), .second, .val (.long (1000000000 : Int64)), .second, .val (.long (q / (1000000000 : Int64))), .second] [])) _
      refine XS.lload X0.here hx rfl (hb hby d2_13) rfl ?_
      show Steps p.tables e below (s₁.setTop (mkF m 15 #[.val (.long q), .second, .val (.long (1000000000 : Int64)), .second, .val (.long (q / (1000000000 : Int64))), .second] [(.long (q / (1000000000 : Int64)))])) _
      refine XS.lloadN X0.here hx rfl (hb hby d2_15) rfl ?_
      show Steps p.tables e below (s₁.setTop (mkF m 16 #[.val (.long q), .second, .val (.long (1000000000 : Int64)), .second, .val (.long (q / (1000000000 : Int64))), .second] [(.long (1000000000 : Int64)), (.long (q / (1000000000 : Int64)))])) _
      refine XS.lmul X0.here hx rfl (hb hby d2_16) rfl ?_
      show Steps p.tables e below (s₁.setTop (mkF m 17 #[.val (.long q), .second, .val (.long (1000000000 : Int64)), .second, .val (.long (q / (1000000000 : Int64))), .second] [(.long ((q / (1000000000 : Int64)) * (1000000000 : Int64)))])) _
      refine XS.lloadN X0.here hx rfl (hb hby d2_17) rfl ?_
      show Steps p.tables e below (s₁.setTop (mkF m 18 #[.val (.long q), .second, .val (.long (1000000000 : Int64)), .second, .val (.long (q / (1000000000 : Int64))), .second] [(.long q), (.long ((q / (1000000000 : Int64)) * (1000000000 : Int64)))])) _
      refine XS.lcmp X0.here hx rfl (hb hby d2_18) rfl ?_
      show Steps p.tables e below (s₁.setTop (mkF m 19 #[.val (.long q), .second, .val (.long (1000000000 : Int64)), .second, .val (.long (q / (1000000000 : Int64))), .second] [(.int (lcmpW ((q / (1000000000 : Int64)) * (1000000000 : Int64)) q))])) _
      exact k
    by_cases hc19_4 : (lcmpW ((q / (1000000000 : Int64)) * (1000000000 : Int64)) q) = (0 : Int32)
    · have w5 : ∀ t, Steps p.tables e below (s₁.setTop (mkF m 29 #[.val (.long q), .second, .val (.long (1000000000 : Int64)), .second, .val (.long (q / (1000000000 : Int64))), .second] [(.long (q / (1000000000 : Int64)))])) t → Steps p.tables e below (s₁.setTop (entryFrame m #[(.long q), (.long (1000000000 : Int64))] 6)) t := fun t k => by
        refine w3 t ?_
        refine XS.ifYes X0.here hx rfl (pc0 := 19) (pc' := 27) rfl (hb hby d2_19) rfl ((if0 _ _).trans (teq hc19_4).1) (by decide) (by decide) ?_
        show Steps p.tables e below (s₁.setTop (mkF m 27 #[.val (.long q), .second, .val (.long (1000000000 : Int64)), .second, .val (.long (q / (1000000000 : Int64))), .second] [])) _
        refine XS.lload X0.here hx rfl (hb hby d2_27) rfl ?_
        show Steps p.tables e below (s₁.setTop (mkF m 29 #[.val (.long q), .second, .val (.long (1000000000 : Int64)), .second, .val (.long (q / (1000000000 : Int64))), .second] [(.long (q / (1000000000 : Int64)))])) _
        exact k
      obtain ⟨fs, hr, hrun, hended, hW, hsame⟩ := X0.leave (v := some (.long (q / (1000000000 : Int64)))) (fun h => by rw [Bd.returns] at h; cases h)
      refine ⟨_, _, w5 _ ?_, hrun, hended, _, _, rfl, ?_, ⟨_, rfl⟩, hW, hsame.mono (by decide) (by decide)⟩
      · exact X0.lreturnOut hx Bd.returns (hb hby d2_29) hr
      · show Q2 Z q  h0 n0 _ s₁.heap _
        rw [e0]
        exact ⟨(q / (1000000000 : Int64)), rfl, N0, rfl, own_fd2 hc10_2 hc19_4⟩
    · have w6 : ∀ t, Steps p.tables e below (s₁.setTop (mkF m 26 #[.val (.long q), .second, .val (.long (1000000000 : Int64)), .second, .val (.long (q / (1000000000 : Int64))), .second] [(.long ((q / (1000000000 : Int64)) - (1 : Int64)))])) t → Steps p.tables e below (s₁.setTop (entryFrame m #[(.long q), (.long (1000000000 : Int64))] 6)) t := fun t k => by
        refine w3 t ?_
        refine XS.ifNo X0.here hx rfl (hb hby d2_19) rfl ((if0 _ _).trans (feq hc19_4).1) ?_
        show Steps p.tables e below (s₁.setTop (mkF m 22 #[.val (.long q), .second, .val (.long (1000000000 : Int64)), .second, .val (.long (q / (1000000000 : Int64))), .second] [])) _
        refine XS.lload X0.here hx rfl (hb hby d2_22) rfl ?_
        show Steps p.tables e below (s₁.setTop (mkF m 24 #[.val (.long q), .second, .val (.long (1000000000 : Int64)), .second, .val (.long (q / (1000000000 : Int64))), .second] [(.long (q / (1000000000 : Int64)))])) _
        refine XS.lconst X0.here hx rfl (hb hby d2_24) ?_
        show Steps p.tables e below (s₁.setTop (mkF m 25 #[.val (.long q), .second, .val (.long (1000000000 : Int64)), .second, .val (.long (q / (1000000000 : Int64))), .second] [(.long (1 : Int64)), (.long (q / (1000000000 : Int64)))])) _
        refine XS.lsub X0.here hx rfl (hb hby d2_25) rfl ?_
        show Steps p.tables e below (s₁.setTop (mkF m 26 #[.val (.long q), .second, .val (.long (1000000000 : Int64)), .second, .val (.long (q / (1000000000 : Int64))), .second] [(.long ((q / (1000000000 : Int64)) - (1 : Int64)))])) _
        exact k
      obtain ⟨fs, hr, hrun, hended, hW, hsame⟩ := X0.leave (v := some (.long ((q / (1000000000 : Int64)) - (1 : Int64)))) (fun h => by rw [Bd.returns] at h; cases h)
      refine ⟨_, _, w6 _ ?_, hrun, hended, _, _, rfl, ?_, ⟨_, rfl⟩, hW, hsame.mono (by decide) (by decide)⟩
      · exact X0.lreturnOut hx Bd.returns (hb hby d2_26) hr
      · show Q2 Z q  h0 n0 _ s₁.heap _
        rw [e0]
        exact ⟨((q / (1000000000 : Int64)) - (1 : Int64)), rfl, N0, rfl, own_fd3 hc10_2 hc19_4⟩
  · have w7 : ∀ t, Steps p.tables e below (s₁.setTop (mkF m 29 #[.val (.long q), .second, .val (.long (1000000000 : Int64)), .second, .val (.long (q / (1000000000 : Int64))), .second] [(.long (q / (1000000000 : Int64)))])) t → Steps p.tables e below (s₁.setTop (entryFrame m #[(.long q), (.long (1000000000 : Int64))] 6)) t := fun t k => by
      refine w1 t ?_
      refine XS.ifYes X0.here hx rfl (pc0 := 10) (pc' := 27) rfl (hb hby d2_10) rfl ((if0 _ _).trans (flt hc10_2).2.1) (by decide) (by decide) ?_
      show Steps p.tables e below (s₁.setTop (mkF m 27 #[.val (.long q), .second, .val (.long (1000000000 : Int64)), .second, .val (.long (q / (1000000000 : Int64))), .second] [])) _
      refine XS.lload X0.here hx rfl (hb hby d2_27) rfl ?_
      show Steps p.tables e below (s₁.setTop (mkF m 29 #[.val (.long q), .second, .val (.long (1000000000 : Int64)), .second, .val (.long (q / (1000000000 : Int64))), .second] [(.long (q / (1000000000 : Int64)))])) _
      exact k
    obtain ⟨fs, hr, hrun, hended, hW, hsame⟩ := X0.leave (v := some (.long (q / (1000000000 : Int64)))) (fun h => by rw [Bd.returns] at h; cases h)
    refine ⟨_, _, w7 _ ?_, hrun, hended, _, _, rfl, ?_, ⟨_, rfl⟩, hW, hsame.mono (by decide) (by decide)⟩
    · exact X0.lreturnOut hx Bd.returns (hb hby d2_29) hr
    · show Q2 Z q  h0 n0 _ s₁.heap _
      rw [e0]
      exact ⟨(q / (1000000000 : Int64)), rfl, N0, rfl, own_fd1 hc10_2⟩
theorem d3_0 : decode jdk_29_method_52_code 0 = .ok (.lload_n 0, 1) := by decide +kernel
theorem d3_1 : decode jdk_29_method_52_code 1 = .ok (.lload_n 2, 1) := by decide +kernel
theorem d3_2 : decode jdk_29_method_52_code 2 = .ok (.lrem, 1) := by decide +kernel
theorem d3_3 : decode jdk_29_method_52_code 3 = .ok (.lstore 4, 2) := by decide +kernel
theorem d3_5 : decode jdk_29_method_52_code 5 = .ok (.lload_n 0, 1) := by decide +kernel
theorem d3_6 : decode jdk_29_method_52_code 6 = .ok (.lload_n 2, 1) := by decide +kernel
theorem d3_7 : decode jdk_29_method_52_code 7 = .ok (.lxor, 1) := by decide +kernel
theorem d3_8 : decode jdk_29_method_52_code 8 = .ok (.lconst 0, 1) := by decide +kernel
theorem d3_9 : decode jdk_29_method_52_code 9 = .ok (.lcmp, 1) := by decide +kernel
theorem d3_10 : decode jdk_29_method_52_code 10 = .ok (.ifCond .ge 15, 3) := by decide +kernel
theorem d3_13 : decode jdk_29_method_52_code 13 = .ok (.lload 4, 2) := by decide +kernel
theorem d3_15 : decode jdk_29_method_52_code 15 = .ok (.lconst 0, 1) := by decide +kernel
theorem d3_16 : decode jdk_29_method_52_code 16 = .ok (.lcmp, 1) := by decide +kernel
theorem d3_17 : decode jdk_29_method_52_code 17 = .ok (.ifCond .eq 8, 3) := by decide +kernel
theorem d3_25 : decode jdk_29_method_52_code 25 = .ok (.lload 4, 2) := by decide +kernel
theorem d3_27 : decode jdk_29_method_52_code 27 = .ok (.lreturn, 1) := by decide +kernel
theorem d3_20 : decode jdk_29_method_52_code 20 = .ok (.lload 4, 2) := by decide +kernel
theorem d3_22 : decode jdk_29_method_52_code 22 = .ok (.lload_n 2, 1) := by decide +kernel
theorem d3_23 : decode jdk_29_method_52_code 23 = .ok (.ladd, 1) := by decide +kernel
theorem d3_24 : decode jdk_29_method_52_code 24 = .ok (.lreturn, 1) := by decide +kernel
theorem ef_3 (m : MethodId) (x0 : Int64) : entryFrame m #[(.long x0), (.long (1000000000 : Int64))] 6 = mkF m 0 #[.val (.long x0), .second, .val (.long (1000000000 : Int64)), .second, .unset, .unset] [] := by first | (simp [entryFrame, mkF, argsToLocals, Value.category]; done) | rfl
def Q3 (Z : State) (q : Int64) (h0 : Heap) (n0 : Nat) (v : Option Value) (h : Heap) (L : List Loc) : Prop := ∃ r : Int64, v = some (.long r) ∧ Fr n0 L ∧ h = h0 ∧ r.toInt = q.toInt % 1000000000
set_option maxRecDepth 65536 in
set_option maxHeartbeats 40000000 in
theorem rm3 (l : Launch) (Z : State) (a0 : Array Value) (hw : ∀ d ∈ tables_1, d.before a0 Z = true) (ws : List Jvm.Cond) (q : Int64) (h0 : Heap) (n0 : Nat) (O0 : Old Z n0 h0) :
    MetFree l (⟨"java/lang/Math", "floorMod", "(JJ)J"⟩ : MethodName) (head1 (Jvm.Cond.code (⟨"java/lang/Math", "floorMod", "(JJ)J"⟩ : MethodName) jdk_29_method_52_code 6 (some .long) :: ws) ({ frames := 0, cells := 0, slots := 0, locals := 0 } : Room)) (fun aA uU => aA = #[(.long q), (.long (1000000000 : Int64))] ∧ Z.Warmed39 uU.vm ∧ uU.heap = h0) (fun _ _ _ _ _ => True) (fun _ uU oO uU' => ∃ vV lL, oO = .returned vV ∧ Q3 Z q  h0 n0 vV uU'.heap lL ∧ FrameEnd uU oO uU' lL ({ frames := 0, cells := 0, slots := 0, locals := 0 } : Room).cells ({ frames := 0, cells := 0, slots := 0, locals := 0 } : Room).slots) := by
  refine MetFree.of_bodySF (Jvm.Free.JP.mathPlain rfl (by decide +kernel)) hisR ?_
  intro p e s m args below meth c s₁ Bd hml0 hP hK
  obtain ⟨rfl, hZ, hh⟩ := hP
  have hx := Bd.exec
  have hby := Bd.bytes
  have hml : c.maxLocals = 6 := hml0
  have hown : s.vm.findClass "java/lang/Math" = some m.cls := findClass_of_methodNamed Bd.named
  have hnm := (name_of_methodNamed Bd.named Bd.method).1
  have X0 : Stand p l e ({ frames := 0, cells := 0, slots := 0, locals := 0 } : Room) s m #[(.long q), (.long (1000000000 : Int64))] below meth c s₁ [] 0 0 := Stand.of_body Bd
  have e0 : s₁.heap = h0 := by rw [← hh, Bd.state]; rfl
  have N0 := Fr.nil n0
  have O := O0
  have pre0 : ∀ t, Steps p.tables e below (s₁.setTop (mkF m 0 #[.val (.long q), .second, .val (.long (1000000000 : Int64)), .second, .unset, .unset] [])) t → Steps p.tables e below (s₁.setTop (entryFrame m #[(.long q), (.long (1000000000 : Int64))] 6)) t := fun t k => castTop (ef_3 m q) k
  have w1 : ∀ t, Steps p.tables e below (s₁.setTop (mkF m 10 #[.val (.long q), .second, .val (.long (1000000000 : Int64)), .second, .val (.long (q - q / (1000000000 : Int64) * (1000000000 : Int64))), .second] [(.int (lcmpW (q ^^^ (1000000000 : Int64)) (0 : Int64)))])) t → Steps p.tables e below (s₁.setTop (entryFrame m #[(.long q), (.long (1000000000 : Int64))] 6)) t := fun t k => by
    refine pre0 t ?_
    refine XS.lloadN X0.here hx rfl (hb hby d3_0) rfl ?_
    show Steps p.tables e below (s₁.setTop (mkF m 1 #[.val (.long q), .second, .val (.long (1000000000 : Int64)), .second, .unset, .unset] [(.long q)])) _
    refine XS.lloadN X0.here hx rfl (hb hby d3_1) rfl ?_
    show Steps p.tables e below (s₁.setTop (mkF m 2 #[.val (.long q), .second, .val (.long (1000000000 : Int64)), .second, .unset, .unset] [(.long (1000000000 : Int64)), (.long q)])) _
    refine XS.lrem X0.here hx rfl (hb hby d3_2) rfl (by decide) ?_
    show Steps p.tables e below (s₁.setTop (mkF m 3 #[.val (.long q), .second, .val (.long (1000000000 : Int64)), .second, .unset, .unset] [(.long (q - q / (1000000000 : Int64) * (1000000000 : Int64)))])) _
    refine XS.lstore X0.here hx rfl (hb hby d3_3) rfl (l' := #[.val (.long q), .second, .val (.long (1000000000 : Int64)), .second, .val (.long (q - q / (1000000000 : Int64) * (1000000000 : Int64))), .second]) rfl ?_
    show Steps p.tables e below (s₁.setTop (mkF m 5 #[.val (.long q), .second, .val (.long (1000000000 : Int64)), .second, .val (.long (q - q / (1000000000 : Int64) * (1000000000 : Int64))), .second] [])) _
    refine XS.lloadN X0.here hx rfl (hb hby d3_5) rfl ?_
    show Steps p.tables e below (s₁.setTop (mkF m 6 #[.val (.long q), .second, .val (.long (1000000000 : Int64)), .second, .val (.long (q - q / (1000000000 : Int64) * (1000000000 : Int64))), .second] [(.long q)])) _
    refine XS.lloadN X0.here hx rfl (hb hby d3_6) rfl ?_
    show Steps p.tables e below (s₁.setTop (mkF m 7 #[.val (.long q), .second, .val (.long (1000000000 : Int64)), .second, .val (.long (q - q / (1000000000 : Int64) * (1000000000 : Int64))), .second] [(.long (1000000000 : Int64)), (.long q)])) _
    refine XS.lxor X0.here hx rfl (hb hby d3_7) rfl ?_
    show Steps p.tables e below (s₁.setTop (mkF m 8 #[.val (.long q), .second, .val (.long (1000000000 : Int64)), .second, .val (.long (q - q / (1000000000 : Int64) * (1000000000 : Int64))), .second] [(.long (q ^^^ (1000000000 : Int64)))])) _
    refine XS.lconst X0.here hx rfl (hb hby d3_8) ?_
    show Steps p.tables e below (s₁.setTop (mkF m 9 #[.val (.long q), .second, .val (.long (1000000000 : Int64)), .second, .val (.long (q - q / (1000000000 : Int64) * (1000000000 : Int64))), .second] [(.long (0 : Int64)), (.long (q ^^^ (1000000000 : Int64)))])) _
    refine XS.lcmp X0.here hx rfl (hb hby d3_9) rfl ?_
    show Steps p.tables e below (s₁.setTop (mkF m 10 #[.val (.long q), .second, .val (.long (1000000000 : Int64)), .second, .val (.long (q - q / (1000000000 : Int64) * (1000000000 : Int64))), .second] [(.int (lcmpW (q ^^^ (1000000000 : Int64)) (0 : Int64)))])) _
    exact k
  by_cases hc10_2 : (lcmpW (q ^^^ (1000000000 : Int64)) (0 : Int64)) < (0 : Int32)
  · have w3 : ∀ t, Steps p.tables e below (s₁.setTop (mkF m 17 #[.val (.long q), .second, .val (.long (1000000000 : Int64)), .second, .val (.long (q - q / (1000000000 : Int64) * (1000000000 : Int64))), .second] [(.int (lcmpW (q - q / (1000000000 : Int64) * (1000000000 : Int64)) (0 : Int64)))])) t → Steps p.tables e below (s₁.setTop (entryFrame m #[(.long q), (.long (1000000000 : Int64))] 6)) t := fun t k => by
      refine w1 t ?_
      refine XS.ifNo X0.here hx rfl (hb hby d3_10) rfl ((if0 _ _).trans (tlt hc10_2).2.1) ?_
      show Steps p.tables e below (s₁.setTop (mkF m 13 #[.val (.long q), .second, .val (.long (1000000000 : Int64)), .second, .val (.long (q - q / (1000000000 : Int64) * (1000000000 : Int64))), .second] [])) _
      refine XS.lload X0.here hx rfl (hb hby d3_13) rfl ?_
      show Steps p.tables e below (s₁.setTop (mkF m 15 #[.val (.long q), .second, .val (.long (1000000000 : Int64)), .second, .val (.long (q - q / (1000000000 : Int64) * (1000000000 : Int64))), .second] [(.long (q - q / (1000000000 : Int64) * (1000000000 : Int64)))])) _
      refine XS.lconst X0.here hx rfl (hb hby d3_15) ?_
      show Steps p.tables e below (s₁.setTop (mkF m 16 #[.val (.long q), .second, .val (.long (1000000000 : Int64)), .second, .val (.long (q - q / (1000000000 : Int64) * (1000000000 : Int64))), .second] [(.long (0 : Int64)), (.long (q - q / (1000000000 : Int64) * (1000000000 : Int64)))])) _
      refine XS.lcmp X0.here hx rfl (hb hby d3_16) rfl ?_
      show Steps p.tables e below (s₁.setTop (mkF m 17 #[.val (.long q), .second, .val (.long (1000000000 : Int64)), .second, .val (.long (q - q / (1000000000 : Int64) * (1000000000 : Int64))), .second] [(.int (lcmpW (q - q / (1000000000 : Int64) * (1000000000 : Int64)) (0 : Int64)))])) _
      exact k
    by_cases hc17_4 : (lcmpW (q - q / (1000000000 : Int64) * (1000000000 : Int64)) (0 : Int64)) = (0 : Int32)
    · have w5 : ∀ t, Steps p.tables e below (s₁.setTop (mkF m 27 #[.val (.long q), .second, .val (.long (1000000000 : Int64)), .second, .val (.long (q - q / (1000000000 : Int64) * (1000000000 : Int64))), .second] [(.long (q - q / (1000000000 : Int64) * (1000000000 : Int64)))])) t → Steps p.tables e below (s₁.setTop (entryFrame m #[(.long q), (.long (1000000000 : Int64))] 6)) t := fun t k => by
        refine w3 t ?_
        refine XS.ifYes X0.here hx rfl (pc0 := 17) (pc' := 25) rfl (hb hby d3_17) rfl ((if0 _ _).trans (teq hc17_4).1) (by decide) (by decide) ?_
        show Steps p.tables e below (s₁.setTop (mkF m 25 #[.val (.long q), .second, .val (.long (1000000000 : Int64)), .second, .val (.long (q - q / (1000000000 : Int64) * (1000000000 : Int64))), .second] [])) _
        refine XS.lload X0.here hx rfl (hb hby d3_25) rfl ?_
        show Steps p.tables e below (s₁.setTop (mkF m 27 #[.val (.long q), .second, .val (.long (1000000000 : Int64)), .second, .val (.long (q - q / (1000000000 : Int64) * (1000000000 : Int64))), .second] [(.long (q - q / (1000000000 : Int64) * (1000000000 : Int64)))])) _
        exact k
      obtain ⟨fs, hr, hrun, hended, hW, hsame⟩ := X0.leave (v := some (.long (q - q / (1000000000 : Int64) * (1000000000 : Int64)))) (fun h => by rw [Bd.returns] at h; cases h)
      refine ⟨_, _, w5 _ ?_, hrun, hended, _, _, rfl, ?_, ⟨_, rfl⟩, hW, hsame.mono (by decide) (by decide)⟩
      · exact X0.lreturnOut hx Bd.returns (hb hby d3_27) hr
      · show Q3 Z q  h0 n0 _ s₁.heap _
        rw [e0]
        exact ⟨(q - q / (1000000000 : Int64) * (1000000000 : Int64)), rfl, N0, rfl, own_fm2 hc10_2 hc17_4⟩
    · have w6 : ∀ t, Steps p.tables e below (s₁.setTop (mkF m 24 #[.val (.long q), .second, .val (.long (1000000000 : Int64)), .second, .val (.long (q - q / (1000000000 : Int64) * (1000000000 : Int64))), .second] [(.long ((q - q / (1000000000 : Int64) * (1000000000 : Int64)) + (1000000000 : Int64)))])) t → Steps p.tables e below (s₁.setTop (entryFrame m #[(.long q), (.long (1000000000 : Int64))] 6)) t := fun t k => by
        refine w3 t ?_
        refine XS.ifNo X0.here hx rfl (hb hby d3_17) rfl ((if0 _ _).trans (feq hc17_4).1) ?_
        show Steps p.tables e below (s₁.setTop (mkF m 20 #[.val (.long q), .second, .val (.long (1000000000 : Int64)), .second, .val (.long (q - q / (1000000000 : Int64) * (1000000000 : Int64))), .second] [])) _
        refine XS.lload X0.here hx rfl (hb hby d3_20) rfl ?_
        show Steps p.tables e below (s₁.setTop (mkF m 22 #[.val (.long q), .second, .val (.long (1000000000 : Int64)), .second, .val (.long (q - q / (1000000000 : Int64) * (1000000000 : Int64))), .second] [(.long (q - q / (1000000000 : Int64) * (1000000000 : Int64)))])) _
        refine XS.lloadN X0.here hx rfl (hb hby d3_22) rfl ?_
        show Steps p.tables e below (s₁.setTop (mkF m 23 #[.val (.long q), .second, .val (.long (1000000000 : Int64)), .second, .val (.long (q - q / (1000000000 : Int64) * (1000000000 : Int64))), .second] [(.long (1000000000 : Int64)), (.long (q - q / (1000000000 : Int64) * (1000000000 : Int64)))])) _
        refine XS.ladd X0.here hx rfl (hb hby d3_23) rfl ?_
        show Steps p.tables e below (s₁.setTop (mkF m 24 #[.val (.long q), .second, .val (.long (1000000000 : Int64)), .second, .val (.long (q - q / (1000000000 : Int64) * (1000000000 : Int64))), .second] [(.long ((q - q / (1000000000 : Int64) * (1000000000 : Int64)) + (1000000000 : Int64)))])) _
        exact k
      obtain ⟨fs, hr, hrun, hended, hW, hsame⟩ := X0.leave (v := some (.long ((q - q / (1000000000 : Int64) * (1000000000 : Int64)) + (1000000000 : Int64)))) (fun h => by rw [Bd.returns] at h; cases h)
      refine ⟨_, _, w6 _ ?_, hrun, hended, _, _, rfl, ?_, ⟨_, rfl⟩, hW, hsame.mono (by decide) (by decide)⟩
      · exact X0.lreturnOut hx Bd.returns (hb hby d3_24) hr
      · show Q3 Z q  h0 n0 _ s₁.heap _
        rw [e0]
        exact ⟨((q - q / (1000000000 : Int64) * (1000000000 : Int64)) + (1000000000 : Int64)), rfl, N0, rfl, own_fm3 hc10_2 hc17_4⟩
  · have w7 : ∀ t, Steps p.tables e below (s₁.setTop (mkF m 27 #[.val (.long q), .second, .val (.long (1000000000 : Int64)), .second, .val (.long (q - q / (1000000000 : Int64) * (1000000000 : Int64))), .second] [(.long (q - q / (1000000000 : Int64) * (1000000000 : Int64)))])) t → Steps p.tables e below (s₁.setTop (entryFrame m #[(.long q), (.long (1000000000 : Int64))] 6)) t := fun t k => by
      refine w1 t ?_
      refine XS.ifYes X0.here hx rfl (pc0 := 10) (pc' := 25) rfl (hb hby d3_10) rfl ((if0 _ _).trans (flt hc10_2).2.1) (by decide) (by decide) ?_
      show Steps p.tables e below (s₁.setTop (mkF m 25 #[.val (.long q), .second, .val (.long (1000000000 : Int64)), .second, .val (.long (q - q / (1000000000 : Int64) * (1000000000 : Int64))), .second] [])) _
      refine XS.lload X0.here hx rfl (hb hby d3_25) rfl ?_
      show Steps p.tables e below (s₁.setTop (mkF m 27 #[.val (.long q), .second, .val (.long (1000000000 : Int64)), .second, .val (.long (q - q / (1000000000 : Int64) * (1000000000 : Int64))), .second] [(.long (q - q / (1000000000 : Int64) * (1000000000 : Int64)))])) _
      exact k
    obtain ⟨fs, hr, hrun, hended, hW, hsame⟩ := X0.leave (v := some (.long (q - q / (1000000000 : Int64) * (1000000000 : Int64)))) (fun h => by rw [Bd.returns] at h; cases h)
    refine ⟨_, _, w7 _ ?_, hrun, hended, _, _, rfl, ?_, ⟨_, rfl⟩, hW, hsame.mono (by decide) (by decide)⟩
    · exact X0.lreturnOut hx Bd.returns (hb hby d3_27) hr
    · show Q3 Z q  h0 n0 _ s₁.heap _
      rw [e0]
      exact ⟨(q - q / (1000000000 : Int64) * (1000000000 : Int64)), rfl, N0, rfl, own_fm1 hc10_2⟩
theorem d5_0 : decode jdk_29_method_25_code 0 = .ok (.lload_n 0, 1) := by decide +kernel
theorem d5_1 : decode jdk_29_method_25_code 1 = .ok (.lload_n 2, 1) := by decide +kernel
theorem d5_2 : decode jdk_29_method_25_code 2 = .ok (.ladd, 1) := by decide +kernel
theorem d5_3 : decode jdk_29_method_25_code 3 = .ok (.lstore 4, 2) := by decide +kernel
theorem d5_5 : decode jdk_29_method_25_code 5 = .ok (.lload_n 0, 1) := by decide +kernel
theorem d5_6 : decode jdk_29_method_25_code 6 = .ok (.lload 4, 2) := by decide +kernel
theorem d5_8 : decode jdk_29_method_25_code 8 = .ok (.lxor, 1) := by decide +kernel
theorem d5_9 : decode jdk_29_method_25_code 9 = .ok (.lload_n 2, 1) := by decide +kernel
theorem d5_10 : decode jdk_29_method_25_code 10 = .ok (.lload 4, 2) := by decide +kernel
theorem d5_12 : decode jdk_29_method_25_code 12 = .ok (.lxor, 1) := by decide +kernel
theorem d5_13 : decode jdk_29_method_25_code 13 = .ok (.land, 1) := by decide +kernel
theorem d5_14 : decode jdk_29_method_25_code 14 = .ok (.lconst 0, 1) := by decide +kernel
theorem d5_15 : decode jdk_29_method_25_code 15 = .ok (.lcmp, 1) := by decide +kernel
theorem d5_16 : decode jdk_29_method_25_code 16 = .ok (.ifCond .ge 13, 3) := by decide +kernel
theorem d5_29 : decode jdk_29_method_25_code 29 = .ok (.lload 4, 2) := by decide +kernel
theorem d5_31 : decode jdk_29_method_25_code 31 = .ok (.lreturn, 1) := by decide +kernel
theorem ef_5 (m : MethodId) (x0 : Int64) (x1 : Int64) : entryFrame m #[(.long x0), (.long x1)] 6 = mkF m 0 #[.val (.long x0), .second, .val (.long x1), .second, .unset, .unset] [] := by first | (simp [entryFrame, mkF, argsToLocals, Value.category]; done) | rfl
def Q5 (Z : State) (q : Int64) (r : Int64) (h0 : Heap) (n0 : Nat) (v : Option Value) (h : Heap) (L : List Loc) : Prop := v = some (.long (q + r)) ∧ Fr n0 L ∧ h = h0
set_option maxRecDepth 65536 in
set_option maxHeartbeats 40000000 in
theorem rm5 (l : Launch) (Z : State) (a0 : Array Value) (hw : ∀ d ∈ tables_1, d.before a0 Z = true) (ws : List Jvm.Cond) (q : Int64) (r : Int64) (h0 : Heap) (n0 : Nat) (O0 : Old Z n0 h0) (ho : -9223372036854775808 ≤ q.toInt + r.toInt ∧ q.toInt + r.toInt < 9223372036854775808) :
    MetFree l (⟨"java/lang/Math", "addExact", "(JJ)J"⟩ : MethodName) (head1 (Jvm.Cond.code (⟨"java/lang/Math", "addExact", "(JJ)J"⟩ : MethodName) jdk_29_method_25_code 6 (some .long) :: ws) ({ frames := 0, cells := 0, slots := 0, locals := 0 } : Room)) (fun aA uU => aA = #[(.long q), (.long r)] ∧ Z.Warmed39 uU.vm ∧ uU.heap = h0) (fun _ _ _ _ _ => True) (fun _ uU oO uU' => ∃ vV lL, oO = .returned vV ∧ Q5 Z q r  h0 n0 vV uU'.heap lL ∧ FrameEnd uU oO uU' lL ({ frames := 0, cells := 0, slots := 0, locals := 0 } : Room).cells ({ frames := 0, cells := 0, slots := 0, locals := 0 } : Room).slots) := by
  refine MetFree.of_bodySF (Jvm.Free.JP.mathPlain rfl (by decide +kernel)) hisR ?_
  intro p e s m args below meth c s₁ Bd hml0 hP hK
  obtain ⟨rfl, hZ, hh⟩ := hP
  have hx := Bd.exec
  have hby := Bd.bytes
  have hml : c.maxLocals = 6 := hml0
  have hown : s.vm.findClass "java/lang/Math" = some m.cls := findClass_of_methodNamed Bd.named
  have hnm := (name_of_methodNamed Bd.named Bd.method).1
  have X0 : Stand p l e ({ frames := 0, cells := 0, slots := 0, locals := 0 } : Room) s m #[(.long q), (.long r)] below meth c s₁ [] 0 0 := Stand.of_body Bd
  have e0 : s₁.heap = h0 := by rw [← hh, Bd.state]; rfl
  have N0 := Fr.nil n0
  have O := O0
  have pre0 : ∀ t, Steps p.tables e below (s₁.setTop (mkF m 0 #[.val (.long q), .second, .val (.long r), .second, .unset, .unset] [])) t → Steps p.tables e below (s₁.setTop (entryFrame m #[(.long q), (.long r)] 6)) t := fun t k => castTop (ef_5 m q r) k
  have w1 : ∀ t, Steps p.tables e below (s₁.setTop (mkF m 31 #[.val (.long q), .second, .val (.long r), .second, .val (.long (q + r)), .second] [(.long (q + r))])) t → Steps p.tables e below (s₁.setTop (entryFrame m #[(.long q), (.long r)] 6)) t := fun t k => by
    refine pre0 t ?_
    refine XS.lloadN X0.here hx rfl (hb hby d5_0) rfl ?_
    show Steps p.tables e below (s₁.setTop (mkF m 1 #[.val (.long q), .second, .val (.long r), .second, .unset, .unset] [(.long q)])) _
    refine XS.lloadN X0.here hx rfl (hb hby d5_1) rfl ?_
    show Steps p.tables e below (s₁.setTop (mkF m 2 #[.val (.long q), .second, .val (.long r), .second, .unset, .unset] [(.long r), (.long q)])) _
    refine XS.ladd X0.here hx rfl (hb hby d5_2) rfl ?_
    show Steps p.tables e below (s₁.setTop (mkF m 3 #[.val (.long q), .second, .val (.long r), .second, .unset, .unset] [(.long (q + r))])) _
    refine XS.lstore X0.here hx rfl (hb hby d5_3) rfl (l' := #[.val (.long q), .second, .val (.long r), .second, .val (.long (q + r)), .second]) rfl ?_
    show Steps p.tables e below (s₁.setTop (mkF m 5 #[.val (.long q), .second, .val (.long r), .second, .val (.long (q + r)), .second] [])) _
    refine XS.lloadN X0.here hx rfl (hb hby d5_5) rfl ?_
    show Steps p.tables e below (s₁.setTop (mkF m 6 #[.val (.long q), .second, .val (.long r), .second, .val (.long (q + r)), .second] [(.long q)])) _
    refine XS.lload X0.here hx rfl (hb hby d5_6) rfl ?_
    show Steps p.tables e below (s₁.setTop (mkF m 8 #[.val (.long q), .second, .val (.long r), .second, .val (.long (q + r)), .second] [(.long (q + r)), (.long q)])) _
    refine XS.lxor X0.here hx rfl (hb hby d5_8) rfl ?_
    show Steps p.tables e below (s₁.setTop (mkF m 9 #[.val (.long q), .second, .val (.long r), .second, .val (.long (q + r)), .second] [(.long (q ^^^ (q + r)))])) _
    refine XS.lloadN X0.here hx rfl (hb hby d5_9) rfl ?_
    show Steps p.tables e below (s₁.setTop (mkF m 10 #[.val (.long q), .second, .val (.long r), .second, .val (.long (q + r)), .second] [(.long r), (.long (q ^^^ (q + r)))])) _
    refine XS.lload X0.here hx rfl (hb hby d5_10) rfl ?_
    show Steps p.tables e below (s₁.setTop (mkF m 12 #[.val (.long q), .second, .val (.long r), .second, .val (.long (q + r)), .second] [(.long (q + r)), (.long r), (.long (q ^^^ (q + r)))])) _
    refine XS.lxor X0.here hx rfl (hb hby d5_12) rfl ?_
    show Steps p.tables e below (s₁.setTop (mkF m 13 #[.val (.long q), .second, .val (.long r), .second, .val (.long (q + r)), .second] [(.long (r ^^^ (q + r))), (.long (q ^^^ (q + r)))])) _
    refine XS.land X0.here hx rfl (hb hby d5_13) rfl ?_
    show Steps p.tables e below (s₁.setTop (mkF m 14 #[.val (.long q), .second, .val (.long r), .second, .val (.long (q + r)), .second] [(.long ((q ^^^ (q + r)) &&& (r ^^^ (q + r))))])) _
    refine XS.lconst X0.here hx rfl (hb hby d5_14) ?_
    show Steps p.tables e below (s₁.setTop (mkF m 15 #[.val (.long q), .second, .val (.long r), .second, .val (.long (q + r)), .second] [(.long (0 : Int64)), (.long ((q ^^^ (q + r)) &&& (r ^^^ (q + r))))])) _
    refine XS.lcmp X0.here hx rfl (hb hby d5_15) rfl ?_
    show Steps p.tables e below (s₁.setTop (mkF m 16 #[.val (.long q), .second, .val (.long r), .second, .val (.long (q + r)), .second] [(.int (lcmpW ((q ^^^ (q + r)) &&& (r ^^^ (q + r))) (0 : Int64)))])) _
    refine XS.ifYes X0.here hx rfl (pc0 := 16) (pc' := 29) rfl (hb hby d5_16) rfl ((if0 _ _).trans (flt (own_ax ho : ¬ ((lcmpW ((q ^^^ (q + r)) &&& (r ^^^ (q + r))) (0 : Int64)) < (0 : Int32)))).2.1) (by decide) (by decide) ?_
    show Steps p.tables e below (s₁.setTop (mkF m 29 #[.val (.long q), .second, .val (.long r), .second, .val (.long (q + r)), .second] [])) _
    refine XS.lload X0.here hx rfl (hb hby d5_29) rfl ?_
    show Steps p.tables e below (s₁.setTop (mkF m 31 #[.val (.long q), .second, .val (.long r), .second, .val (.long (q + r)), .second] [(.long (q + r))])) _
    exact k
  obtain ⟨fs, hr, hrun, hended, hW, hsame⟩ := X0.leave (v := some (.long (q + r))) (fun h => by rw [Bd.returns] at h; cases h)
  refine ⟨_, _, w1 _ ?_, hrun, hended, _, _, rfl, ?_, ⟨_, rfl⟩, hW, hsame.mono (by decide) (by decide)⟩
  · exact X0.lreturnOut hx Bd.returns (hb hby d5_31) hr
  · show Q5 Z q r  h0 n0 _ s₁.heap _
    rw [e0]
    exact ⟨rfl, N0, rfl⟩
theorem d7_0 : decode jdk_2320_method_9_code 0 = .ok (.aload_n 0, 1) := by decide +kernel
theorem d7_1 : decode jdk_2320_method_9_code 1 = .ok (.invokespecial 137, 3) := by decide +kernel
theorem d7_4 : decode jdk_2320_method_9_code 4 = .ok (.aload_n 0, 1) := by decide +kernel
theorem d7_5 : decode jdk_2320_method_9_code 5 = .ok (.lload_n 1, 1) := by decide +kernel
theorem d7_6 : decode jdk_2320_method_9_code 6 = .ok (.putfield 140, 3) := by decide +kernel
theorem d7_9 : decode jdk_2320_method_9_code 9 = .ok (.aload_n 0, 1) := by decide +kernel
theorem d7_10 : decode jdk_2320_method_9_code 10 = .ok (.iload_n 3, 1) := by decide +kernel
theorem d7_11 : decode jdk_2320_method_9_code 11 = .ok (.putfield 144, 3) := by decide +kernel
theorem d7_14 : decode jdk_2320_method_9_code 14 = .ok (.return_, 1) := by decide +kernel
theorem pn_java_time_Instant : plainName "java/time/Instant" = true := by first | (simp [plainName, overriddenIn]; done) | decide +kernel
theorem ef_7 (m : MethodId) (x0 : Addr) (x1 : Int64) (x2 : Int32) : entryFrame m #[(.ref x0), (.long x1), (.int x2)] 4 = mkF m 0 #[.val (.ref x0), .val (.long x1), .second, .val (.int x2)] [] := by first | (simp [entryFrame, mkF, argsToLocals, Value.category]; done) | rfl
def Q7 (Z : State) (a : Addr) (q : Int64) (i : Int32) (h0 : Heap) (n0 : Nat) (v : Option Value) (h : Heap) (L : List Loc) : Prop := v = none ∧ Fr n0 L ∧ Keep h0 h [a] ∧ Fld Z h a "java/time/Instant" "seconds" "J" (.long q) ∧ Fld Z h a "java/time/Instant" "nanos" "I" (.int i)
set_option maxRecDepth 65536 in
set_option maxHeartbeats 40000000 in
theorem rm7 (l : Launch) (Z : State) (a0 : Array Value) (hw : ∀ d ∈ tables_1, d.before a0 Z = true) (ws : List Jvm.Cond) (a : Addr) (q : Int64) (i : Int32) (h0 : Heap) (n0 : Nat) (O0 : Old Z n0 h0) (E_a : Exa Z h0 a "java/time/Instant") (F_s_a : Fld Z h0 a "java/time/Instant" "seconds" "J" (.long (0 : Int64))) (F_n_a : Fld Z h0 a "java/time/Instant" "nanos" "I" (.int (0 : Int32))) (g_a : n0 ≤ a) :
    MetFree l (⟨"java/time/Instant", "<init>", "(JI)V"⟩ : MethodName) (head1 (Jvm.Cond.code (⟨"java/time/Instant", "<init>", "(JI)V"⟩ : MethodName) jdk_2320_method_9_code 4 none :: ws) ({ frames := 1, cells := 0, slots := 0, locals := 12 } : Room)) (fun aA uU => aA = #[(.ref a), (.long q), (.int i)] ∧ Z.Warmed39 uU.vm ∧ uU.heap = h0) (fun _ _ _ _ _ => True) (fun _ uU oO uU' => ∃ vV lL, oO = .returned vV ∧ Q7 Z a q i  h0 n0 vV uU'.heap lL ∧ FrameEnd uU oO uU' lL ({ frames := 1, cells := 0, slots := 0, locals := 12 } : Room).cells ({ frames := 1, cells := 0, slots := 0, locals := 12 } : Room).slots) := by
  refine MetFree.of_bodySF (plainFor_of_name pn_java_time_Instant) hisR ?_
  intro p e s m args below meth c s₁ Bd hml0 hP hK
  obtain ⟨rfl, hZ, hh⟩ := hP
  have hx := Bd.exec
  have hby := Bd.bytes
  have hml : c.maxLocals = 4 := hml0
  have hown : s.vm.findClass "java/time/Instant" = some m.cls := findClass_of_methodNamed Bd.named
  have hnm := (name_of_methodNamed Bd.named Bd.method).1
  have X0 : Stand p l e ({ frames := 1, cells := 0, slots := 0, locals := 12 } : Room) s m #[(.ref a), (.long q), (.int i)] below meth c s₁ [] 0 0 := Stand.of_body Bd
  have e0 : s₁.heap = h0 := by rw [← hh, Bd.state]; rfl
  have N0 := Fr.nil n0
  have O := O0
  have K := Keep.refl h0 [a]
  have pre0 : ∀ t, Steps p.tables e below (s₁.setTop (mkF m 0 #[.val (.ref a), .val (.long q), .second, .val (.int i)] [])) t → Steps p.tables e below (s₁.setTop (entryFrame m #[(.ref a), (.long q), (.int i)] 4)) t := fun t k => castTop (ef_7 m a q i) k
  obtain ⟨T1, X1, e1, st1⟩ := initO X0 hx hZ hown (hw _ (List.mem_of_getElem? (i := 34) rfl)) (hw _ (List.mem_of_getElem? (i := 35) rfl)) (hw _ (List.mem_of_getElem? (i := 36) rfl)) e0 (g := (mkF m 1 #[.val (.ref a), .val (.long q), .second, .val (.int i)] [(.ref a)])) rfl (by rw [hml]; rfl) rfl (hb hby d7_1) (by decide) (W := 0) (by show 2 * 0 + _ ≤ _; exact Nat.le_of_eq rfl) (by decide)
  obtain ⟨T2, h2, X2, e2, W2, st2⟩ := putF X1 hx hZ hown (host := "") (Or.inl (hw _ (List.mem_of_getElem? (i := 37) rfl))) Via.refl e1 F_s_a E_a (Or.inr ⟨(hw _ (List.mem_of_getElem? (i := 38) rfl)), rfl, hnm⟩) (hw _ (List.mem_of_getElem? (i := 29) rfl)) (ty := .long) (by decide) rfl rfl (g := (mkF m 6 #[.val (.ref a), .val (.long q), .second, .val (.int i)] [(.long q), (.ref a)])) rfl rfl (hb hby d7_6)
  have F_s_a := F_s_a.same W2
  have E_a := E_a.wr W2
  have F_n_a := F_n_a.other W2 (Or.inr (slot_ne (Or.inr (hw _ (List.mem_of_getElem? (i := 40) rfl))) (Or.inr (hw _ (List.mem_of_getElem? (i := 38) rfl))) (by decide) (t := .int) (t' := .long) (by decide) (by decide)))
  have O := O.wr W2 g_a
  have K := K.wr W2 (Or.inl (List.mem_of_getElem? (i := 0) rfl))
  have N2 := Fr.snoc X2 N0 g_a
  obtain ⟨T3, h3, X3, e3, W3, st3⟩ := putF X2 hx hZ hown (host := "") (Or.inl (hw _ (List.mem_of_getElem? (i := 39) rfl))) Via.refl e2 F_n_a E_a (Or.inr ⟨(hw _ (List.mem_of_getElem? (i := 40) rfl)), rfl, hnm⟩) (hw _ (List.mem_of_getElem? (i := 29) rfl)) (ty := .int) (by decide) rfl rfl (g := (mkF m 11 #[.val (.ref a), .val (.long q), .second, .val (.int i)] [(.int i), (.ref a)])) rfl rfl (hb hby d7_11)
  have F_n_a := F_n_a.same W3
  have E_a := E_a.wr W3
  have F_s_a := F_s_a.other W3 (Or.inr (slot_ne (Or.inr (hw _ (List.mem_of_getElem? (i := 38) rfl))) (Or.inr (hw _ (List.mem_of_getElem? (i := 40) rfl))) (by decide) (t := .long) (t' := .int) (by decide) (by decide)))
  have O := O.wr W3 g_a
  have K := K.wr W3 (Or.inl (List.mem_of_getElem? (i := 0) rfl))
  have N3 := Fr.snoc X3 N2 g_a
  have w4 : ∀ t, Steps p.tables e below (T3.setTop (mkF m 14 #[.val (.ref a), .val (.long q), .second, .val (.int i)] [])) t → Steps p.tables e below (s₁.setTop (entryFrame m #[(.ref a), (.long q), (.int i)] 4)) t := fun t k => by
    refine pre0 t ?_
    refine XS.aloadN X0.here hx rfl (hb hby d7_0) rfl rfl ?_
    show Steps p.tables e below (s₁.setTop (mkF m 1 #[.val (.ref a), .val (.long q), .second, .val (.int i)] [(.ref a)])) _
    refine st1 _ ?_
    show Steps p.tables e below (T1.setTop (mkF m 4 #[.val (.ref a), .val (.long q), .second, .val (.int i)] [])) _
    refine XS.aloadN X1.here hx rfl (hb hby d7_4) rfl rfl ?_
    show Steps p.tables e below (T1.setTop (mkF m 5 #[.val (.ref a), .val (.long q), .second, .val (.int i)] [(.ref a)])) _
    refine XS.lloadN X1.here hx rfl (hb hby d7_5) rfl ?_
    show Steps p.tables e below (T1.setTop (mkF m 6 #[.val (.ref a), .val (.long q), .second, .val (.int i)] [(.long q), (.ref a)])) _
    refine st2 _ ?_
    show Steps p.tables e below (T2.setTop (mkF m 9 #[.val (.ref a), .val (.long q), .second, .val (.int i)] [])) _
    refine XS.aloadN X2.here hx rfl (hb hby d7_9) rfl rfl ?_
    show Steps p.tables e below (T2.setTop (mkF m 10 #[.val (.ref a), .val (.long q), .second, .val (.int i)] [(.ref a)])) _
    refine XS.iloadN X2.here hx rfl (hb hby d7_10) rfl ?_
    show Steps p.tables e below (T2.setTop (mkF m 11 #[.val (.ref a), .val (.long q), .second, .val (.int i)] [(.int i), (.ref a)])) _
    refine st3 _ ?_
    show Steps p.tables e below (T3.setTop (mkF m 14 #[.val (.ref a), .val (.long q), .second, .val (.int i)] [])) _
    exact k
  obtain ⟨fs, hr, hrun, hended, hW, hsame⟩ := X3.leave (v := none) (fun _ => rfl)
  refine ⟨_, _, w4 _ ?_, hrun, hended, _, _, rfl, ?_, ⟨_, rfl⟩, hW, hsame.mono (by decide) (by decide)⟩
  · exact X3.returnOut hx Bd.returns (hb hby d7_14) hr
  · show Q7 Z a q i  h0 n0 _ T3.heap _
    rw [e3]
    exact ⟨rfl, N3, K, F_s_a, F_n_a⟩
theorem d6_0 : decode jdk_2320_method_8_code 0 = .ok (.lload_n 0, 1) := by decide +kernel
theorem d6_1 : decode jdk_2320_method_8_code 1 = .ok (.iload_n 2, 1) := by decide +kernel
theorem d6_2 : decode jdk_2320_method_8_code 2 = .ok (.i2l, 1) := by decide +kernel
theorem d6_3 : decode jdk_2320_method_8_code 3 = .ok (.lor, 1) := by decide +kernel
theorem d6_4 : decode jdk_2320_method_8_code 4 = .ok (.lconst 0, 1) := by decide +kernel
theorem d6_5 : decode jdk_2320_method_8_code 5 = .ok (.lcmp, 1) := by decide +kernel
theorem d6_6 : decode jdk_2320_method_8_code 6 = .ok (.ifCond .ne 7, 3) := by decide +kernel
theorem d6_9 : decode jdk_2320_method_8_code 9 = .ok (.getstatic 121, 3) := by decide +kernel
theorem d6_12 : decode jdk_2320_method_8_code 12 = .ok (.areturn, 1) := by decide +kernel
theorem d6_13 : decode jdk_2320_method_8_code 13 = .ok (.lload_n 0, 1) := by decide +kernel
theorem d6_14 : decode jdk_2320_method_8_code 14 = .ok (.ldc2_w 125, 3) := by decide +kernel
theorem d6_17 : decode jdk_2320_method_8_code 17 = .ok (.lcmp, 1) := by decide +kernel
theorem d6_18 : decode jdk_2320_method_8_code 18 = .ok (.ifCond .lt 11, 3) := by decide +kernel
theorem d6_21 : decode jdk_2320_method_8_code 21 = .ok (.lload_n 0, 1) := by decide +kernel
theorem d6_22 : decode jdk_2320_method_8_code 22 = .ok (.ldc2_w 127, 3) := by decide +kernel
theorem d6_25 : decode jdk_2320_method_8_code 25 = .ok (.lcmp, 1) := by decide +kernel
theorem d6_26 : decode jdk_2320_method_8_code 26 = .ok (.ifCond .le 13, 3) := by decide +kernel
theorem d6_39 : decode jdk_2320_method_8_code 39 = .ok (.new 21, 3) := by decide +kernel
theorem d6_42 : decode jdk_2320_method_8_code 42 = .ok (.dup, 1) := by decide +kernel
theorem d6_43 : decode jdk_2320_method_8_code 43 = .ok (.lload_n 0, 1) := by decide +kernel
theorem d6_44 : decode jdk_2320_method_8_code 44 = .ok (.iload_n 2, 1) := by decide +kernel
theorem d6_45 : decode jdk_2320_method_8_code 45 = .ok (.invokespecial 134, 3) := by decide +kernel
theorem pd__40JI_41V : parseMethodDescriptor "(JI)V" = some ⟨[.long, .int], none⟩ := by decide +kernel
theorem d6_48 : decode jdk_2320_method_8_code 48 = .ok (.areturn, 1) := by decide +kernel
theorem ef_6 (m : MethodId) (x0 : Int64) (x1 : Int32) : entryFrame m #[(.long x0), (.int x1)] 3 = mkF m 0 #[.val (.long x0), .second, .val (.int x1)] [] := by first | (simp [entryFrame, mkF, argsToLocals, Value.category]; done) | rfl
def Q6 (Z : State) (q : Int64) (i : Int32) (s_EPOCH : Addr) (h0 : Heap) (n0 : Nat) (v : Option Value) (h : Heap) (L : List Loc) : Prop := ∃ z : Addr, v = some (.ref z) ∧ Fr n0 L ∧ Keep h0 h [] ∧ Exa Z h z "java/time/Instant" ∧ Fld Z h z "java/time/Instant" "seconds" "J" (.long q) ∧ Fld Z h z "java/time/Instant" "nanos" "I" (.int i)
set_option maxRecDepth 65536 in
set_option maxHeartbeats 40000000 in
theorem rm6 (l : Launch) (Z : State) (a0 : Array Value) (hw : ∀ d ∈ tables_1, d.before a0 Z = true) (ws : List Jvm.Cond) (q : Int64) (i : Int32) (s_EPOCH : Addr) (h0 : Heap) (n0 : Nat) (O0 : Old Z n0 h0) (S_s_EPOCH : Sta Z Z.heap "java/time/Instant" "EPOCH" "Ljava/time/Instant;" (.ref s_EPOCH)) (hg : -31557014167219200 ≤ q.toInt ∧ q.toInt ≤ 31556889864403199) (E_EP : Exa Z Z.heap s_EPOCH "java/time/Instant") (F_EPs : Fld Z Z.heap s_EPOCH "java/time/Instant" "seconds" "J" (.long (0 : Int64))) (F_EPn : Fld Z Z.heap s_EPOCH "java/time/Instant" "nanos" "I" (.int (0 : Int32))) :
    MetFree l (⟨"java/time/Instant", "create", "(JI)Ljava/time/Instant;"⟩ : MethodName) (head1 (Jvm.Cond.code (⟨"java/time/Instant", "create", "(JI)Ljava/time/Instant;"⟩ : MethodName) jdk_2320_method_8_code 3 (some (.object "java/time/Instant")) :: ws) ({ frames := 2, cells := 1, slots := 2, locals := 28 } : Room)) (fun aA uU => aA = #[(.long q), (.int i)] ∧ Z.Warmed39 uU.vm ∧ uU.heap = h0) (fun _ _ _ _ _ => True) (fun _ uU oO uU' => ∃ vV lL, oO = .returned vV ∧ Q6 Z q i s_EPOCH h0 n0 vV uU'.heap lL ∧ FrameEnd uU oO uU' lL ({ frames := 2, cells := 1, slots := 2, locals := 28 } : Room).cells ({ frames := 2, cells := 1, slots := 2, locals := 28 } : Room).slots) := by
  refine MetFree.of_bodySF (plainFor_of_name pn_java_time_Instant) hisR ?_
  intro p e s m args below meth c s₁ Bd hml0 hP hK
  obtain ⟨rfl, hZ, hh⟩ := hP
  have hx := Bd.exec
  have hby := Bd.bytes
  have hml : c.maxLocals = 3 := hml0
  have hown : s.vm.findClass "java/time/Instant" = some m.cls := findClass_of_methodNamed Bd.named
  have hnm := (name_of_methodNamed Bd.named Bd.method).1
  have X0 : Stand p l e ({ frames := 2, cells := 1, slots := 2, locals := 28 } : Room) s m #[(.long q), (.int i)] below meth c s₁ [] 0 0 := Stand.of_body Bd
  have e0 : s₁.heap = h0 := by rw [← hh, Bd.state]; rfl
  have N0 := Fr.nil n0
  have O := O0
  have K := Keep.refl h0 []
  have pre0 : ∀ t, Steps p.tables e below (s₁.setTop (mkF m 0 #[.val (.long q), .second, .val (.int i)] [])) t → Steps p.tables e below (s₁.setTop (entryFrame m #[(.long q), (.int i)] 3)) t := fun t k => castTop (ef_6 m q i) k
  have w1 : ∀ t, Steps p.tables e below (s₁.setTop (mkF m 6 #[.val (.long q), .second, .val (.int i)] [(.int (lcmpW (q ||| (i.toInt64)) (0 : Int64)))])) t → Steps p.tables e below (s₁.setTop (entryFrame m #[(.long q), (.int i)] 3)) t := fun t k => by
    refine pre0 t ?_
    refine XS.lloadN X0.here hx rfl (hb hby d6_0) rfl ?_
    show Steps p.tables e below (s₁.setTop (mkF m 1 #[.val (.long q), .second, .val (.int i)] [(.long q)])) _
    refine XS.iloadN X0.here hx rfl (hb hby d6_1) rfl ?_
    show Steps p.tables e below (s₁.setTop (mkF m 2 #[.val (.long q), .second, .val (.int i)] [(.int i), (.long q)])) _
    refine XS.i2l X0.here hx rfl (hb hby d6_2) rfl ?_
    show Steps p.tables e below (s₁.setTop (mkF m 3 #[.val (.long q), .second, .val (.int i)] [(.long (i.toInt64)), (.long q)])) _
    refine XS.lor X0.here hx rfl (hb hby d6_3) rfl ?_
    show Steps p.tables e below (s₁.setTop (mkF m 4 #[.val (.long q), .second, .val (.int i)] [(.long (q ||| (i.toInt64)))])) _
    refine XS.lconst X0.here hx rfl (hb hby d6_4) ?_
    show Steps p.tables e below (s₁.setTop (mkF m 5 #[.val (.long q), .second, .val (.int i)] [(.long (0 : Int64)), (.long (q ||| (i.toInt64)))])) _
    refine XS.lcmp X0.here hx rfl (hb hby d6_5) rfl ?_
    show Steps p.tables e below (s₁.setTop (mkF m 6 #[.val (.long q), .second, .val (.int i)] [(.int (lcmpW (q ||| (i.toInt64)) (0 : Int64)))])) _
    exact k
  by_cases hc6_2 : (lcmpW (q ||| (i.toInt64)) (0 : Int64)) = (0 : Int32)
  · obtain ⟨T3, X3, e3, st3⟩ := getS2 X0 hx hZ hown (host := "") (Or.inl (hw _ (List.mem_of_getElem? (i := 62) rfl))) Via.refl e0 (S_s_EPOCH.ext O.2) (g := (mkF m 9 #[.val (.long q), .second, .val (.int i)] [])) rfl (hb hby d6_9)
    have w4 : ∀ t, Steps p.tables e below (T3.setTop (mkF m 12 #[.val (.long q), .second, .val (.int i)] [(.ref s_EPOCH)])) t → Steps p.tables e below (s₁.setTop (entryFrame m #[(.long q), (.int i)] 3)) t := fun t k => by
      refine w1 t ?_
      refine XS.ifNo X0.here hx rfl (hb hby d6_6) rfl ((if0 _ _).trans (teq hc6_2).2) ?_
      show Steps p.tables e below (s₁.setTop (mkF m 9 #[.val (.long q), .second, .val (.int i)] [])) _
      refine st3 _ ?_
      show Steps p.tables e below (T3.setTop (mkF m 12 #[.val (.long q), .second, .val (.int i)] [(.ref s_EPOCH)])) _
      exact k
    obtain ⟨fs, hr, hrun, hended, hW, hsame⟩ := X3.leave (v := some (.ref s_EPOCH)) (fun h => by rw [Bd.returns] at h; cases h)
    refine ⟨_, _, w4 _ ?_, hrun, hended, _, _, rfl, ?_, ⟨_, rfl⟩, hW, hsame.mono (by decide) (by decide)⟩
    · jvm_step X3.here [X3.here.top, hx, (hb hby d6_12), X3.method', Bd.returns, Value.isRef, FieldType.isReference]
      first | (intro acts; rw [hr _ acts rfl rfl rfl]) | rw [hr _ _ rfl rfl rfl]
      exact Steps.refl _
    · show Q6 Z q i s_EPOCH h0 n0 _ T3.heap _
      rw [e3]
      exact ⟨s_EPOCH, rfl, N0, K, (E_EP.ext O.2), (by rw [(own_oz hc6_2).1]; exact F_EPs.ext O.2), (by rw [(own_oz hc6_2).2]; exact F_EPn.ext O.2)⟩
  · obtain ⟨T5, h5, X5, e5, E5, A5, D5, -, st5⟩ := newO X0 hx hZ hown (hw _ (List.mem_of_getElem? (i := 28) rfl)) (hw _ (List.mem_of_getElem? (i := 29) rfl)) (hw _ (List.mem_of_getElem? (i := 15) rfl)) e0 (g := (mkF m 39 #[.val (.long q), .second, .val (.int i)] [])) rfl (hb hby d6_39) (by decide) (by decide)
    obtain ⟨b5, gq5⟩ : ∃ z, z = Array.size h0 := ⟨_, rfl⟩
    rw [← gq5] at A5 D5 st5
    have g_b5 : n0 ≤ b5 := Nat.le_trans (O.1 ▸ O.2.1) (Nat.le_of_eq gq5.symm)
    have z_b5 : h0.size ≤ b5 := Nat.le_trans K.1 (Nat.le_of_eq gq5.symm)
    have O := O.ext E5
    have K := K.ext E5
    have F_seconds_b5 : Fld Z h5 b5 "java/time/Instant" "seconds" "J" (.long (0 : Int64)) := D5 (Or.inr (hw _ (List.mem_of_getElem? (i := 38) rfl))) (ty := .long) (by decide)
    have F_nanos_b5 : Fld Z h5 b5 "java/time/Instant" "nanos" "I" (.int (0 : Int32)) := D5 (Or.inr (hw _ (List.mem_of_getElem? (i := 40) rfl))) (ty := .int) (by decide)
    obtain ⟨_, _, ⟨T6, L6, k6, n6⟩, -, X6, ⟨Lc6, hQ6, l6, y6, z6⟩, st6⟩ := X5.specialBack hx (y := (⟨"java/time/Instant", "<init>", "(JI)V"⟩ : MethodName)) rfl hown (mvT hZ (hw _ (List.mem_of_getElem? (i := 30) rfl))) (mvT hZ (hw _ (List.mem_of_getElem? (i := 31) rfl))) (mvT hZ (hw _ (List.mem_of_getElem? (i := 33) rfl))) (by decide) (backOf (W := 1) (rm7 l Z a0 hw [] b5 q i h5 n0 O A5 F_seconds_b5 F_nanos_b5 g_b5) hZ (hw _ (List.mem_of_getElem? (i := 33) rfl)) (hw _ (List.mem_of_getElem? (i := 15) rfl)) (by decide) (by decide)) (g := (mkF m 45 #[.val (.long q), .second, .val (.int i)] [(.int i), (.long q), (.ref b5), (.ref b5)])) rfl (by rw [hml]; rfl) (Steps.refl _) (a := b5) (argsL := [(.long q), (.int i)]) (rest := [(.ref b5)]) (lenOf pd__40JI_41V rfl) rfl (by show 2 * 0 + _ ≤ _; exact Nat.le_of_eq rfl) (hb hby d6_45) (fun _ _ => ⟨rfl, e5, (by decide : 1 + 0 ≤ _), (by decide : 2 + 0 ≤ _)⟩)
    dsimp only [Pt.U, Pt.locs, Pt.cells, Pt.slots] at X6 l6 y6 z6 st6 hQ6
    subst l6 y6 z6
    obtain ⟨rfl, N6q, K6, F_s_a_c6, F_n_a_c6⟩ := hQ6
    have N6 := Fr.app N0 N6q
    have A5 := A5.keep K6
    have O := O.keep K6 (allS g_b5 all0)
    have K := K.trans K6 (allS (Or.inr z_b5) all0)
    have w7 : ∀ t, Steps p.tables e below (T6.setTop (mkF m 48 #[.val (.long q), .second, .val (.int i)] [(.ref b5)])) t → Steps p.tables e below (s₁.setTop (entryFrame m #[(.long q), (.int i)] 3)) t := fun t k => by
      refine w1 t ?_
      refine XS.ifYes X0.here hx rfl (pc0 := 6) (pc' := 13) rfl (hb hby d6_6) rfl ((if0 _ _).trans (feq hc6_2).2) (by decide) (by decide) ?_
      show Steps p.tables e below (s₁.setTop (mkF m 13 #[.val (.long q), .second, .val (.int i)] [])) _
      refine XS.lloadN X0.here hx rfl (hb hby d6_13) rfl ?_
      show Steps p.tables e below (s₁.setTop (mkF m 14 #[.val (.long q), .second, .val (.int i)] [(.long q)])) _
      refine X0.ldc2Long hx hown (mvT hZ (hw _ (List.mem_of_getElem? (i := 26) rfl))) (g := (mkF m 14 #[.val (.long q), .second, .val (.int i)] [(.long q)])) rfl (hb hby d6_14) _ ?_
      show Steps p.tables e below (s₁.setTop (mkF m 17 #[.val (.long q), .second, .val (.int i)] [(.long (-31557014167219200 : Int64)), (.long q)])) _
      refine XS.lcmp X0.here hx rfl (hb hby d6_17) rfl ?_
      show Steps p.tables e below (s₁.setTop (mkF m 18 #[.val (.long q), .second, .val (.int i)] [(.int (lcmpW q (-31557014167219200 : Int64)))])) _
      refine XS.ifNo X0.here hx rfl (hb hby d6_18) rfl ((if0 _ _).trans (flt ((own_rg hg).1 : ¬ ((lcmpW q (-31557014167219200 : Int64)) < (0 : Int32)))).1) ?_
      show Steps p.tables e below (s₁.setTop (mkF m 21 #[.val (.long q), .second, .val (.int i)] [])) _
      refine XS.lloadN X0.here hx rfl (hb hby d6_21) rfl ?_
      show Steps p.tables e below (s₁.setTop (mkF m 22 #[.val (.long q), .second, .val (.int i)] [(.long q)])) _
      refine X0.ldc2Long hx hown (mvT hZ (hw _ (List.mem_of_getElem? (i := 27) rfl))) (g := (mkF m 22 #[.val (.long q), .second, .val (.int i)] [(.long q)])) rfl (hb hby d6_22) _ ?_
      show Steps p.tables e below (s₁.setTop (mkF m 25 #[.val (.long q), .second, .val (.int i)] [(.long (31556889864403199 : Int64)), (.long q)])) _
      refine XS.lcmp X0.here hx rfl (hb hby d6_25) rfl ?_
      show Steps p.tables e below (s₁.setTop (mkF m 26 #[.val (.long q), .second, .val (.int i)] [(.int (lcmpW q (31556889864403199 : Int64)))])) _
      refine XS.ifYes X0.here hx rfl (pc0 := 26) (pc' := 39) rfl (hb hby d6_26) rfl ((if0 _ _).trans (flt ((own_rg hg).2 : ¬ ((0 : Int32) < (lcmpW q (31556889864403199 : Int64))))).2.2.2) (by decide) (by decide) ?_
      show Steps p.tables e below (s₁.setTop (mkF m 39 #[.val (.long q), .second, .val (.int i)] [])) _
      refine st5 _ ?_
      show Steps p.tables e below (T5.setTop (mkF m 42 #[.val (.long q), .second, .val (.int i)] [(.ref b5)])) _
      refine XS.dup X5.here hx rfl (hb hby d6_42) rfl rfl ?_
      show Steps p.tables e below (T5.setTop (mkF m 43 #[.val (.long q), .second, .val (.int i)] [(.ref b5), (.ref b5)])) _
      refine XS.lloadN X5.here hx rfl (hb hby d6_43) rfl ?_
      show Steps p.tables e below (T5.setTop (mkF m 44 #[.val (.long q), .second, .val (.int i)] [(.long q), (.ref b5), (.ref b5)])) _
      refine XS.iloadN X5.here hx rfl (hb hby d6_44) rfl ?_
      show Steps p.tables e below (T5.setTop (mkF m 45 #[.val (.long q), .second, .val (.int i)] [(.int i), (.long q), (.ref b5), (.ref b5)])) _
      refine st6.trans ?_
      show Steps p.tables e below (T6.setTop (mkF m 48 #[.val (.long q), .second, .val (.int i)] [(.ref b5)])) _
      exact k
    obtain ⟨fs, hr, hrun, hended, hW, hsame⟩ := X6.leave (v := some (.ref b5)) (fun h => by rw [Bd.returns] at h; cases h)
    refine ⟨_, _, w7 _ ?_, hrun, hended, _, _, rfl, ?_, ⟨_, rfl⟩, hW, hsame.mono (by decide) (by decide)⟩
    · jvm_step X6.here [X6.here.top, hx, (hb hby d6_48), X6.method', Bd.returns, Value.isRef, FieldType.isReference]
      first | (intro acts; rw [hr _ acts rfl rfl rfl]) | rw [hr _ _ rfl rfl rfl]
      exact Steps.refl _
    · show Q6 Z q i s_EPOCH h0 n0 _ T6.heap _
      exact ⟨b5, rfl, N6, K, A5, F_s_a_c6, F_n_a_c6⟩
theorem d4_0 : decode jdk_2320_method_4_code 0 = .ok (.lload_n 0, 1) := by decide +kernel
def own_F0 (x0 : Int64) (x2 : Int64) : Array Slot := #[.val (.long x0), .second, .val (.long x2), .second, .unset, .unset, .unset]
theorem d4_1 : decode jdk_2320_method_4_code 1 = .ok (.lload_n 2, 1) := by decide +kernel
theorem d4_2 : decode jdk_2320_method_4_code 2 = .ok (.ldc2_w 26, 3) := by decide +kernel
theorem d4_5 : decode jdk_2320_method_4_code 5 = .ok (.invokestatic 28, 3) := by decide +kernel
theorem pd__40JJ_41J : parseMethodDescriptor "(JJ)J" = some ⟨[.long, .long], some .long⟩ := by decide +kernel
theorem d4_8 : decode jdk_2320_method_4_code 8 = .ok (.invokestatic 34, 3) := by decide +kernel
theorem d4_11 : decode jdk_2320_method_4_code 11 = .ok (.lstore 4, 2) := by decide +kernel
def own_F1 (x0 : Int64) (x2 : Int64) (x4 : Int64) : Array Slot := #[.val (.long x0), .second, .val (.long x2), .second, .val (.long x4), .second, .unset]
theorem d4_13 : decode jdk_2320_method_4_code 13 = .ok (.lload_n 2, 1) := by decide +kernel
theorem d4_14 : decode jdk_2320_method_4_code 14 = .ok (.ldc2_w 26, 3) := by decide +kernel
theorem d4_17 : decode jdk_2320_method_4_code 17 = .ok (.invokestatic 37, 3) := by decide +kernel
theorem d4_20 : decode jdk_2320_method_4_code 20 = .ok (.l2i, 1) := by decide +kernel
theorem d4_21 : decode jdk_2320_method_4_code 21 = .ok (.istore 6, 2) := by decide +kernel
def own_F2 (x0 : Int64) (x2 : Int64) (x4 : Int64) (x6 : Int32) : Array Slot := #[.val (.long x0), .second, .val (.long x2), .second, .val (.long x4), .second, .val (.int x6)]
theorem d4_23 : decode jdk_2320_method_4_code 23 = .ok (.lload 4, 2) := by decide +kernel
theorem d4_25 : decode jdk_2320_method_4_code 25 = .ok (.iload 6, 2) := by decide +kernel
theorem d4_27 : decode jdk_2320_method_4_code 27 = .ok (.invokestatic 20, 3) := by decide +kernel
theorem pd__40JI_41Ljava_47time_47Instant_59 : parseMethodDescriptor "(JI)Ljava/time/Instant;" = some ⟨[.long, .int], some (.object "java/time/Instant")⟩ := by decide +kernel
theorem d4_30 : decode jdk_2320_method_4_code 30 = .ok (.areturn, 1) := by decide +kernel
theorem ef_4 (m : MethodId) (x0 : Int64) (x1 : Int64) : entryFrame m #[(.long x0), (.long x1)] 7 = mkF m 0 #[.val (.long x0), .second, .val (.long x1), .second, .unset, .unset, .unset] [] := by first | (simp [entryFrame, mkF, argsToLocals, Value.category]; done) | rfl
def Q4 (Z : State) (q : Int64) (r : Int64) (s_EPOCH : Addr) (h0 : Heap) (n0 : Nat) (v : Option Value) (h : Heap) (L : List Loc) : Prop := ∃ z : Addr, ∃ u : Int64, ∃ i : Int32, v = some (.ref z) ∧ Fr n0 L ∧ Keep h0 h [] ∧ Exa Z h z "java/time/Instant" ∧ Fld Z h z "java/time/Instant" "seconds" "J" (.long u) ∧ Fld Z h z "java/time/Instant" "nanos" "I" (.int i) ∧ u.toInt = q.toInt ∧ i.toInt = r.toInt
set_option maxRecDepth 65536 in
set_option maxHeartbeats 40000000 in
theorem rm4 (l : Launch) (Z : State) (a0 : Array Value) (hw : ∀ d ∈ tables_1, d.before a0 Z = true) (ws : List Jvm.Cond) (q : Int64) (r : Int64) (s_EPOCH : Addr) (h0 : Heap) (n0 : Nat) (O0 : Old Z n0 h0) (S_s_EPOCH : Sta Z Z.heap "java/time/Instant" "EPOCH" "Ljava/time/Instant;" (.ref s_EPOCH)) (hr0 : 0 ≤ r.toInt ∧ r.toInt < 1000000000) (hg : -31557014167219200 ≤ q.toInt ∧ q.toInt ≤ 31556889864403199) (E_EP : Exa Z Z.heap s_EPOCH "java/time/Instant") (F_EPs : Fld Z Z.heap s_EPOCH "java/time/Instant" "seconds" "J" (.long (0 : Int64))) (F_EPn : Fld Z Z.heap s_EPOCH "java/time/Instant" "nanos" "I" (.int (0 : Int32))) :
    MetFree l (⟨"java/time/Instant", "ofEpochSecond", "(JJ)Ljava/time/Instant;"⟩ : MethodName) (head1 (Jvm.Cond.code (⟨"java/time/Instant", "ofEpochSecond", "(JJ)Ljava/time/Instant;"⟩ : MethodName) jdk_2320_method_4_code 7 (some (.object "java/time/Instant")) :: ws) ({ frames := 3, cells := 1, slots := 2, locals := 42 } : Room)) (fun aA uU => aA = #[(.long q), (.long r)] ∧ Z.Warmed39 uU.vm ∧ uU.heap = h0) (fun _ _ _ _ _ => True) (fun _ uU oO uU' => ∃ vV lL, oO = .returned vV ∧ Q4 Z q r s_EPOCH h0 n0 vV uU'.heap lL ∧ FrameEnd uU oO uU' lL ({ frames := 3, cells := 1, slots := 2, locals := 42 } : Room).cells ({ frames := 3, cells := 1, slots := 2, locals := 42 } : Room).slots) := by
  refine MetFree.of_bodySF (plainFor_of_name pn_java_time_Instant) hisR ?_
  intro p e s m args below meth c s₁ Bd hml0 hP hK
  obtain ⟨rfl, hZ, hh⟩ := hP
  have hx := Bd.exec
  have hby := Bd.bytes
  have hml : c.maxLocals = 7 := hml0
  have hown : s.vm.findClass "java/time/Instant" = some m.cls := findClass_of_methodNamed Bd.named
  have hnm := (name_of_methodNamed Bd.named Bd.method).1
  have X0 : Stand p l e ({ frames := 3, cells := 1, slots := 2, locals := 42 } : Room) s m #[(.long q), (.long r)] below meth c s₁ [] 0 0 := Stand.of_body Bd
  have e0 : s₁.heap = h0 := by rw [← hh, Bd.state]; rfl
  have N0 := Fr.nil n0
  have O := O0
  have K := Keep.refl h0 []
  have pre0 : ∀ t, Steps p.tables e below (s₁.setTop (mkF m 0 #[.val (.long q), .second, .val (.long r), .second, .unset, .unset, .unset] [])) t → Steps p.tables e below (s₁.setTop (entryFrame m #[(.long q), (.long r)] 7)) t := fun t k => castTop (ef_4 m q r) k
  obtain ⟨_, _, ⟨T1, L1, k1, n1⟩, -, X1, ⟨Lc1, hQ1, l1, y1, z1⟩, st1⟩ := Jvm.LawKit.callS X0 hx (y := (⟨"java/lang/Math", "floorDiv", "(JJ)J"⟩ : MethodName)) hown (mvT hZ (hw _ (List.mem_of_getElem? (i := 18) rfl))) (mvT hZ (hw _ (List.mem_of_getElem? (i := 7) rfl))) (mvT hZ (hw _ (List.mem_of_getElem? (i := 8) rfl))) (mvT hZ (hw _ (List.mem_of_getElem? (i := 9) rfl))) (by decide) (backOf (W := 2) (rm2 l Z a0 hw [] r h0 n0 O ) hZ (hw _ (List.mem_of_getElem? (i := 9) rfl)) (hw _ (List.mem_of_getElem? (i := 8) rfl)) (by decide) (by decide)) (g := (mkF m 5 (own_F0 q r) [(.long (1000000000 : Int64)), (.long r), (.long q)])) rfl (by rw [hml]; rfl) (argsL := [(.long r), (.long (1000000000 : Int64))]) (rest := [(.long q)]) (lenOf pd__40JJ_41J rfl) rfl (by show 2 * 0 + _ ≤ _; exact Nat.le_of_eq rfl) (hb hby d4_5) (fun _ _ => ⟨rfl, e0, (by decide : 0 + 0 ≤ _), (by decide : 0 + 0 ≤ _)⟩)
  dsimp only [Pt.U, Pt.locs, Pt.cells, Pt.slots] at X1 l1 y1 z1 st1 hQ1
  subst l1 y1 z1
  obtain ⟨r_1, rfl, N1q, eh1, hr_1⟩ := hQ1
  have N1 := Fr.app N0 N1q
  obtain ⟨_, _, ⟨T2, L2, k2, n2⟩, -, X2, ⟨Lc2, hQ2, l2, y2, z2⟩, st2⟩ := Jvm.LawKit.callS X1 hx (y := (⟨"java/lang/Math", "addExact", "(JJ)J"⟩ : MethodName)) hown (mvT hZ (hw _ (List.mem_of_getElem? (i := 19) rfl))) (mvT hZ (hw _ (List.mem_of_getElem? (i := 20) rfl))) (mvT hZ (hw _ (List.mem_of_getElem? (i := 8) rfl))) (mvT hZ (hw _ (List.mem_of_getElem? (i := 21) rfl))) (by decide) (backOf (W := 0) (rm5 l Z a0 hw [] q r_1 h0 n0 O (by rw [hr_1]; omega)) hZ (hw _ (List.mem_of_getElem? (i := 21) rfl)) (hw _ (List.mem_of_getElem? (i := 8) rfl)) (by decide) (by decide)) (g := (mkF m 8 (own_F0 q r) [(.long r_1), (.long q)])) rfl (by rw [hml]; rfl) (argsL := [(.long q), (.long r_1)]) (rest := []) (lenOf pd__40JJ_41J rfl) rfl (by show 2 * 0 + _ ≤ _; exact Nat.le_of_eq rfl) (hb hby d4_8) (fun _ _ => ⟨rfl, eh1, (by decide : 0 + 0 ≤ _), (by decide : 0 + 0 ≤ _)⟩)
  dsimp only [Pt.U, Pt.locs, Pt.cells, Pt.slots] at X2 l2 y2 z2 st2 hQ2
  subst l2 y2 z2
  obtain ⟨rfl, N2q, eh2⟩ := hQ2
  have N2 := Fr.app N1 N2q
  have hu : (q + r_1).toInt = q.toInt := by rw [own_add (by rw [hr_1]; omega), hr_1]; omega
  obtain ⟨_, _, ⟨T3, L3, k3, n3⟩, -, X3, ⟨Lc3, hQ3, l3, y3, z3⟩, st3⟩ := Jvm.LawKit.callS X2 hx (y := (⟨"java/lang/Math", "floorMod", "(JJ)J"⟩ : MethodName)) hown (mvT hZ (hw _ (List.mem_of_getElem? (i := 22) rfl))) (mvT hZ (hw _ (List.mem_of_getElem? (i := 11) rfl))) (mvT hZ (hw _ (List.mem_of_getElem? (i := 8) rfl))) (mvT hZ (hw _ (List.mem_of_getElem? (i := 12) rfl))) (by decide) (backOf (W := 0) (rm3 l Z a0 hw [] r h0 n0 O ) hZ (hw _ (List.mem_of_getElem? (i := 12) rfl)) (hw _ (List.mem_of_getElem? (i := 8) rfl)) (by decide) (by decide)) (g := (mkF m 17 (own_F1 q r (q + r_1)) [(.long (1000000000 : Int64)), (.long r)])) rfl (by rw [hml]; rfl) (argsL := [(.long r), (.long (1000000000 : Int64))]) (rest := []) (lenOf pd__40JJ_41J rfl) rfl (by show 2 * 0 + _ ≤ _; exact Nat.le_of_eq rfl) (hb hby d4_17) (fun _ _ => ⟨rfl, eh2, (by decide : 0 + 0 ≤ _), (by decide : 0 + 0 ≤ _)⟩)
  dsimp only [Pt.U, Pt.locs, Pt.cells, Pt.slots] at X3 l3 y3 z3 st3 hQ3
  subst l3 y3 z3
  obtain ⟨r_3, rfl, N3q, eh3, hr_3⟩ := hQ3
  have N3 := Fr.app N2 N3q
  have hi : (r_3.toInt32).toInt = r.toInt := by rw [own_l2i (by rw [hr_3]; omega), hr_3]; omega
  obtain ⟨_, _, ⟨T4, L4, k4, n4⟩, -, X4, ⟨Lc4, hQ4, l4, y4, z4⟩, st4⟩ := Jvm.LawKit.callS X3 hx (y := (⟨"java/time/Instant", "create", "(JI)Ljava/time/Instant;"⟩ : MethodName)) hown (mvT hZ (hw _ (List.mem_of_getElem? (i := 23) rfl))) (mvT hZ (hw _ (List.mem_of_getElem? (i := 24) rfl))) (mvT hZ (hw _ (List.mem_of_getElem? (i := 15) rfl))) (mvT hZ (hw _ (List.mem_of_getElem? (i := 25) rfl))) (by decide) (backOf (W := 0) (rm6 l Z a0 hw [] (q + r_1) (r_3.toInt32) s_EPOCH h0 n0 O S_s_EPOCH (by rw [hu]; exact hg) E_EP F_EPs F_EPn) hZ (hw _ (List.mem_of_getElem? (i := 25) rfl)) (hw _ (List.mem_of_getElem? (i := 15) rfl)) (by decide) (by decide)) (g := (mkF m 27 (own_F2 q r (q + r_1) (r_3.toInt32)) [(.int (r_3.toInt32)), (.long (q + r_1))])) rfl (by rw [hml]; rfl) (argsL := [(.long (q + r_1)), (.int (r_3.toInt32))]) (rest := []) (lenOf pd__40JI_41Ljava_47time_47Instant_59 rfl) rfl (by show 2 * 0 + _ ≤ _; exact Nat.le_of_eq rfl) (hb hby d4_27) (fun _ _ => ⟨rfl, eh3, (by decide : 0 + 1 ≤ _), (by decide : 0 + 2 ≤ _)⟩)
  dsimp only [Pt.U, Pt.locs, Pt.cells, Pt.slots] at X4 l4 y4 z4 st4 hQ4
  subst l4 y4 z4
  obtain ⟨z_4, rfl, N4q, K4, E_z_c4, F_s_z_c4, F_n_z_c4⟩ := hQ4
  have N4 := Fr.app N3 N4q
  have O := O.keep K4 all0
  have K := K.trans K4 all0
  have w5 : ∀ t, Steps p.tables e below (T4.setTop (mkF m 30 (own_F2 q r (q + r_1) (r_3.toInt32)) [(.ref z_4)])) t → Steps p.tables e below (s₁.setTop (entryFrame m #[(.long q), (.long r)] 7)) t := fun t k => by
    refine pre0 t ?_
    refine XS.lloadN X0.here hx rfl (hb hby d4_0) rfl ?_
    show Steps p.tables e below (s₁.setTop (mkF m 1 (own_F0 q r) [(.long q)])) _
    refine XS.lloadN X0.here hx rfl (hb hby d4_1) rfl ?_
    show Steps p.tables e below (s₁.setTop (mkF m 2 (own_F0 q r) [(.long r), (.long q)])) _
    refine X0.ldc2Long hx hown (mvT hZ (hw _ (List.mem_of_getElem? (i := 17) rfl))) (g := (mkF m 2 (own_F0 q r) [(.long r), (.long q)])) rfl (hb hby d4_2) _ ?_
    show Steps p.tables e below (s₁.setTop (mkF m 5 (own_F0 q r) [(.long (1000000000 : Int64)), (.long r), (.long q)])) _
    refine st1 _ ?_
    show Steps p.tables e below (T1.setTop (mkF m 8 (own_F0 q r) [(.long r_1), (.long q)])) _
    refine st2 _ ?_
    show Steps p.tables e below (T2.setTop (mkF m 11 (own_F0 q r) [(.long (q + r_1))])) _
    refine XS.lstore X2.here hx rfl (hb hby d4_11) rfl (l' := (own_F1 q r (q + r_1))) rfl ?_
    show Steps p.tables e below (T2.setTop (mkF m 13 (own_F1 q r (q + r_1)) [])) _
    refine XS.lloadN X2.here hx rfl (hb hby d4_13) rfl ?_
    show Steps p.tables e below (T2.setTop (mkF m 14 (own_F1 q r (q + r_1)) [(.long r)])) _
    refine X2.ldc2Long hx hown (mvT hZ (hw _ (List.mem_of_getElem? (i := 17) rfl))) (g := (mkF m 14 (own_F1 q r (q + r_1)) [(.long r)])) rfl (hb hby d4_14) _ ?_
    show Steps p.tables e below (T2.setTop (mkF m 17 (own_F1 q r (q + r_1)) [(.long (1000000000 : Int64)), (.long r)])) _
    refine st3 _ ?_
    show Steps p.tables e below (T3.setTop (mkF m 20 (own_F1 q r (q + r_1)) [(.long r_3)])) _
    refine XS.l2i X3.here hx rfl (hb hby d4_20) rfl ?_
    show Steps p.tables e below (T3.setTop (mkF m 21 (own_F1 q r (q + r_1)) [(.int (r_3.toInt32))])) _
    refine XS.istore X3.here hx rfl (hb hby d4_21) rfl (l' := (own_F2 q r (q + r_1) (r_3.toInt32))) rfl ?_
    show Steps p.tables e below (T3.setTop (mkF m 23 (own_F2 q r (q + r_1) (r_3.toInt32)) [])) _
    refine XS.lload X3.here hx rfl (hb hby d4_23) rfl ?_
    show Steps p.tables e below (T3.setTop (mkF m 25 (own_F2 q r (q + r_1) (r_3.toInt32)) [(.long (q + r_1))])) _
    refine XS.iload X3.here hx rfl (hb hby d4_25) rfl ?_
    show Steps p.tables e below (T3.setTop (mkF m 27 (own_F2 q r (q + r_1) (r_3.toInt32)) [(.int (r_3.toInt32)), (.long (q + r_1))])) _
    refine st4 _ ?_
    show Steps p.tables e below (T4.setTop (mkF m 30 (own_F2 q r (q + r_1) (r_3.toInt32)) [(.ref z_4)])) _
    exact k
  obtain ⟨fs, hr, hrun, hended, hW, hsame⟩ := X4.leave (v := some (.ref z_4)) (fun h => by rw [Bd.returns] at h; cases h)
  refine ⟨_, _, w5 _ ?_, hrun, hended, _, _, rfl, ?_, ⟨_, rfl⟩, hW, hsame.mono (by decide) (by decide)⟩
  · jvm_step X4.here [X4.here.top, hx, (hb hby d4_30), X4.method', Bd.returns, Value.isRef, FieldType.isReference]
    first | (intro acts; rw [hr _ acts rfl rfl rfl]) | rw [hr _ _ rfl rfl rfl]
    exact Steps.refl _
  · show Q4 Z q r s_EPOCH h0 n0 _ T4.heap _
    exact ⟨z_4, (q + r_1), (r_3.toInt32), rfl, N4, K, E_z_c4, F_s_z_c4, F_n_z_c4, hu, hi⟩
theorem d1_0 : decode prog_13_method_3_code 0 = .ok (.lload_n 0, 1) := by decide +kernel
theorem d1_1 : decode prog_13_method_3_code 1 = .ok (.ldc2_w 15, 3) := by decide +kernel
theorem d1_4 : decode prog_13_method_3_code 4 = .ok (.invokestatic 30, 3) := by decide +kernel
theorem d1_7 : decode prog_13_method_3_code 7 = .ok (.lload_n 0, 1) := by decide +kernel
theorem d1_8 : decode prog_13_method_3_code 8 = .ok (.ldc2_w 15, 3) := by decide +kernel
theorem d1_11 : decode prog_13_method_3_code 11 = .ok (.invokestatic 33, 3) := by decide +kernel
theorem d1_14 : decode prog_13_method_3_code 14 = .ok (.invokestatic 36, 3) := by decide +kernel
theorem pd__40JJ_41Ljava_47time_47Instant_59 : parseMethodDescriptor "(JJ)Ljava/time/Instant;" = some ⟨[.long, .long], some (.object "java/time/Instant")⟩ := by decide +kernel
theorem d1_17 : decode prog_13_method_3_code 17 = .ok (.areturn, 1) := by decide +kernel
theorem pn_com_example_rolling_ledger_rollingledger_store_EpochNanos : plainName "com/example/rolling_ledger/rollingledger/store/EpochNanos" = true := by first | (simp [plainName, overriddenIn]; done) | decide +kernel
theorem ef_1 (m : MethodId) (x0 : Int64) : entryFrame m #[(.long x0)] 2 = mkF m 0 #[.val (.long x0), .second] [] := by first | (simp [entryFrame, mkF, argsToLocals, Value.category]; done) | rfl
def Q1 (Z : State) (q : Int64) (s_EPOCH : Addr) (h0 : Heap) (n0 : Nat) (v : Option Value) (h : Heap) (L : List Loc) : Prop := ∃ z : Addr, ∃ u : Int64, ∃ i : Int32, v = some (.ref z) ∧ Fr n0 L ∧ Keep h0 h [] ∧ Exa Z h z "java/time/Instant" ∧ Fld Z h z "java/time/Instant" "seconds" "J" (.long u) ∧ Fld Z h z "java/time/Instant" "nanos" "I" (.int i) ∧ u.toInt = q.toInt / 1000000000 ∧ i.toInt = q.toInt % 1000000000
set_option maxRecDepth 65536 in
set_option maxHeartbeats 40000000 in
theorem rm1 (l : Launch) (Z : State) (a0 : Array Value) (hw : ∀ d ∈ tables_1, d.before a0 Z = true) (ws : List Jvm.Cond) (q : Int64) (s_EPOCH : Addr) (h0 : Heap) (n0 : Nat) (O0 : Old Z n0 h0) (S_s_EPOCH : Sta Z Z.heap "java/time/Instant" "EPOCH" "Ljava/time/Instant;" (.ref s_EPOCH)) (E_EP : Exa Z Z.heap s_EPOCH "java/time/Instant") (F_EPs : Fld Z Z.heap s_EPOCH "java/time/Instant" "seconds" "J" (.long (0 : Int64))) (F_EPn : Fld Z Z.heap s_EPOCH "java/time/Instant" "nanos" "I" (.int (0 : Int32))) :
    MetFree l (⟨"com/example/rolling_ledger/rollingledger/store/EpochNanos", "toInstant", "(J)Ljava/time/Instant;"⟩ : MethodName) (head1 (Jvm.Cond.code (⟨"com/example/rolling_ledger/rollingledger/store/EpochNanos", "toInstant", "(J)Ljava/time/Instant;"⟩ : MethodName) prog_13_method_3_code 2 (some (.object "java/time/Instant")) :: ws) ({ frames := 4, cells := 1, slots := 2, locals := 60 } : Room)) (fun aA uU => aA = #[(.long q)] ∧ Z.Warmed39 uU.vm ∧ uU.heap = h0) (fun _ _ _ _ _ => True) (fun _ uU oO uU' => ∃ vV lL, oO = .returned vV ∧ Q1 Z q s_EPOCH h0 n0 vV uU'.heap lL ∧ FrameEnd uU oO uU' lL ({ frames := 4, cells := 1, slots := 2, locals := 60 } : Room).cells ({ frames := 4, cells := 1, slots := 2, locals := 60 } : Room).slots) := by
  refine MetFree.of_bodySF (plainFor_of_name pn_com_example_rolling_ledger_rollingledger_store_EpochNanos) hisR ?_
  intro p e s m args below meth c s₁ Bd hml0 hP hK
  obtain ⟨rfl, hZ, hh⟩ := hP
  have hx := Bd.exec
  have hby := Bd.bytes
  have hml : c.maxLocals = 2 := hml0
  have hown : s.vm.findClass "com/example/rolling_ledger/rollingledger/store/EpochNanos" = some m.cls := findClass_of_methodNamed Bd.named
  have hnm := (name_of_methodNamed Bd.named Bd.method).1
  have X0 : Stand p l e ({ frames := 4, cells := 1, slots := 2, locals := 60 } : Room) s m #[(.long q)] below meth c s₁ [] 0 0 := Stand.of_body Bd
  have e0 : s₁.heap = h0 := by rw [← hh, Bd.state]; rfl
  have N0 := Fr.nil n0
  have O := O0
  have K := Keep.refl h0 []
  have pre0 : ∀ t, Steps p.tables e below (s₁.setTop (mkF m 0 #[.val (.long q), .second] [])) t → Steps p.tables e below (s₁.setTop (entryFrame m #[(.long q)] 2)) t := fun t k => castTop (ef_1 m q) k
  obtain ⟨_, _, ⟨T1, L1, k1, n1⟩, -, X1, ⟨Lc1, hQ1, l1, y1, z1⟩, st1⟩ := Jvm.LawKit.callS X0 hx (y := (⟨"java/lang/Math", "floorDiv", "(JJ)J"⟩ : MethodName)) hown (mvT hZ (hw _ (List.mem_of_getElem? (i := 6) rfl))) (mvT hZ (hw _ (List.mem_of_getElem? (i := 7) rfl))) (mvT hZ (hw _ (List.mem_of_getElem? (i := 8) rfl))) (mvT hZ (hw _ (List.mem_of_getElem? (i := 9) rfl))) (by decide) (backOf (W := 0) (rm2 l Z a0 hw [] q h0 n0 O ) hZ (hw _ (List.mem_of_getElem? (i := 9) rfl)) (hw _ (List.mem_of_getElem? (i := 8) rfl)) (by decide) (by decide)) (g := (mkF m 4 #[.val (.long q), .second] [(.long (1000000000 : Int64)), (.long q)])) rfl (by rw [hml]; rfl) (argsL := [(.long q), (.long (1000000000 : Int64))]) (rest := []) (lenOf pd__40JJ_41J rfl) rfl (by show 2 * 0 + _ ≤ _; exact Nat.le_of_eq rfl) (hb hby d1_4) (fun _ _ => ⟨rfl, e0, (by decide : 0 + 0 ≤ _), (by decide : 0 + 0 ≤ _)⟩)
  dsimp only [Pt.U, Pt.locs, Pt.cells, Pt.slots] at X1 l1 y1 z1 st1 hQ1
  subst l1 y1 z1
  obtain ⟨r_1, rfl, N1q, eh1, hr_1⟩ := hQ1
  have N1 := Fr.app N0 N1q
  obtain ⟨_, _, ⟨T2, L2, k2, n2⟩, -, X2, ⟨Lc2, hQ2, l2, y2, z2⟩, st2⟩ := Jvm.LawKit.callS X1 hx (y := (⟨"java/lang/Math", "floorMod", "(JJ)J"⟩ : MethodName)) hown (mvT hZ (hw _ (List.mem_of_getElem? (i := 10) rfl))) (mvT hZ (hw _ (List.mem_of_getElem? (i := 11) rfl))) (mvT hZ (hw _ (List.mem_of_getElem? (i := 8) rfl))) (mvT hZ (hw _ (List.mem_of_getElem? (i := 12) rfl))) (by decide) (backOf (W := 2) (rm3 l Z a0 hw [] q h0 n0 O ) hZ (hw _ (List.mem_of_getElem? (i := 12) rfl)) (hw _ (List.mem_of_getElem? (i := 8) rfl)) (by decide) (by decide)) (g := (mkF m 11 #[.val (.long q), .second] [(.long (1000000000 : Int64)), (.long q), (.long r_1)])) rfl (by rw [hml]; rfl) (argsL := [(.long q), (.long (1000000000 : Int64))]) (rest := [(.long r_1)]) (lenOf pd__40JJ_41J rfl) rfl (by show 2 * 0 + _ ≤ _; exact Nat.le_of_eq rfl) (hb hby d1_11) (fun _ _ => ⟨rfl, eh1, (by decide : 0 + 0 ≤ _), (by decide : 0 + 0 ≤ _)⟩)
  dsimp only [Pt.U, Pt.locs, Pt.cells, Pt.slots] at X2 l2 y2 z2 st2 hQ2
  subst l2 y2 z2
  obtain ⟨r_2, rfl, N2q, eh2, hr_2⟩ := hQ2
  have N2 := Fr.app N1 N2q
  obtain ⟨_, _, ⟨T3, L3, k3, n3⟩, -, X3, ⟨Lc3, hQ3, l3, y3, z3⟩, st3⟩ := Jvm.LawKit.callS X2 hx (y := (⟨"java/time/Instant", "ofEpochSecond", "(JJ)Ljava/time/Instant;"⟩ : MethodName)) hown (mvT hZ (hw _ (List.mem_of_getElem? (i := 13) rfl))) (mvT hZ (hw _ (List.mem_of_getElem? (i := 14) rfl))) (mvT hZ (hw _ (List.mem_of_getElem? (i := 15) rfl))) (mvT hZ (hw _ (List.mem_of_getElem? (i := 16) rfl))) (by decide) (backOf (W := 0) (rm4 l Z a0 hw [] r_1 r_2 s_EPOCH h0 n0 O S_s_EPOCH (by rw [hr_2]; omega) (by have := rng64 q; rw [hr_1]; omega) E_EP F_EPs F_EPn) hZ (hw _ (List.mem_of_getElem? (i := 16) rfl)) (hw _ (List.mem_of_getElem? (i := 15) rfl)) (by decide) (by decide)) (g := (mkF m 14 #[.val (.long q), .second] [(.long r_2), (.long r_1)])) rfl (by rw [hml]; rfl) (argsL := [(.long r_1), (.long r_2)]) (rest := []) (lenOf pd__40JJ_41Ljava_47time_47Instant_59 rfl) rfl (by show 2 * 0 + _ ≤ _; exact Nat.le_of_eq rfl) (hb hby d1_14) (fun _ _ => ⟨rfl, eh2, (by decide : 0 + 1 ≤ _), (by decide : 0 + 2 ≤ _)⟩)
  dsimp only [Pt.U, Pt.locs, Pt.cells, Pt.slots] at X3 l3 y3 z3 st3 hQ3
  subst l3 y3 z3
  obtain ⟨z_3, u_3, i_3, rfl, N3q, K3, E_z_c3, F_s_z_c3, F_n_z_c3, hu_3, hi_3⟩ := hQ3
  have N3 := Fr.app N2 N3q
  have O := O.keep K3 all0
  have K := K.trans K3 all0
  have w4 : ∀ t, Steps p.tables e below (T3.setTop (mkF m 17 #[.val (.long q), .second] [(.ref z_3)])) t → Steps p.tables e below (s₁.setTop (entryFrame m #[(.long q)] 2)) t := fun t k => by
    refine pre0 t ?_
    refine XS.lloadN X0.here hx rfl (hb hby d1_0) rfl ?_
    show Steps p.tables e below (s₁.setTop (mkF m 1 #[.val (.long q), .second] [(.long q)])) _
    refine X0.ldc2Long hx hown (mvT hZ (hw _ (List.mem_of_getElem? (i := 5) rfl))) (g := (mkF m 1 #[.val (.long q), .second] [(.long q)])) rfl (hb hby d1_1) _ ?_
    show Steps p.tables e below (s₁.setTop (mkF m 4 #[.val (.long q), .second] [(.long (1000000000 : Int64)), (.long q)])) _
    refine st1 _ ?_
    show Steps p.tables e below (T1.setTop (mkF m 7 #[.val (.long q), .second] [(.long r_1)])) _
    refine XS.lloadN X1.here hx rfl (hb hby d1_7) rfl ?_
    show Steps p.tables e below (T1.setTop (mkF m 8 #[.val (.long q), .second] [(.long q), (.long r_1)])) _
    refine X1.ldc2Long hx hown (mvT hZ (hw _ (List.mem_of_getElem? (i := 5) rfl))) (g := (mkF m 8 #[.val (.long q), .second] [(.long q), (.long r_1)])) rfl (hb hby d1_8) _ ?_
    show Steps p.tables e below (T1.setTop (mkF m 11 #[.val (.long q), .second] [(.long (1000000000 : Int64)), (.long q), (.long r_1)])) _
    refine st2 _ ?_
    show Steps p.tables e below (T2.setTop (mkF m 14 #[.val (.long q), .second] [(.long r_2), (.long r_1)])) _
    refine st3 _ ?_
    show Steps p.tables e below (T3.setTop (mkF m 17 #[.val (.long q), .second] [(.ref z_3)])) _
    exact k
  obtain ⟨fs, hr, hrun, hended, hW, hsame⟩ := X3.leave (v := some (.ref z_3)) (fun h => by rw [Bd.returns] at h; cases h)
  refine ⟨_, _, w4 _ ?_, hrun, hended, _, _, rfl, ?_, ⟨_, rfl⟩, hW, hsame.mono (by decide) (by decide)⟩
  · jvm_step X3.here [X3.here.top, hx, (hb hby d1_17), X3.method', Bd.returns, Value.isRef, FieldType.isReference]
    first | (intro acts; rw [hr _ acts rfl rfl rfl]) | rw [hr _ _ rfl rfl rfl]
    exact Steps.refl _
  · show Q1 Z q s_EPOCH h0 n0 _ T3.heap _
    exact ⟨z_3, u_3, i_3, rfl, N3, K, E_z_c3, F_s_z_c3, F_n_z_c3, (hu_3.trans hr_1), (hi_3.trans hr_2)⟩
theorem d10_0 : decode jdk_2320_method_15_code 0 = .ok (.aload_n 0, 1) := by decide +kernel
theorem d10_1 : decode jdk_2320_method_15_code 1 = .ok (.getfield 140, 3) := by decide +kernel
theorem d10_4 : decode jdk_2320_method_15_code 4 = .ok (.lreturn, 1) := by decide +kernel
theorem ef_10 (m : MethodId) (x0 : Addr) : entryFrame m #[(.ref x0)] 1 = mkF m 0 #[.val (.ref x0)] [] := by first | (simp [entryFrame, mkF, argsToLocals, Value.category]; done) | rfl
def Q10 (Z : State) (a : Addr) (q : Int64) (h0 : Heap) (n0 : Nat) (v : Option Value) (h : Heap) (L : List Loc) : Prop := v = some (.long q) ∧ Fr n0 L ∧ h = h0
set_option maxRecDepth 65536 in
set_option maxHeartbeats 40000000 in
theorem rm10 (l : Launch) (Z : State) (a0 : Array Value) (hw : ∀ d ∈ tables_1, d.before a0 Z = true) (ws : List Jvm.Cond) (a : Addr) (q : Int64) (h0 : Heap) (n0 : Nat) (O0 : Old Z n0 h0) (F_s_a : Fld Z h0 a "java/time/Instant" "seconds" "J" (.long q)) :
    MetFree l (⟨"java/time/Instant", "getEpochSecond", "()J"⟩ : MethodName) (head1 (Jvm.Cond.code (⟨"java/time/Instant", "getEpochSecond", "()J"⟩ : MethodName) jdk_2320_method_15_code 1 (some .long) :: ws) ({ frames := 0, cells := 0, slots := 0, locals := 0 } : Room)) (fun aA uU => aA = #[(.ref a)] ∧ Z.Warmed39 uU.vm ∧ uU.heap = h0) (fun _ _ _ _ _ => True) (fun _ uU oO uU' => ∃ vV lL, oO = .returned vV ∧ Q10 Z a q  h0 n0 vV uU'.heap lL ∧ FrameEnd uU oO uU' lL ({ frames := 0, cells := 0, slots := 0, locals := 0 } : Room).cells ({ frames := 0, cells := 0, slots := 0, locals := 0 } : Room).slots) := by
  refine MetFree.of_bodySF (plainFor_of_name pn_java_time_Instant) hisR ?_
  intro p e s m args below meth c s₁ Bd hml0 hP hK
  obtain ⟨rfl, hZ, hh⟩ := hP
  have hx := Bd.exec
  have hby := Bd.bytes
  have hml : c.maxLocals = 1 := hml0
  have hown : s.vm.findClass "java/time/Instant" = some m.cls := findClass_of_methodNamed Bd.named
  have hnm := (name_of_methodNamed Bd.named Bd.method).1
  have X0 : Stand p l e ({ frames := 0, cells := 0, slots := 0, locals := 0 } : Room) s m #[(.ref a)] below meth c s₁ [] 0 0 := Stand.of_body Bd
  have e0 : s₁.heap = h0 := by rw [← hh, Bd.state]; rfl
  have N0 := Fr.nil n0
  have O := O0
  have pre0 : ∀ t, Steps p.tables e below (s₁.setTop (mkF m 0 #[.val (.ref a)] [])) t → Steps p.tables e below (s₁.setTop (entryFrame m #[(.ref a)] 1)) t := fun t k => castTop (ef_10 m a) k
  obtain ⟨T1, X1, e1, st1⟩ := getF X0 hx hZ hown (host := "") (Or.inl (hw _ (List.mem_of_getElem? (i := 37) rfl))) Via.refl e0 F_s_a (g := (mkF m 1 #[.val (.ref a)] [(.ref a)])) rfl rfl (hb hby d10_1)
  have w2 : ∀ t, Steps p.tables e below (T1.setTop (mkF m 4 #[.val (.ref a)] [(.long q)])) t → Steps p.tables e below (s₁.setTop (entryFrame m #[(.ref a)] 1)) t := fun t k => by
    refine pre0 t ?_
    refine XS.aloadN X0.here hx rfl (hb hby d10_0) rfl rfl ?_
    show Steps p.tables e below (s₁.setTop (mkF m 1 #[.val (.ref a)] [(.ref a)])) _
    refine st1 _ ?_
    show Steps p.tables e below (T1.setTop (mkF m 4 #[.val (.ref a)] [(.long q)])) _
    exact k
  obtain ⟨fs, hr, hrun, hended, hW, hsame⟩ := X1.leave (v := some (.long q)) (fun h => by rw [Bd.returns] at h; cases h)
  refine ⟨_, _, w2 _ ?_, hrun, hended, _, _, rfl, ?_, ⟨_, rfl⟩, hW, hsame.mono (by decide) (by decide)⟩
  · exact X1.lreturnOut hx Bd.returns (hb hby d10_4) hr
  · show Q10 Z a q  h0 n0 _ T1.heap _
    rw [e1]
    exact ⟨rfl, N0, rfl⟩
theorem d13_0 : decode jdk_2320_method_16_code 0 = .ok (.aload_n 0, 1) := by decide +kernel
theorem d13_1 : decode jdk_2320_method_16_code 1 = .ok (.getfield 144, 3) := by decide +kernel
theorem d13_4 : decode jdk_2320_method_16_code 4 = .ok (.ireturn, 1) := by decide +kernel
theorem ef_13 (m : MethodId) (x0 : Addr) : entryFrame m #[(.ref x0)] 1 = mkF m 0 #[.val (.ref x0)] [] := by first | (simp [entryFrame, mkF, argsToLocals, Value.category]; done) | rfl
def Q13 (Z : State) (a : Addr) (i : Int32) (h0 : Heap) (n0 : Nat) (v : Option Value) (h : Heap) (L : List Loc) : Prop := v = some (.int i) ∧ Fr n0 L ∧ h = h0
set_option maxRecDepth 65536 in
set_option maxHeartbeats 40000000 in
theorem rm13 (l : Launch) (Z : State) (a0 : Array Value) (hw : ∀ d ∈ tables_1, d.before a0 Z = true) (ws : List Jvm.Cond) (a : Addr) (i : Int32) (h0 : Heap) (n0 : Nat) (O0 : Old Z n0 h0) (F_n_a : Fld Z h0 a "java/time/Instant" "nanos" "I" (.int i)) :
    MetFree l (⟨"java/time/Instant", "getNano", "()I"⟩ : MethodName) (head1 (Jvm.Cond.code (⟨"java/time/Instant", "getNano", "()I"⟩ : MethodName) jdk_2320_method_16_code 1 (some .int) :: ws) ({ frames := 0, cells := 0, slots := 0, locals := 0 } : Room)) (fun aA uU => aA = #[(.ref a)] ∧ Z.Warmed39 uU.vm ∧ uU.heap = h0) (fun _ _ _ _ _ => True) (fun _ uU oO uU' => ∃ vV lL, oO = .returned vV ∧ Q13 Z a i  h0 n0 vV uU'.heap lL ∧ FrameEnd uU oO uU' lL ({ frames := 0, cells := 0, slots := 0, locals := 0 } : Room).cells ({ frames := 0, cells := 0, slots := 0, locals := 0 } : Room).slots) := by
  refine MetFree.of_bodySF (plainFor_of_name pn_java_time_Instant) hisR ?_
  intro p e s m args below meth c s₁ Bd hml0 hP hK
  obtain ⟨rfl, hZ, hh⟩ := hP
  have hx := Bd.exec
  have hby := Bd.bytes
  have hml : c.maxLocals = 1 := hml0
  have hown : s.vm.findClass "java/time/Instant" = some m.cls := findClass_of_methodNamed Bd.named
  have hnm := (name_of_methodNamed Bd.named Bd.method).1
  have X0 : Stand p l e ({ frames := 0, cells := 0, slots := 0, locals := 0 } : Room) s m #[(.ref a)] below meth c s₁ [] 0 0 := Stand.of_body Bd
  have e0 : s₁.heap = h0 := by rw [← hh, Bd.state]; rfl
  have N0 := Fr.nil n0
  have O := O0
  have pre0 : ∀ t, Steps p.tables e below (s₁.setTop (mkF m 0 #[.val (.ref a)] [])) t → Steps p.tables e below (s₁.setTop (entryFrame m #[(.ref a)] 1)) t := fun t k => castTop (ef_13 m a) k
  obtain ⟨T1, X1, e1, st1⟩ := getF X0 hx hZ hown (host := "") (Or.inl (hw _ (List.mem_of_getElem? (i := 39) rfl))) Via.refl e0 F_n_a (g := (mkF m 1 #[.val (.ref a)] [(.ref a)])) rfl rfl (hb hby d13_1)
  have w2 : ∀ t, Steps p.tables e below (T1.setTop (mkF m 4 #[.val (.ref a)] [(.int i)])) t → Steps p.tables e below (s₁.setTop (entryFrame m #[(.ref a)] 1)) t := fun t k => by
    refine pre0 t ?_
    refine XS.aloadN X0.here hx rfl (hb hby d13_0) rfl rfl ?_
    show Steps p.tables e below (s₁.setTop (mkF m 1 #[.val (.ref a)] [(.ref a)])) _
    refine st1 _ ?_
    show Steps p.tables e below (T1.setTop (mkF m 4 #[.val (.ref a)] [(.int i)])) _
    exact k
  obtain ⟨fs, hr, hrun, hended, hW, hsame⟩ := X1.leave (v := some (.int i)) (fun h => by rw [Bd.returns] at h; cases h)
  refine ⟨_, _, w2 _ ?_, hrun, hended, _, _, rfl, ?_, ⟨_, rfl⟩, hW, hsame.mono (by decide) (by decide)⟩
  · exact retI X1 hx Bd.returns (hb hby d13_4) hr
  · show Q13 Z a i  h0 n0 _ T1.heap _
    rw [e1]
    exact ⟨rfl, N0, rfl⟩
theorem d12_0 : decode jdk_29_method_61_code 0 = .ok (.lload_n 0, 1) := by decide +kernel
theorem d12_1 : decode jdk_29_method_61_code 1 = .ok (.lconst 0, 1) := by decide +kernel
theorem d12_2 : decode jdk_29_method_61_code 2 = .ok (.lcmp, 1) := by decide +kernel
theorem d12_3 : decode jdk_29_method_61_code 3 = .ok (.ifCond .ge 8, 3) := by decide +kernel
theorem d12_6 : decode jdk_29_method_61_code 6 = .ok (.lload_n 0, 1) := by decide +kernel
theorem d12_7 : decode jdk_29_method_61_code 7 = .ok (.lneg, 1) := by decide +kernel
theorem d12_8 : decode jdk_29_method_61_code 8 = .ok (.goto 4, 3) := by decide +kernel
theorem d12_12 : decode jdk_29_method_61_code 12 = .ok (.lreturn, 1) := by decide +kernel
theorem d12_11 : decode jdk_29_method_61_code 11 = .ok (.lload_n 0, 1) := by decide +kernel
theorem ef_12 (m : MethodId) (x0 : Int64) : entryFrame m #[(.long x0)] 2 = mkF m 0 #[.val (.long x0), .second] [] := by first | (simp [entryFrame, mkF, argsToLocals, Value.category]; done) | rfl
def Q12 (Z : State) (q : Int64) (h0 : Heap) (n0 : Nat) (v : Option Value) (h : Heap) (L : List Loc) : Prop := v = some (.long (own_abs q)) ∧ Fr n0 L ∧ h = h0
set_option maxRecDepth 65536 in
set_option maxHeartbeats 40000000 in
theorem rm12 (l : Launch) (Z : State) (a0 : Array Value) (hw : ∀ d ∈ tables_1, d.before a0 Z = true) (ws : List Jvm.Cond) (q : Int64) (h0 : Heap) (n0 : Nat) (O0 : Old Z n0 h0) :
    MetFree l (⟨"java/lang/Math", "abs", "(J)J"⟩ : MethodName) (head1 (Jvm.Cond.code (⟨"java/lang/Math", "abs", "(J)J"⟩ : MethodName) jdk_29_method_61_code 2 (some .long) :: ws) ({ frames := 0, cells := 0, slots := 0, locals := 0 } : Room)) (fun aA uU => aA = #[(.long q)] ∧ Z.Warmed39 uU.vm ∧ uU.heap = h0) (fun _ _ _ _ _ => True) (fun _ uU oO uU' => ∃ vV lL, oO = .returned vV ∧ Q12 Z q  h0 n0 vV uU'.heap lL ∧ FrameEnd uU oO uU' lL ({ frames := 0, cells := 0, slots := 0, locals := 0 } : Room).cells ({ frames := 0, cells := 0, slots := 0, locals := 0 } : Room).slots) := by
  refine MetFree.of_bodySF (Jvm.Free.JP.mathPlain rfl (by decide +kernel)) hisR ?_
  intro p e s m args below meth c s₁ Bd hml0 hP hK
  obtain ⟨rfl, hZ, hh⟩ := hP
  have hx := Bd.exec
  have hby := Bd.bytes
  have hml : c.maxLocals = 2 := hml0
  have hown : s.vm.findClass "java/lang/Math" = some m.cls := findClass_of_methodNamed Bd.named
  have hnm := (name_of_methodNamed Bd.named Bd.method).1
  have X0 : Stand p l e ({ frames := 0, cells := 0, slots := 0, locals := 0 } : Room) s m #[(.long q)] below meth c s₁ [] 0 0 := Stand.of_body Bd
  have e0 : s₁.heap = h0 := by rw [← hh, Bd.state]; rfl
  have N0 := Fr.nil n0
  have O := O0
  have pre0 : ∀ t, Steps p.tables e below (s₁.setTop (mkF m 0 #[.val (.long q), .second] [])) t → Steps p.tables e below (s₁.setTop (entryFrame m #[(.long q)] 2)) t := fun t k => castTop (ef_12 m q) k
  have w1 : ∀ t, Steps p.tables e below (s₁.setTop (mkF m 3 #[.val (.long q), .second] [(.int (lcmpW q (0 : Int64)))])) t → Steps p.tables e below (s₁.setTop (entryFrame m #[(.long q)] 2)) t := fun t k => by
    refine pre0 t ?_
    refine XS.lloadN X0.here hx rfl (hb hby d12_0) rfl ?_
    show Steps p.tables e below (s₁.setTop (mkF m 1 #[.val (.long q), .second] [(.long q)])) _
    refine XS.lconst X0.here hx rfl (hb hby d12_1) ?_
    show Steps p.tables e below (s₁.setTop (mkF m 2 #[.val (.long q), .second] [(.long (0 : Int64)), (.long q)])) _
    refine XS.lcmp X0.here hx rfl (hb hby d12_2) rfl ?_
    show Steps p.tables e below (s₁.setTop (mkF m 3 #[.val (.long q), .second] [(.int (lcmpW q (0 : Int64)))])) _
    exact k
  by_cases hc3_2 : (lcmpW q (0 : Int64)) < (0 : Int32)
  · have w3 : ∀ t, Steps p.tables e below (s₁.setTop (mkF m 12 #[.val (.long q), .second] [(.long (-q))])) t → Steps p.tables e below (s₁.setTop (entryFrame m #[(.long q)] 2)) t := fun t k => by
      refine w1 t ?_
      refine XS.ifNo X0.here hx rfl (hb hby d12_3) rfl ((if0 _ _).trans (tlt hc3_2).2.1) ?_
      show Steps p.tables e below (s₁.setTop (mkF m 6 #[.val (.long q), .second] [])) _
      refine XS.lloadN X0.here hx rfl (hb hby d12_6) rfl ?_
      show Steps p.tables e below (s₁.setTop (mkF m 7 #[.val (.long q), .second] [(.long q)])) _
      refine XS.lneg X0.here hx rfl (hb hby d12_7) rfl ?_
      show Steps p.tables e below (s₁.setTop (mkF m 8 #[.val (.long q), .second] [(.long (-q))])) _
      refine XS.goto X0.here hx rfl (pc0 := 8) (pc' := 12) rfl (hb hby d12_8) (by decide) (by decide) ?_
      show Steps p.tables e below (s₁.setTop (mkF m 12 #[.val (.long q), .second] [(.long (-q))])) _
      exact k
    obtain ⟨fs, hr, hrun, hended, hW, hsame⟩ := X0.leave (v := some (.long (-q))) (fun h => by rw [Bd.returns] at h; cases h)
    refine ⟨_, _, w3 _ ?_, hrun, hended, _, _, rfl, ?_, ⟨_, rfl⟩, hW, hsame.mono (by decide) (by decide)⟩
    · exact X0.lreturnOut hx Bd.returns (hb hby d12_12) hr
    · show Q12 Z q  h0 n0 _ s₁.heap _
      rw [e0]
      exact ⟨(by simp [own_abs, hc3_2]), N0, rfl⟩
  · have w4 : ∀ t, Steps p.tables e below (s₁.setTop (mkF m 12 #[.val (.long q), .second] [(.long q)])) t → Steps p.tables e below (s₁.setTop (entryFrame m #[(.long q)] 2)) t := fun t k => by
      refine w1 t ?_
      refine XS.ifYes X0.here hx rfl (pc0 := 3) (pc' := 11) rfl (hb hby d12_3) rfl ((if0 _ _).trans (flt hc3_2).2.1) (by decide) (by decide) ?_
      show Steps p.tables e below (s₁.setTop (mkF m 11 #[.val (.long q), .second] [])) _
      refine XS.lloadN X0.here hx rfl (hb hby d12_11) rfl ?_
      show Steps p.tables e below (s₁.setTop (mkF m 12 #[.val (.long q), .second] [(.long q)])) _
      exact k
    obtain ⟨fs, hr, hrun, hended, hW, hsame⟩ := X0.leave (v := some (.long q)) (fun h => by rw [Bd.returns] at h; cases h)
    refine ⟨_, _, w4 _ ?_, hrun, hended, _, _, rfl, ?_, ⟨_, rfl⟩, hW, hsame.mono (by decide) (by decide)⟩
    · exact X0.lreturnOut hx Bd.returns (hb hby d12_12) hr
    · show Q12 Z q  h0 n0 _ s₁.heap _
      rw [e0]
      exact ⟨(by simp [own_abs, hc3_2]), N0, rfl⟩
theorem d11_0 : decode jdk_29_method_30_code 0 = .ok (.lload_n 0, 1) := by decide +kernel
def own_F3 (x0 : Int64) (x2 : Int64) : Array Slot := #[.val (.long x0), .second, .val (.long x2), .second, .unset, .unset, .unset, .unset, .unset, .unset]
theorem d11_1 : decode jdk_29_method_30_code 1 = .ok (.lload_n 2, 1) := by decide +kernel
theorem d11_2 : decode jdk_29_method_30_code 2 = .ok (.lmul, 1) := by decide +kernel
theorem d11_3 : decode jdk_29_method_30_code 3 = .ok (.lstore 4, 2) := by decide +kernel
def own_F4 (x0 : Int64) (x2 : Int64) (x4 : Int64) : Array Slot := #[.val (.long x0), .second, .val (.long x2), .second, .val (.long x4), .second, .unset, .unset, .unset, .unset]
theorem d11_5 : decode jdk_29_method_30_code 5 = .ok (.lload_n 0, 1) := by decide +kernel
theorem d11_6 : decode jdk_29_method_30_code 6 = .ok (.invokestatic 122, 3) := by decide +kernel
theorem pd__40J_41J : parseMethodDescriptor "(J)J" = some ⟨[.long], some .long⟩ := by decide +kernel
theorem d11_9 : decode jdk_29_method_30_code 9 = .ok (.lstore 6, 2) := by decide +kernel
def own_F5 (x0 : Int64) (x2 : Int64) (x4 : Int64) (x6 : Int64) : Array Slot := #[.val (.long x0), .second, .val (.long x2), .second, .val (.long x4), .second, .val (.long x6), .second, .unset, .unset]
theorem d11_11 : decode jdk_29_method_30_code 11 = .ok (.lload_n 2, 1) := by decide +kernel
theorem d11_12 : decode jdk_29_method_30_code 12 = .ok (.invokestatic 122, 3) := by decide +kernel
theorem d11_15 : decode jdk_29_method_30_code 15 = .ok (.lstore 8, 2) := by decide +kernel
def own_F6 (x0 : Int64) (x2 : Int64) (x4 : Int64) (x6 : Int64) (x8 : Int64) : Array Slot := #[.val (.long x0), .second, .val (.long x2), .second, .val (.long x4), .second, .val (.long x6), .second, .val (.long x8), .second]
theorem d11_17 : decode jdk_29_method_30_code 17 = .ok (.lload 6, 2) := by decide +kernel
theorem d11_19 : decode jdk_29_method_30_code 19 = .ok (.lload 8, 2) := by decide +kernel
theorem d11_21 : decode jdk_29_method_30_code 21 = .ok (.lor, 1) := by decide +kernel
theorem d11_22 : decode jdk_29_method_30_code 22 = .ok (.bipush 31, 2) := by decide +kernel
theorem d11_24 : decode jdk_29_method_30_code 24 = .ok (.lushr, 1) := by decide +kernel
theorem d11_25 : decode jdk_29_method_30_code 25 = .ok (.lconst 0, 1) := by decide +kernel
theorem d11_26 : decode jdk_29_method_30_code 26 = .ok (.lcmp, 1) := by decide +kernel
theorem d11_27 : decode jdk_29_method_30_code 27 = .ok (.ifCond .eq 44, 3) := by decide +kernel
theorem d11_71 : decode jdk_29_method_30_code 71 = .ok (.lload 4, 2) := by decide +kernel
theorem d11_73 : decode jdk_29_method_30_code 73 = .ok (.lreturn, 1) := by decide +kernel
theorem d11_30 : decode jdk_29_method_30_code 30 = .ok (.lload_n 2, 1) := by decide +kernel
theorem d11_31 : decode jdk_29_method_30_code 31 = .ok (.lconst 0, 1) := by decide +kernel
theorem d11_32 : decode jdk_29_method_30_code 32 = .ok (.lcmp, 1) := by decide +kernel
theorem d11_33 : decode jdk_29_method_30_code 33 = .ok (.ifCond .eq 12, 3) := by decide +kernel
theorem d11_36 : decode jdk_29_method_30_code 36 = .ok (.lload 4, 2) := by decide +kernel
theorem d11_38 : decode jdk_29_method_30_code 38 = .ok (.lload_n 2, 1) := by decide +kernel
theorem d11_39 : decode jdk_29_method_30_code 39 = .ok (.ldiv, 1) := by decide +kernel
theorem d11_40 : decode jdk_29_method_30_code 40 = .ok (.lload_n 0, 1) := by decide +kernel
theorem d11_41 : decode jdk_29_method_30_code 41 = .ok (.lcmp, 1) := by decide +kernel
theorem d11_42 : decode jdk_29_method_30_code 42 = .ok (.ifCond .ne 19, 3) := by decide +kernel
theorem d11_45 : decode jdk_29_method_30_code 45 = .ok (.lload_n 0, 1) := by decide +kernel
theorem d11_46 : decode jdk_29_method_30_code 46 = .ok (.ldc2_w 128, 3) := by decide +kernel
theorem d11_49 : decode jdk_29_method_30_code 49 = .ok (.lcmp, 1) := by decide +kernel
theorem d11_50 : decode jdk_29_method_30_code 50 = .ok (.ifCond .ne 21, 3) := by decide +kernel
theorem ef_11 (m : MethodId) (x0 : Int64) : entryFrame m #[(.long x0), (.long (1000000000 : Int64))] 10 = mkF m 0 #[.val (.long x0), .second, .val (.long (1000000000 : Int64)), .second, .unset, .unset, .unset, .unset, .unset, .unset] [] := by first | (simp [entryFrame, mkF, argsToLocals, Value.category]; done) | rfl
def Q11 (Z : State) (q : Int64) (h0 : Heap) (n0 : Nat) (v : Option Value) (h : Heap) (L : List Loc) : Prop := v = some (.long (q * (1000000000 : Int64))) ∧ Fr n0 L ∧ h = h0
set_option maxRecDepth 65536 in
set_option maxHeartbeats 40000000 in
theorem rm11 (l : Launch) (Z : State) (a0 : Array Value) (hw : ∀ d ∈ tables_1, d.before a0 Z = true) (ws : List Jvm.Cond) (q : Int64) (h0 : Heap) (n0 : Nat) (O0 : Old Z n0 h0) (ho : -9223372036854775808 ≤ q.toInt * 1000000000 ∧ q.toInt * 1000000000 < 9223372036854775808) :
    MetFree l (⟨"java/lang/Math", "multiplyExact", "(JJ)J"⟩ : MethodName) (head1 (Jvm.Cond.code (⟨"java/lang/Math", "multiplyExact", "(JJ)J"⟩ : MethodName) jdk_29_method_30_code 10 (some .long) :: ws) ({ frames := 1, cells := 0, slots := 0, locals := 13 } : Room)) (fun aA uU => aA = #[(.long q), (.long (1000000000 : Int64))] ∧ Z.Warmed39 uU.vm ∧ uU.heap = h0) (fun _ _ _ _ _ => True) (fun _ uU oO uU' => ∃ vV lL, oO = .returned vV ∧ Q11 Z q  h0 n0 vV uU'.heap lL ∧ FrameEnd uU oO uU' lL ({ frames := 1, cells := 0, slots := 0, locals := 13 } : Room).cells ({ frames := 1, cells := 0, slots := 0, locals := 13 } : Room).slots) := by
  refine MetFree.of_bodySF (Jvm.Free.JP.mathPlain rfl (by decide +kernel)) hisR ?_
  intro p e s m args below meth c s₁ Bd hml0 hP hK
  obtain ⟨rfl, hZ, hh⟩ := hP
  have hx := Bd.exec
  have hby := Bd.bytes
  have hml : c.maxLocals = 10 := hml0
  have hown : s.vm.findClass "java/lang/Math" = some m.cls := findClass_of_methodNamed Bd.named
  have hnm := (name_of_methodNamed Bd.named Bd.method).1
  have X0 : Stand p l e ({ frames := 1, cells := 0, slots := 0, locals := 13 } : Room) s m #[(.long q), (.long (1000000000 : Int64))] below meth c s₁ [] 0 0 := Stand.of_body Bd
  have e0 : s₁.heap = h0 := by rw [← hh, Bd.state]; rfl
  have N0 := Fr.nil n0
  have O := O0
  have pre0 : ∀ t, Steps p.tables e below (s₁.setTop (mkF m 0 #[.val (.long q), .second, .val (.long (1000000000 : Int64)), .second, .unset, .unset, .unset, .unset, .unset, .unset] [])) t → Steps p.tables e below (s₁.setTop (entryFrame m #[(.long q), (.long (1000000000 : Int64))] 10)) t := fun t k => castTop (ef_11 m q) k
  obtain ⟨_, _, ⟨T1, L1, k1, n1⟩, -, X1, ⟨Lc1, hQ1, l1, y1, z1⟩, st1⟩ := Jvm.LawKit.callS X0 hx (y := (⟨"java/lang/Math", "abs", "(J)J"⟩ : MethodName)) hown (mvT hZ (hw _ (List.mem_of_getElem? (i := 52) rfl))) (mvT hZ (hw _ (List.mem_of_getElem? (i := 53) rfl))) (mvT hZ (hw _ (List.mem_of_getElem? (i := 8) rfl))) (mvT hZ (hw _ (List.mem_of_getElem? (i := 54) rfl))) (by decide) (backOf (W := 0) (rm12 l Z a0 hw [] q h0 n0 O ) hZ (hw _ (List.mem_of_getElem? (i := 54) rfl)) (hw _ (List.mem_of_getElem? (i := 8) rfl)) (by decide) (by decide)) (g := (mkF m 6 (own_F4 q (1000000000 : Int64) (q * (1000000000 : Int64))) [(.long q)])) rfl (by rw [hml]; rfl) (argsL := [(.long q)]) (rest := []) (lenOf pd__40J_41J rfl) rfl (by show 2 * 0 + _ ≤ _; exact Nat.le_of_eq rfl) (hb hby d11_6) (fun _ _ => ⟨rfl, e0, (by decide : 0 + 0 ≤ _), (by decide : 0 + 0 ≤ _)⟩)
  dsimp only [Pt.U, Pt.locs, Pt.cells, Pt.slots] at X1 l1 y1 z1 st1 hQ1
  subst l1 y1 z1
  obtain ⟨rfl, N1q, eh1⟩ := hQ1
  have N1 := Fr.app N0 N1q
  obtain ⟨_, _, ⟨T2, L2, k2, n2⟩, -, X2, ⟨Lc2, hQ2, l2, y2, z2⟩, st2⟩ := Jvm.LawKit.callS X1 hx (y := (⟨"java/lang/Math", "abs", "(J)J"⟩ : MethodName)) hown (mvT hZ (hw _ (List.mem_of_getElem? (i := 52) rfl))) (mvT hZ (hw _ (List.mem_of_getElem? (i := 53) rfl))) (mvT hZ (hw _ (List.mem_of_getElem? (i := 8) rfl))) (mvT hZ (hw _ (List.mem_of_getElem? (i := 54) rfl))) (by decide) (backOf (W := 0) (rm12 l Z a0 hw [] (1000000000 : Int64) h0 n0 O ) hZ (hw _ (List.mem_of_getElem? (i := 54) rfl)) (hw _ (List.mem_of_getElem? (i := 8) rfl)) (by decide) (by decide)) (g := (mkF m 12 (own_F5 q (1000000000 : Int64) (q * (1000000000 : Int64)) (own_abs q)) [(.long (1000000000 : Int64))])) rfl (by rw [hml]; rfl) (argsL := [(.long (1000000000 : Int64))]) (rest := []) (lenOf pd__40J_41J rfl) rfl (by show 2 * 0 + _ ≤ _; exact Nat.le_of_eq rfl) (hb hby d11_12) (fun _ _ => ⟨rfl, eh1, (by decide : 0 + 0 ≤ _), (by decide : 0 + 0 ≤ _)⟩)
  dsimp only [Pt.U, Pt.locs, Pt.cells, Pt.slots] at X2 l2 y2 z2 st2 hQ2
  subst l2 y2 z2
  obtain ⟨rfl, N2q, eh2⟩ := hQ2
  have N2 := Fr.app N1 N2q
  have w3 : ∀ t, Steps p.tables e below (T2.setTop (mkF m 27 (own_F6 q (1000000000 : Int64) (q * (1000000000 : Int64)) (own_abs q) (own_abs (1000000000 : Int64))) [(.int (lcmpW ((((own_abs q) ||| (own_abs (1000000000 : Int64))).toUInt64 >>> ((31 : Int32) &&& 0x3f).toInt64.toUInt64).toInt64) (0 : Int64)))])) t → Steps p.tables e below (s₁.setTop (entryFrame m #[(.long q), (.long (1000000000 : Int64))] 10)) t := fun t k => by
    refine pre0 t ?_
    refine XS.lloadN X0.here hx rfl (hb hby d11_0) rfl ?_
    show Steps p.tables e below (s₁.setTop (mkF m 1 (own_F3 q (1000000000 : Int64)) [(.long q)])) _
    refine XS.lloadN X0.here hx rfl (hb hby d11_1) rfl ?_
    show Steps p.tables e below (s₁.setTop (mkF m 2 (own_F3 q (1000000000 : Int64)) [(.long (1000000000 : Int64)), (.long q)])) _
    refine XS.lmul X0.here hx rfl (hb hby d11_2) rfl ?_
    show Steps p.tables e below (s₁.setTop (mkF m 3 (own_F3 q (1000000000 : Int64)) [(.long (q * (1000000000 : Int64)))])) _
    refine XS.lstore X0.here hx rfl (hb hby d11_3) rfl (l' := (own_F4 q (1000000000 : Int64) (q * (1000000000 : Int64)))) rfl ?_
    show Steps p.tables e below (s₁.setTop (mkF m 5 (own_F4 q (1000000000 : Int64) (q * (1000000000 : Int64))) [])) _
    refine XS.lloadN X0.here hx rfl (hb hby d11_5) rfl ?_
    show Steps p.tables e below (s₁.setTop (mkF m 6 (own_F4 q (1000000000 : Int64) (q * (1000000000 : Int64))) [(.long q)])) _
    refine st1 _ ?_
    show Steps p.tables e below (T1.setTop (mkF m 9 (own_F4 q (1000000000 : Int64) (q * (1000000000 : Int64))) [(.long (own_abs q))])) _
    refine XS.lstore X1.here hx rfl (hb hby d11_9) rfl (l' := (own_F5 q (1000000000 : Int64) (q * (1000000000 : Int64)) (own_abs q))) rfl ?_
    show Steps p.tables e below (T1.setTop (mkF m 11 (own_F5 q (1000000000 : Int64) (q * (1000000000 : Int64)) (own_abs q)) [])) _
    refine XS.lloadN X1.here hx rfl (hb hby d11_11) rfl ?_
    show Steps p.tables e below (T1.setTop (mkF m 12 (own_F5 q (1000000000 : Int64) (q * (1000000000 : Int64)) (own_abs q)) [(.long (1000000000 : Int64))])) _
    refine st2 _ ?_
    show Steps p.tables e below (T2.setTop (mkF m 15 (own_F5 q (1000000000 : Int64) (q * (1000000000 : Int64)) (own_abs q)) [(.long (own_abs (1000000000 : Int64)))])) _
    refine XS.lstore X2.here hx rfl (hb hby d11_15) rfl (l' := (own_F6 q (1000000000 : Int64) (q * (1000000000 : Int64)) (own_abs q) (own_abs (1000000000 : Int64)))) rfl ?_
    show Steps p.tables e below (T2.setTop (mkF m 17 (own_F6 q (1000000000 : Int64) (q * (1000000000 : Int64)) (own_abs q) (own_abs (1000000000 : Int64))) [])) _
    refine XS.lload X2.here hx rfl (hb hby d11_17) rfl ?_
    show Steps p.tables e below (T2.setTop (mkF m 19 (own_F6 q (1000000000 : Int64) (q * (1000000000 : Int64)) (own_abs q) (own_abs (1000000000 : Int64))) [(.long (own_abs q))])) _
    refine XS.lload X2.here hx rfl (hb hby d11_19) rfl ?_
    show Steps p.tables e below (T2.setTop (mkF m 21 (own_F6 q (1000000000 : Int64) (q * (1000000000 : Int64)) (own_abs q) (own_abs (1000000000 : Int64))) [(.long (own_abs (1000000000 : Int64))), (.long (own_abs q))])) _
    refine XS.lor X2.here hx rfl (hb hby d11_21) rfl ?_
    show Steps p.tables e below (T2.setTop (mkF m 22 (own_F6 q (1000000000 : Int64) (q * (1000000000 : Int64)) (own_abs q) (own_abs (1000000000 : Int64))) [(.long ((own_abs q) ||| (own_abs (1000000000 : Int64))))])) _
    refine XS.bipush X2.here hx rfl (hb hby d11_22) ?_
    show Steps p.tables e below (T2.setTop (mkF m 24 (own_F6 q (1000000000 : Int64) (q * (1000000000 : Int64)) (own_abs q) (own_abs (1000000000 : Int64))) [(.int (31 : Int32)), (.long ((own_abs q) ||| (own_abs (1000000000 : Int64))))])) _
    refine XS.lushr X2.here hx rfl (hb hby d11_24) rfl ?_
    show Steps p.tables e below (T2.setTop (mkF m 25 (own_F6 q (1000000000 : Int64) (q * (1000000000 : Int64)) (own_abs q) (own_abs (1000000000 : Int64))) [(.long ((((own_abs q) ||| (own_abs (1000000000 : Int64))).toUInt64 >>> ((31 : Int32) &&& 0x3f).toInt64.toUInt64).toInt64))])) _
    refine XS.lconst X2.here hx rfl (hb hby d11_25) ?_
    show Steps p.tables e below (T2.setTop (mkF m 26 (own_F6 q (1000000000 : Int64) (q * (1000000000 : Int64)) (own_abs q) (own_abs (1000000000 : Int64))) [(.long (0 : Int64)), (.long ((((own_abs q) ||| (own_abs (1000000000 : Int64))).toUInt64 >>> ((31 : Int32) &&& 0x3f).toInt64.toUInt64).toInt64))])) _
    refine XS.lcmp X2.here hx rfl (hb hby d11_26) rfl ?_
    show Steps p.tables e below (T2.setTop (mkF m 27 (own_F6 q (1000000000 : Int64) (q * (1000000000 : Int64)) (own_abs q) (own_abs (1000000000 : Int64))) [(.int (lcmpW ((((own_abs q) ||| (own_abs (1000000000 : Int64))).toUInt64 >>> ((31 : Int32) &&& 0x3f).toInt64.toUInt64).toInt64) (0 : Int64)))])) _
    exact k
  by_cases hc27_4 : (lcmpW ((((own_abs q) ||| (own_abs (1000000000 : Int64))).toUInt64 >>> ((31 : Int32) &&& 0x3f).toInt64.toUInt64).toInt64) (0 : Int64)) = (0 : Int32)
  · have w5 : ∀ t, Steps p.tables e below (T2.setTop (mkF m 73 (own_F6 q (1000000000 : Int64) (q * (1000000000 : Int64)) (own_abs q) (own_abs (1000000000 : Int64))) [(.long (q * (1000000000 : Int64)))])) t → Steps p.tables e below (s₁.setTop (entryFrame m #[(.long q), (.long (1000000000 : Int64))] 10)) t := fun t k => by
      refine w3 t ?_
      refine XS.ifYes X2.here hx rfl (pc0 := 27) (pc' := 71) rfl (hb hby d11_27) rfl ((if0 _ _).trans (teq hc27_4).1) (by decide) (by decide) ?_
      show Steps p.tables e below (T2.setTop (mkF m 71 (own_F6 q (1000000000 : Int64) (q * (1000000000 : Int64)) (own_abs q) (own_abs (1000000000 : Int64))) [])) _
      refine XS.lload X2.here hx rfl (hb hby d11_71) rfl ?_
      show Steps p.tables e below (T2.setTop (mkF m 73 (own_F6 q (1000000000 : Int64) (q * (1000000000 : Int64)) (own_abs q) (own_abs (1000000000 : Int64))) [(.long (q * (1000000000 : Int64)))])) _
      exact k
    obtain ⟨fs, hr, hrun, hended, hW, hsame⟩ := X2.leave (v := some (.long (q * (1000000000 : Int64)))) (fun h => by rw [Bd.returns] at h; cases h)
    refine ⟨_, _, w5 _ ?_, hrun, hended, _, _, rfl, ?_, ⟨_, rfl⟩, hW, hsame.mono (by decide) (by decide)⟩
    · exact X2.lreturnOut hx Bd.returns (hb hby d11_73) hr
    · show Q11 Z q  h0 n0 _ T2.heap _
      rw [eh2]
      exact ⟨rfl, N2, rfl⟩
  · have w6 : ∀ t, Steps p.tables e below (T2.setTop (mkF m 73 (own_F6 q (1000000000 : Int64) (q * (1000000000 : Int64)) (own_abs q) (own_abs (1000000000 : Int64))) [(.long (q * (1000000000 : Int64)))])) t → Steps p.tables e below (s₁.setTop (entryFrame m #[(.long q), (.long (1000000000 : Int64))] 10)) t := fun t k => by
      refine w3 t ?_
      refine XS.ifNo X2.here hx rfl (hb hby d11_27) rfl ((if0 _ _).trans (feq hc27_4).1) ?_
      show Steps p.tables e below (T2.setTop (mkF m 30 (own_F6 q (1000000000 : Int64) (q * (1000000000 : Int64)) (own_abs q) (own_abs (1000000000 : Int64))) [])) _
      refine XS.lloadN X2.here hx rfl (hb hby d11_30) rfl ?_
      show Steps p.tables e below (T2.setTop (mkF m 31 (own_F6 q (1000000000 : Int64) (q * (1000000000 : Int64)) (own_abs q) (own_abs (1000000000 : Int64))) [(.long (1000000000 : Int64))])) _
      refine XS.lconst X2.here hx rfl (hb hby d11_31) ?_
      show Steps p.tables e below (T2.setTop (mkF m 32 (own_F6 q (1000000000 : Int64) (q * (1000000000 : Int64)) (own_abs q) (own_abs (1000000000 : Int64))) [(.long (0 : Int64)), (.long (1000000000 : Int64))])) _
      refine XS.lcmp X2.here hx rfl (hb hby d11_32) rfl ?_
      show Steps p.tables e below (T2.setTop (mkF m 33 (own_F6 q (1000000000 : Int64) (q * (1000000000 : Int64)) (own_abs q) (own_abs (1000000000 : Int64))) [(.int (lcmpW (1000000000 : Int64) (0 : Int64)))])) _
      refine XS.ifNo X2.here hx rfl (hb hby d11_33) rfl ((if0 _ _).trans (feq (by decide : ¬ ((lcmpW (1000000000 : Int64) (0 : Int64)) = (0 : Int32)))).1) ?_
      show Steps p.tables e below (T2.setTop (mkF m 36 (own_F6 q (1000000000 : Int64) (q * (1000000000 : Int64)) (own_abs q) (own_abs (1000000000 : Int64))) [])) _
      refine XS.lload X2.here hx rfl (hb hby d11_36) rfl ?_
      show Steps p.tables e below (T2.setTop (mkF m 38 (own_F6 q (1000000000 : Int64) (q * (1000000000 : Int64)) (own_abs q) (own_abs (1000000000 : Int64))) [(.long (q * (1000000000 : Int64)))])) _
      refine XS.lloadN X2.here hx rfl (hb hby d11_38) rfl ?_
      show Steps p.tables e below (T2.setTop (mkF m 39 (own_F6 q (1000000000 : Int64) (q * (1000000000 : Int64)) (own_abs q) (own_abs (1000000000 : Int64))) [(.long (1000000000 : Int64)), (.long (q * (1000000000 : Int64)))])) _
      refine XS.ldiv X2.here hx rfl (hb hby d11_39) rfl (by decide) ?_
      show Steps p.tables e below (T2.setTop (mkF m 40 (own_F6 q (1000000000 : Int64) (q * (1000000000 : Int64)) (own_abs q) (own_abs (1000000000 : Int64))) [(.long ((q * (1000000000 : Int64)) / (1000000000 : Int64)))])) _
      refine XS.lloadN X2.here hx rfl (hb hby d11_40) rfl ?_
      show Steps p.tables e below (T2.setTop (mkF m 41 (own_F6 q (1000000000 : Int64) (q * (1000000000 : Int64)) (own_abs q) (own_abs (1000000000 : Int64))) [(.long q), (.long ((q * (1000000000 : Int64)) / (1000000000 : Int64)))])) _
      refine XS.lcmp X2.here hx rfl (hb hby d11_41) rfl ?_
      show Steps p.tables e below (T2.setTop (mkF m 42 (own_F6 q (1000000000 : Int64) (q * (1000000000 : Int64)) (own_abs q) (own_abs (1000000000 : Int64))) [(.int (lcmpW ((q * (1000000000 : Int64)) / (1000000000 : Int64)) q))])) _
      refine XS.ifNo X2.here hx rfl (hb hby d11_42) rfl ((if0 _ _).trans (teq (own_md ho : (lcmpW ((q * (1000000000 : Int64)) / (1000000000 : Int64)) q) = (0 : Int32))).2) ?_
      show Steps p.tables e below (T2.setTop (mkF m 45 (own_F6 q (1000000000 : Int64) (q * (1000000000 : Int64)) (own_abs q) (own_abs (1000000000 : Int64))) [])) _
      refine XS.lloadN X2.here hx rfl (hb hby d11_45) rfl ?_
      show Steps p.tables e below (T2.setTop (mkF m 46 (own_F6 q (1000000000 : Int64) (q * (1000000000 : Int64)) (own_abs q) (own_abs (1000000000 : Int64))) [(.long q)])) _
      refine X2.ldc2Long hx hown (mvT hZ (hw _ (List.mem_of_getElem? (i := 61) rfl))) (g := (mkF m 46 (own_F6 q (1000000000 : Int64) (q * (1000000000 : Int64)) (own_abs q) (own_abs (1000000000 : Int64))) [(.long q)])) rfl (hb hby d11_46) _ ?_
      show Steps p.tables e below (T2.setTop (mkF m 49 (own_F6 q (1000000000 : Int64) (q * (1000000000 : Int64)) (own_abs q) (own_abs (1000000000 : Int64))) [(.long (-9223372036854775808 : Int64)), (.long q)])) _
      refine XS.lcmp X2.here hx rfl (hb hby d11_49) rfl ?_
      show Steps p.tables e below (T2.setTop (mkF m 50 (own_F6 q (1000000000 : Int64) (q * (1000000000 : Int64)) (own_abs q) (own_abs (1000000000 : Int64))) [(.int (lcmpW q (-9223372036854775808 : Int64)))])) _
      refine XS.ifYes X2.here hx rfl (pc0 := 50) (pc' := 71) rfl (hb hby d11_50) rfl ((if0 _ _).trans (feq (own_mn ho : ¬ ((lcmpW q (-9223372036854775808 : Int64)) = (0 : Int32)))).2) (by decide) (by decide) ?_
      show Steps p.tables e below (T2.setTop (mkF m 71 (own_F6 q (1000000000 : Int64) (q * (1000000000 : Int64)) (own_abs q) (own_abs (1000000000 : Int64))) [])) _
      refine XS.lload X2.here hx rfl (hb hby d11_71) rfl ?_
      show Steps p.tables e below (T2.setTop (mkF m 73 (own_F6 q (1000000000 : Int64) (q * (1000000000 : Int64)) (own_abs q) (own_abs (1000000000 : Int64))) [(.long (q * (1000000000 : Int64)))])) _
      exact k
    obtain ⟨fs, hr, hrun, hended, hW, hsame⟩ := X2.leave (v := some (.long (q * (1000000000 : Int64)))) (fun h => by rw [Bd.returns] at h; cases h)
    refine ⟨_, _, w6 _ ?_, hrun, hended, _, _, rfl, ?_, ⟨_, rfl⟩, hW, hsame.mono (by decide) (by decide)⟩
    · exact X2.lreturnOut hx Bd.returns (hb hby d11_73) hr
    · show Q11 Z q  h0 n0 _ T2.heap _
      rw [eh2]
      exact ⟨rfl, N2, rfl⟩
theorem d9_0 : decode prog_13_method_2_code 0 = .ok (.aload_n 0, 1) := by decide +kernel
theorem d9_1 : decode prog_13_method_2_code 1 = .ok (.invokevirtual 7, 3) := by decide +kernel
theorem pd__40_41J : parseMethodDescriptor "()J" = some ⟨[], some .long⟩ := by decide +kernel
theorem d9_4 : decode prog_13_method_2_code 4 = .ok (.ldc2_w 15, 3) := by decide +kernel
theorem d9_7 : decode prog_13_method_2_code 7 = .ok (.invokestatic 17, 3) := by decide +kernel
theorem d9_10 : decode prog_13_method_2_code 10 = .ok (.aload_n 0, 1) := by decide +kernel
theorem d9_11 : decode prog_13_method_2_code 11 = .ok (.invokevirtual 23, 3) := by decide +kernel
theorem pd__40_41I : parseMethodDescriptor "()I" = some ⟨[], some .int⟩ := by decide +kernel
theorem d9_14 : decode prog_13_method_2_code 14 = .ok (.i2l, 1) := by decide +kernel
theorem d9_15 : decode prog_13_method_2_code 15 = .ok (.invokestatic 27, 3) := by decide +kernel
theorem d9_18 : decode prog_13_method_2_code 18 = .ok (.lreturn, 1) := by decide +kernel
theorem ef_9 (m : MethodId) (x0 : Addr) : entryFrame m #[(.ref x0)] 1 = mkF m 0 #[.val (.ref x0)] [] := by first | (simp [entryFrame, mkF, argsToLocals, Value.category]; done) | rfl
def Q9 (Z : State) (a : Addr) (q : Int64) (i : Int32) (h0 : Heap) (n0 : Nat) (v : Option Value) (h : Heap) (L : List Loc) : Prop := v = some (.long (q * (1000000000 : Int64) + i.toInt64)) ∧ Fr n0 L ∧ h = h0
set_option maxRecDepth 65536 in
set_option maxHeartbeats 40000000 in
theorem rm9 (l : Launch) (Z : State) (a0 : Array Value) (hw : ∀ d ∈ tables_1, d.before a0 Z = true) (ws : List Jvm.Cond) (a : Addr) (q : Int64) (i : Int32) (h0 : Heap) (n0 : Nat) (O0 : Old Z n0 h0) (E_a : Exa Z h0 a "java/time/Instant") (F_s_a : Fld Z h0 a "java/time/Instant" "seconds" "J" (.long q)) (F_n_a : Fld Z h0 a "java/time/Instant" "nanos" "I" (.int i)) (h1 : -9223372036854775808 ≤ q.toInt * 1000000000 ∧ q.toInt * 1000000000 < 9223372036854775808) (h2 : -9223372036854775808 ≤ q.toInt * 1000000000 + i.toInt ∧ q.toInt * 1000000000 + i.toInt < 9223372036854775808) :
    MetFree l (⟨"com/example/rolling_ledger/rollingledger/store/EpochNanos", "of", "(Ljava/time/Instant;)J"⟩ : MethodName) (head1 (Jvm.Cond.code (⟨"com/example/rolling_ledger/rollingledger/store/EpochNanos", "of", "(Ljava/time/Instant;)J"⟩ : MethodName) prog_13_method_2_code 1 (some .long) :: ws) ({ frames := 2, cells := 0, slots := 0, locals := 34 } : Room)) (fun aA uU => aA = #[(.ref a)] ∧ Z.Warmed39 uU.vm ∧ uU.heap = h0) (fun _ _ _ _ _ => True) (fun _ uU oO uU' => ∃ vV lL, oO = .returned vV ∧ Q9 Z a q i  h0 n0 vV uU'.heap lL ∧ FrameEnd uU oO uU' lL ({ frames := 2, cells := 0, slots := 0, locals := 34 } : Room).cells ({ frames := 2, cells := 0, slots := 0, locals := 34 } : Room).slots) := by
  refine MetFree.of_bodySF (plainFor_of_name pn_com_example_rolling_ledger_rollingledger_store_EpochNanos) hisR ?_
  intro p e s m args below meth c s₁ Bd hml0 hP hK
  obtain ⟨rfl, hZ, hh⟩ := hP
  have hx := Bd.exec
  have hby := Bd.bytes
  have hml : c.maxLocals = 1 := hml0
  have hown : s.vm.findClass "com/example/rolling_ledger/rollingledger/store/EpochNanos" = some m.cls := findClass_of_methodNamed Bd.named
  have hnm := (name_of_methodNamed Bd.named Bd.method).1
  have X0 : Stand p l e ({ frames := 2, cells := 0, slots := 0, locals := 34 } : Room) s m #[(.ref a)] below meth c s₁ [] 0 0 := Stand.of_body Bd
  have e0 : s₁.heap = h0 := by rw [← hh, Bd.state]; rfl
  have N0 := Fr.nil n0
  have O := O0
  have pre0 : ∀ t, Steps p.tables e below (s₁.setTop (mkF m 0 #[.val (.ref a)] [])) t → Steps p.tables e below (s₁.setTop (entryFrame m #[(.ref a)] 1)) t := fun t k => castTop (ef_9 m a) k
  obtain ⟨cq1, kq1, q1a, q1b, q1c⟩ := isOf hZ e0 E_a
  obtain ⟨_, _, ⟨T1, L1, k1, n1⟩, -, X1, ⟨Lc1, hQ1, l1, y1, z1⟩, st1⟩ := X0.virtualBack hx (y := (⟨"java/time/Instant", "getEpochSecond", "()J"⟩ : MethodName)) (z := (⟨"java/time/Instant", "getEpochSecond", "()J"⟩ : MethodName)) hown (mvT hZ (hw _ (List.mem_of_getElem? (i := 44) rfl))) (mvT hZ (hw _ (List.mem_of_getElem? (i := 45) rfl))) (notFace_of_selects (args := #[]) (mvT hZ (hw _ (List.mem_of_getElem? (i := 47) rfl)))) (mvT hZ (hw _ (List.mem_of_getElem? (i := 47) rfl))) (mvT hZ (hw _ (List.mem_of_getElem? (i := 46) rfl))) (by decide) (backOf (W := 0) (rm10 l Z a0 hw [] a q h0 n0 O F_s_a) hZ (hw _ (List.mem_of_getElem? (i := 48) rfl)) (hw _ (List.mem_of_getElem? (i := 15) rfl)) (by decide) (by decide)) q1a q1c (g := (mkF m 1 #[.val (.ref a)] [(.ref a)])) rfl (by rw [hml]; rfl) (Steps.refl _) (argsL := []) (rest := []) (lenOf pd__40_41J rfl) rfl (by show 2 * 0 + _ ≤ _; exact Nat.le_of_eq rfl) (hb hby d9_1) (fun _ _ => ⟨rfl, e0, (by decide : 0 + 0 ≤ _), (by decide : 0 + 0 ≤ _)⟩)
  dsimp only [Pt.U, Pt.locs, Pt.cells, Pt.slots] at X1 l1 y1 z1 st1 hQ1
  subst l1 y1 z1
  obtain ⟨rfl, N1q, eh1⟩ := hQ1
  have N1 := Fr.app N0 N1q
  obtain ⟨_, _, ⟨T2, L2, k2, n2⟩, -, X2, ⟨Lc2, hQ2, l2, y2, z2⟩, st2⟩ := Jvm.LawKit.callS X1 hx (y := (⟨"java/lang/Math", "multiplyExact", "(JJ)J"⟩ : MethodName)) hown (mvT hZ (hw _ (List.mem_of_getElem? (i := 49) rfl))) (mvT hZ (hw _ (List.mem_of_getElem? (i := 50) rfl))) (mvT hZ (hw _ (List.mem_of_getElem? (i := 8) rfl))) (mvT hZ (hw _ (List.mem_of_getElem? (i := 51) rfl))) (by decide) (backOf (W := 0) (rm11 l Z a0 hw [] q h0 n0 O h1) hZ (hw _ (List.mem_of_getElem? (i := 51) rfl)) (hw _ (List.mem_of_getElem? (i := 8) rfl)) (by decide) (by decide)) (g := (mkF m 7 #[.val (.ref a)] [(.long (1000000000 : Int64)), (.long q)])) rfl (by rw [hml]; rfl) (argsL := [(.long q), (.long (1000000000 : Int64))]) (rest := []) (lenOf pd__40JJ_41J rfl) rfl (by show 2 * 0 + _ ≤ _; exact Nat.le_of_eq rfl) (hb hby d9_7) (fun _ _ => ⟨rfl, eh1, (by decide : 0 + 0 ≤ _), (by decide : 0 + 0 ≤ _)⟩)
  dsimp only [Pt.U, Pt.locs, Pt.cells, Pt.slots] at X2 l2 y2 z2 st2 hQ2
  subst l2 y2 z2
  obtain ⟨rfl, N2q, eh2⟩ := hQ2
  have N2 := Fr.app N1 N2q
  obtain ⟨cq3, kq3, q3a, q3b, q3c⟩ := isOf hZ eh2 E_a
  obtain ⟨_, _, ⟨T3, L3, k3, n3⟩, -, X3, ⟨Lc3, hQ3, l3, y3, z3⟩, st3⟩ := X2.virtualBack hx (y := (⟨"java/time/Instant", "getNano", "()I"⟩ : MethodName)) (z := (⟨"java/time/Instant", "getNano", "()I"⟩ : MethodName)) hown (mvT hZ (hw _ (List.mem_of_getElem? (i := 55) rfl))) (mvT hZ (hw _ (List.mem_of_getElem? (i := 56) rfl))) (notFace_of_selects (args := #[]) (mvT hZ (hw _ (List.mem_of_getElem? (i := 58) rfl)))) (mvT hZ (hw _ (List.mem_of_getElem? (i := 58) rfl))) (mvT hZ (hw _ (List.mem_of_getElem? (i := 57) rfl))) (by decide) (backOf (W := 2) (rm13 l Z a0 hw [] a i h0 n0 O F_n_a) hZ (hw _ (List.mem_of_getElem? (i := 59) rfl)) (hw _ (List.mem_of_getElem? (i := 15) rfl)) (by decide) (by decide)) q3a q3c (g := (mkF m 11 #[.val (.ref a)] [(.ref a), (.long (q * (1000000000 : Int64)))])) rfl (by rw [hml]; rfl) (Steps.refl _) (argsL := []) (rest := [(.long (q * (1000000000 : Int64)))]) (lenOf pd__40_41I rfl) rfl (by show 2 * 0 + _ ≤ _; exact Nat.le_of_eq rfl) (hb hby d9_11) (fun _ _ => ⟨rfl, eh2, (by decide : 0 + 0 ≤ _), (by decide : 0 + 0 ≤ _)⟩)
  dsimp only [Pt.U, Pt.locs, Pt.cells, Pt.slots] at X3 l3 y3 z3 st3 hQ3
  subst l3 y3 z3
  obtain ⟨rfl, N3q, eh3⟩ := hQ3
  have N3 := Fr.app N2 N3q
  obtain ⟨_, _, ⟨T4, L4, k4, n4⟩, -, X4, ⟨Lc4, hQ4, l4, y4, z4⟩, st4⟩ := Jvm.LawKit.callS X3 hx (y := (⟨"java/lang/Math", "addExact", "(JJ)J"⟩ : MethodName)) hown (mvT hZ (hw _ (List.mem_of_getElem? (i := 60) rfl))) (mvT hZ (hw _ (List.mem_of_getElem? (i := 20) rfl))) (mvT hZ (hw _ (List.mem_of_getElem? (i := 8) rfl))) (mvT hZ (hw _ (List.mem_of_getElem? (i := 21) rfl))) (by decide) (backOf (W := 0) (rm5 l Z a0 hw [] (q * (1000000000 : Int64)) (i.toInt64) h0 n0 O (by rw [own_mul h1, c_i2l]; exact h2)) hZ (hw _ (List.mem_of_getElem? (i := 21) rfl)) (hw _ (List.mem_of_getElem? (i := 8) rfl)) (by decide) (by decide)) (g := (mkF m 15 #[.val (.ref a)] [(.long (i.toInt64)), (.long (q * (1000000000 : Int64)))])) rfl (by rw [hml]; rfl) (argsL := [(.long (q * (1000000000 : Int64))), (.long (i.toInt64))]) (rest := []) (lenOf pd__40JJ_41J rfl) rfl (by show 2 * 0 + _ ≤ _; exact Nat.le_of_eq rfl) (hb hby d9_15) (fun _ _ => ⟨rfl, eh3, (by decide : 0 + 0 ≤ _), (by decide : 0 + 0 ≤ _)⟩)
  dsimp only [Pt.U, Pt.locs, Pt.cells, Pt.slots] at X4 l4 y4 z4 st4 hQ4
  subst l4 y4 z4
  obtain ⟨rfl, N4q, eh4⟩ := hQ4
  have N4 := Fr.app N3 N4q
  have w5 : ∀ t, Steps p.tables e below (T4.setTop (mkF m 18 #[.val (.ref a)] [(.long ((q * (1000000000 : Int64)) + (i.toInt64)))])) t → Steps p.tables e below (s₁.setTop (entryFrame m #[(.ref a)] 1)) t := fun t k => by
    refine pre0 t ?_
    refine XS.aloadN X0.here hx rfl (hb hby d9_0) rfl rfl ?_
    show Steps p.tables e below (s₁.setTop (mkF m 1 #[.val (.ref a)] [(.ref a)])) _
    refine st1.trans ?_
    show Steps p.tables e below (T1.setTop (mkF m 4 #[.val (.ref a)] [(.long q)])) _
    refine X1.ldc2Long hx hown (mvT hZ (hw _ (List.mem_of_getElem? (i := 5) rfl))) (g := (mkF m 4 #[.val (.ref a)] [(.long q)])) rfl (hb hby d9_4) _ ?_
    show Steps p.tables e below (T1.setTop (mkF m 7 #[.val (.ref a)] [(.long (1000000000 : Int64)), (.long q)])) _
    refine st2 _ ?_
    show Steps p.tables e below (T2.setTop (mkF m 10 #[.val (.ref a)] [(.long (q * (1000000000 : Int64)))])) _
    refine XS.aloadN X2.here hx rfl (hb hby d9_10) rfl rfl ?_
    show Steps p.tables e below (T2.setTop (mkF m 11 #[.val (.ref a)] [(.ref a), (.long (q * (1000000000 : Int64)))])) _
    refine st3.trans ?_
    show Steps p.tables e below (T3.setTop (mkF m 14 #[.val (.ref a)] [(.int i), (.long (q * (1000000000 : Int64)))])) _
    refine XS.i2l X3.here hx rfl (hb hby d9_14) rfl ?_
    show Steps p.tables e below (T3.setTop (mkF m 15 #[.val (.ref a)] [(.long (i.toInt64)), (.long (q * (1000000000 : Int64)))])) _
    refine st4 _ ?_
    show Steps p.tables e below (T4.setTop (mkF m 18 #[.val (.ref a)] [(.long ((q * (1000000000 : Int64)) + (i.toInt64)))])) _
    exact k
  obtain ⟨fs, hr, hrun, hended, hW, hsame⟩ := X4.leave (v := some (.long ((q * (1000000000 : Int64)) + (i.toInt64)))) (fun h => by rw [Bd.returns] at h; cases h)
  refine ⟨_, _, w5 _ ?_, hrun, hended, _, _, rfl, ?_, ⟨_, rfl⟩, hW, hsame.mono (by decide) (by decide)⟩
  · exact X4.lreturnOut hx Bd.returns (hb hby d9_18) hr
  · show Q9 Z a q i  h0 n0 _ T4.heap _
    rw [eh4]
    exact ⟨rfl, N4, rfl⟩
theorem pd__40J_41Ljava_47time_47Instant_59 : parseMethodDescriptor "(J)Ljava/time/Instant;" = some ⟨[.long], some (.object "java/time/Instant")⟩ := by decide +kernel
theorem pd__40Ljava_47time_47Instant_59_41J : parseMethodDescriptor "(Ljava/time/Instant;)J" = some ⟨[(.object "java/time/Instant")], some .long⟩ := by decide +kernel
theorem pn_com_example_rolling_ledger_rollingledger_store_EpochNanosToInstantPinLaw : plainName "com/example/rolling_ledger/rollingledger/store/EpochNanosToInstantPinLaw" = true := by first | (simp [plainName, overriddenIn]; done) | decide +kernel
theorem ef_0 (m : MethodId) (x0 : Int64) : entryFrame m #[(.long x0)] maxLocals = mkF m 0 #[.val (.long x0), .second, .unset, .unset] [] := by first | (simp [entryFrame, mkF, argsToLocals, Value.category, maxLocals]; done) | rfl
def Q0 (Z : State) (q : Int64) (s_EPOCH : Addr) (h0 : Heap) (n0 : Nat) (v : Option Value) (h : Heap) (L : List Loc) : Prop := v = some (.int (1 : Int32)) ∧ Fr n0 L
set_option maxRecDepth 65536 in
set_option maxHeartbeats 40000000 in
theorem rm0 (l : Launch) (Z : State) (a0 : Array Value) (hw : ∀ d ∈ tables_1, d.before a0 Z = true) (ws : List Jvm.Cond) (q : Int64) (s_EPOCH : Addr) (h0 : Heap) (n0 : Nat) (O0 : Old Z n0 h0) (S_s_EPOCH : Sta Z Z.heap "java/time/Instant" "EPOCH" "Ljava/time/Instant;" (.ref s_EPOCH)) (E_EP : Exa Z Z.heap s_EPOCH "java/time/Instant") (F_EPs : Fld Z Z.heap s_EPOCH "java/time/Instant" "seconds" "J" (.long (0 : Int64))) (F_EPn : Fld Z Z.heap s_EPOCH "java/time/Instant" "nanos" "I" (.int (0 : Int32))) :
    MetFree l x (head1 (Jvm.Cond.code x code maxLocals ret :: ws) room_1) (fun aA uU => aA = #[(.long q)] ∧ Z.Warmed39 uU.vm ∧ uU.heap = h0) (fun _ _ _ _ _ => True) (fun _ uU oO uU' => ∃ vV lL, oO = .returned vV ∧ Q0 Z q s_EPOCH h0 n0 vV uU'.heap lL ∧ FrameEnd uU oO uU' lL room_1.cells room_1.slots) := by
  refine MetFree.of_bodySF (plainFor_of_name pn_com_example_rolling_ledger_rollingledger_store_EpochNanosToInstantPinLaw) hisR ?_
  intro p e s m args below meth c s₁ Bd hml0 hP hK
  obtain ⟨rfl, hZ, hh⟩ := hP
  have hx := Bd.exec
  have hby := Bd.bytes
  have hml : c.maxLocals = 4 := hml0
  have hown : s.vm.findClass "com/example/rolling_ledger/rollingledger/store/EpochNanosToInstantPinLaw" = some m.cls := findClass_of_methodNamed Bd.named
  have hnm := (name_of_methodNamed Bd.named Bd.method).1
  have X0 : Stand p l e room_1 s m #[(.long q)] below meth c s₁ [] 0 0 := Stand.of_body Bd
  have e0 : s₁.heap = h0 := by rw [← hh, Bd.state]; rfl
  have N0 := Fr.nil n0
  have O := O0
  have pre0 : ∀ t, Steps p.tables e below (s₁.setTop (mkF m 0 #[.val (.long q), .second, .unset, .unset] [])) t → Steps p.tables e below (s₁.setTop (entryFrame m #[(.long q)] maxLocals)) t := fun t k => castTop (ef_0 m q) k
  have w1 : ∀ t, Steps p.tables e below (s₁.setTop (mkF m 7 #[.val (.long q), .second, .val (.long q), .second] [(.int (lcmpW q (-9223372036000000000 : Int64)))])) t → Steps p.tables e below (s₁.setTop (entryFrame m #[(.long q)] maxLocals)) t := fun t k => by
    refine pre0 t ?_
    refine XS.lloadN X0.here hx rfl (hb hby at_0) rfl ?_
    show Steps p.tables e below (s₁.setTop (mkF m 1 #[.val (.long q), .second, .unset, .unset] [(.long q)])) _
    refine XS.lstoreN X0.here hx rfl (hb hby at_1) rfl (l' := #[.val (.long q), .second, .val (.long q), .second]) rfl ?_
    show Steps p.tables e below (s₁.setTop (mkF m 2 #[.val (.long q), .second, .val (.long q), .second] [])) _
    refine XS.lloadN X0.here hx rfl (hb hby at_2) rfl ?_
    show Steps p.tables e below (s₁.setTop (mkF m 3 #[.val (.long q), .second, .val (.long q), .second] [(.long q)])) _
    refine X0.ldc2Long hx hown (mvT hZ (hw _ (List.mem_of_getElem? (i := 0) rfl))) (g := (mkF m 3 #[.val (.long q), .second, .val (.long q), .second] [(.long q)])) rfl (hb hby at_3) _ ?_
    show Steps p.tables e below (s₁.setTop (mkF m 6 #[.val (.long q), .second, .val (.long q), .second] [(.long (-9223372036000000000 : Int64)), (.long q)])) _
    refine XS.lcmp X0.here hx rfl (hb hby at_6) rfl ?_
    show Steps p.tables e below (s₁.setTop (mkF m 7 #[.val (.long q), .second, .val (.long q), .second] [(.int (lcmpW q (-9223372036000000000 : Int64)))])) _
    exact k
  obtain ⟨vn, hvn⟩ : ∃ v : Int64, v = (if (lcmpW q (-9223372036000000000 : Int64)) < (0 : Int32) then (q - (-9223372036854775808 : Int64)) else q) := ⟨_, rfl⟩
  have w3 : ∀ t, Steps p.tables e below (s₁.setTop (mkF m 16 #[.val (.long q), .second, .val (.long vn), .second] [])) t → Steps p.tables e below (s₁.setTop (entryFrame m #[(.long q)] maxLocals)) t := fun t k => by
    refine w1 t ?_
    show Steps p.tables e below (s₁.setTop (mkF m 7 #[.val (.long q), .second, .val (.long q), .second] [(.int (lcmpW q (-9223372036000000000 : Int64)))])) _
    by_cases hm2 : (lcmpW q (-9223372036000000000 : Int64)) < (0 : Int32)
    · refine XS.ifNo X0.here hx rfl (hb hby at_7) rfl ((if0 _ _).trans (tlt hm2).2.1) ?_
      show Steps p.tables e below (s₁.setTop (mkF m 10 #[.val (.long q), .second, .val (.long q), .second] [])) _
      refine XS.lloadN X0.here hx rfl (hb hby at_10) rfl ?_
      show Steps p.tables e below (s₁.setTop (mkF m 11 #[.val (.long q), .second, .val (.long q), .second] [(.long q)])) _
      refine X0.ldc2Long hx hown (mvT hZ (hw _ (List.mem_of_getElem? (i := 63) rfl))) (g := (mkF m 11 #[.val (.long q), .second, .val (.long q), .second] [(.long q)])) rfl (hb hby at_11) _ ?_
      show Steps p.tables e below (s₁.setTop (mkF m 14 #[.val (.long q), .second, .val (.long q), .second] [(.long (-9223372036854775808 : Int64)), (.long q)])) _
      refine XS.lsub X0.here hx rfl (hb hby at_14) rfl ?_
      show Steps p.tables e below (s₁.setTop (mkF m 15 #[.val (.long q), .second, .val (.long q), .second] [(.long (q - (-9223372036854775808 : Int64)))])) _
      refine XS.lstoreN X0.here hx rfl (hb hby at_15) rfl (l' := #[.val (.long q), .second, .val (.long (q - (-9223372036854775808 : Int64))), .second]) rfl ?_
      show Steps p.tables e below (s₁.setTop (mkF m 16 #[.val (.long q), .second, .val (.long (q - (-9223372036854775808 : Int64))), .second] [])) _
      rw [show vn = (q - (-9223372036854775808 : Int64)) from by rw [hvn]; simp only [if_pos hm2]] at k
      exact k
    · refine XS.ifYes X0.here hx rfl (pc0 := 7) (pc' := 16) rfl (hb hby at_7) rfl ((if0 _ _).trans (flt hm2).2.1) (by decide) (by decide) ?_
      show Steps p.tables e below (s₁.setTop (mkF m 16 #[.val (.long q), .second, .val (.long q), .second] [])) _
      rw [show vn = q from by rw [hvn]; simp only [if_neg hm2]] at k
      exact k
  obtain ⟨_, _, ⟨T4, L4, k4, n4⟩, -, X4, ⟨Lc4, hQ4, l4, y4, z4⟩, st4⟩ := Jvm.LawKit.callS X0 hx (y := (⟨"com/example/rolling_ledger/rollingledger/store/EpochNanos", "toInstant", "(J)Ljava/time/Instant;"⟩ : MethodName)) hown (mvT hZ (hw _ (List.mem_of_getElem? (i := 1) rfl))) (mvT hZ (hw _ (List.mem_of_getElem? (i := 2) rfl))) (mvT hZ (hw _ (List.mem_of_getElem? (i := 3) rfl))) (mvT hZ (hw _ (List.mem_of_getElem? (i := 4) rfl))) (by decide) (backOf (W := 0) (rm1 l Z a0 hw [] vn s_EPOCH h0 n0 O S_s_EPOCH E_EP F_EPs F_EPn) hZ (hw _ (List.mem_of_getElem? (i := 4) rfl)) (hw _ (List.mem_of_getElem? (i := 3) rfl)) (by decide) (by decide)) (g := (mkF m 17 #[.val (.long q), .second, .val (.long vn), .second] [(.long vn)])) rfl (by rw [hml]; rfl) (argsL := [(.long vn)]) (rest := []) (lenOf pd__40J_41Ljava_47time_47Instant_59 rfl) rfl (by show 2 * 0 + _ ≤ _; exact Nat.le_of_eq rfl) (hb hby at_17) (fun _ _ => ⟨rfl, e0, (by decide : 0 + 1 ≤ _), (by decide : 0 + 2 ≤ _)⟩)
  dsimp only [Pt.U, Pt.locs, Pt.cells, Pt.slots] at X4 l4 y4 z4 st4 hQ4
  subst l4 y4 z4
  obtain ⟨z_4, u_4, i_4, rfl, N4q, K4, E_z_c4, F_s_z_c4, F_n_z_c4, hu_4, hi_4⟩ := hQ4
  have N4 := Fr.app N0 N4q
  have O := O.keep K4 all0
  obtain ⟨_, _, ⟨T5, L5, k5, n5⟩, -, X5, ⟨Lc5, hQ5, l5, y5, z5⟩, st5⟩ := Jvm.LawKit.callS X4 hx (y := (⟨"com/example/rolling_ledger/rollingledger/store/EpochNanos", "of", "(Ljava/time/Instant;)J"⟩ : MethodName)) hown (mvT hZ (hw _ (List.mem_of_getElem? (i := 41) rfl))) (mvT hZ (hw _ (List.mem_of_getElem? (i := 42) rfl))) (mvT hZ (hw _ (List.mem_of_getElem? (i := 3) rfl))) (mvT hZ (hw _ (List.mem_of_getElem? (i := 43) rfl))) (by decide) (backOf (W := 0) (rm9 l Z a0 hw [] z_4 u_4 i_4 T4.heap n0 O E_z_c4 F_s_z_c4 F_n_z_c4 (by have := own_v hvn; have := rng64 vn; rw [hu_4]; omega) (by have := own_v hvn; have := rng64 vn; rw [hu_4, hi_4]; omega)) hZ (hw _ (List.mem_of_getElem? (i := 43) rfl)) (hw _ (List.mem_of_getElem? (i := 3) rfl)) (by decide) (by decide)) (g := (mkF m 20 #[.val (.long q), .second, .val (.long vn), .second] [(.ref z_4)])) rfl (by rw [hml]; rfl) (argsL := [(.ref z_4)]) (rest := []) (lenOf pd__40Ljava_47time_47Instant_59_41J rfl) rfl (by show 2 * 0 + _ ≤ _; exact Nat.le_of_eq rfl) (hb hby at_20) (fun _ _ => ⟨rfl, rfl, (by decide : 1 + 0 ≤ _), (by decide : 2 + 0 ≤ _)⟩)
  dsimp only [Pt.U, Pt.locs, Pt.cells, Pt.slots] at X5 l5 y5 z5 st5 hQ5
  subst l5 y5 z5
  obtain ⟨rfl, N5q, eh5⟩ := hQ5
  have N5 := Fr.app N4 N5q
  have w6 : ∀ t, Steps p.tables e below (T5.setTop (mkF m 33 #[.val (.long q), .second, .val (.long vn), .second] [(.int (1 : Int32))])) t → Steps p.tables e below (s₁.setTop (entryFrame m #[(.long q)] maxLocals)) t := fun t k => by
    refine w3 t ?_
    refine XS.lloadN X0.here hx rfl (hb hby at_16) rfl ?_
    show Steps p.tables e below (s₁.setTop (mkF m 17 #[.val (.long q), .second, .val (.long vn), .second] [(.long vn)])) _
    refine st4 _ ?_
    show Steps p.tables e below (T4.setTop (mkF m 20 #[.val (.long q), .second, .val (.long vn), .second] [(.ref z_4)])) _
    refine st5 _ ?_
    show Steps p.tables e below (T5.setTop (mkF m 23 #[.val (.long q), .second, .val (.long vn), .second] [(.long (u_4 * (1000000000 : Int64) + i_4.toInt64))])) _
    refine XS.lloadN X5.here hx rfl (hb hby at_23) rfl ?_
    show Steps p.tables e below (T5.setTop (mkF m 24 #[.val (.long q), .second, .val (.long vn), .second] [(.long vn), (.long (u_4 * (1000000000 : Int64) + i_4.toInt64))])) _
    refine XS.lcmp X5.here hx rfl (hb hby at_24) rfl ?_
    show Steps p.tables e below (T5.setTop (mkF m 25 #[.val (.long q), .second, .val (.long vn), .second] [(.int (lcmpW (u_4 * (1000000000 : Int64) + i_4.toInt64) vn))])) _
    refine XS.ifNo X5.here hx rfl (hb hby at_25) rfl ((if0 _ _).trans (teq (own_fin (own_v hvn) hu_4 hi_4 : (lcmpW (u_4 * (1000000000 : Int64) + i_4.toInt64) vn) = (0 : Int32))).2) ?_
    show Steps p.tables e below (T5.setTop (mkF m 28 #[.val (.long q), .second, .val (.long vn), .second] [])) _
    refine XS.iconst X5.here hx rfl (hb hby at_28) ?_
    show Steps p.tables e below (T5.setTop (mkF m 29 #[.val (.long q), .second, .val (.long vn), .second] [(.int (1 : Int32))])) _
    refine XS.goto X5.here hx rfl (pc0 := 29) (pc' := 33) rfl (hb hby at_29) (by decide) (by decide) ?_
    show Steps p.tables e below (T5.setTop (mkF m 33 #[.val (.long q), .second, .val (.long vn), .second] [(.int (1 : Int32))])) _
    exact k
  obtain ⟨fs, hr, hrun, hended, hW, hsame⟩ := X5.leave (v := some (.int (1 : Int32))) (fun h => by rw [Bd.returns] at h; cases h)
  refine ⟨_, _, w6 _ ?_, hrun, hended, _, _, rfl, ?_, ⟨_, rfl⟩, hW, hsame.mono (by decide) (by decide)⟩
  · exact retN X5 hx (t := .boolean) Bd.returns (by simp) (hb hby at_33) hr
  · show Q0 Z q s_EPOCH h0 n0 _ T5.heap _
    rw [eh5]
    exact ⟨rfl, N5⟩
set_option maxRecDepth 65536 in
set_option maxHeartbeats 40000000 in
theorem comes_1 {Post : Tables → Env → Array Value → State → Outcome → State → Prop} (hpost : ∀ tb e args s v u, (limb_1_1.after args s (.returned v) u = true ∧ limb_1_2.after args s (.returned v) u = true ∧ True) → FrameEnd s (.returned v) u (Jvm.fieldLocs frame_1_writes args s ++ Jvm.arrayLocs frame_1_arrays args s ++ Jvm.staticLocs frame_1_statics s) 16 128 → Post tb e args s (.returned v) u) :
    ArmFor flags0 classFile x code maxLocals ret World_1 tables_1 room_1 Calls_1 rest_1 Pre_1 Post := by
  intro l hfl _ _ p e ha hc hk s m args below hf hA hF happ hP
  obtain ⟨hcalls, hrest, hpre⟩ := hP
  obtain ⟨-, -, -, hnamed, -, -, -, hat⟩ := (Spec.applies_iff hf).mp happ
  obtain ⟨hg, hn⟩ := and_e (Cond.before_iff.mp (show (Jvm.Cond.and given_1 narrow_1).before args s = true from hpre))
  obtain ⟨g1, g2⟩ := and_e hg
  obtain ⟨w0, rfl⟩ : ∃ w0 : Value, args = #[w0] := by
    have hs : args.size = 1 := by simpa [Cond.value, given_1] using g1
    obtain ⟨L⟩ := args
    match L, hs with
    | [w0], _ => exact ⟨w0, rfl⟩
  have hw := fun d (hd : d ∈ tables_1) => atoms_spec (ws := Jvm.Cond.code x code maxLocals ret :: tables_1) hat d (List.mem_cons_of_mem _ hd)
  have hfit : Fit s := fun {y c} hc i hi => by
    obtain ⟨ha, rfl⟩ := Array.getElem?_eq_some_iff.mp hc
    have q := List.all_eq_true.mp ((Array.all_eq_true_iff_forall_mem.mp hF) _ (Array.getElem_mem ha)) i (List.mem_range.mpr hi)
    simpa [Array.getElem?_eq_getElem hi] using q
  obtain ⟨hsets, hown0⟩ := atoms_of _ (rest_1_c_eq ▸ (show rest_1_c.before _ s = true from hrest))
  have hr0 := Cond.before_iff.mp hown0
  obtain ⟨i0, ei0⟩ := isL_v g2
  obtain rfl : w0 = (.long i0) := Option.some.inj ei0
  obtain ⟨s_EPOCH, ev⟩ := exa_v (Cond.before_iff.mp (hsets _ (List.mem_of_getElem? (i := 2) rfl)))
  have E_EP := Exa.start ev (Cond.before_iff.mp (hsets _ (List.mem_of_getElem? (i := 2) rfl)))
  have S_s_EPOCH : Sta s s.heap "java/time/Instant" "EPOCH" "Ljava/time/Instant;" (.ref s_EPOCH) := Sta.start ev (Or.inl (hsets _ (List.mem_of_getElem? (i := 1) rfl)))
  have F_EPs : Fld s s.heap s_EPOCH "java/time/Instant" "seconds" "J" (.long (0 : Int64)) := Fld.start (own_fld ev (long_at 0) (Cond.before_iff.mp (hsets _ (List.mem_of_getElem? (i := 3) rfl))))
  have F_EPn : Fld s s.heap s_EPOCH "java/time/Instant" "nanos" "I" (.int (0 : Int32)) := Fld.start (own_fld ev (Term.int_eval 0) (Cond.before_iff.mp (hsets _ (List.mem_of_getElem? (i := 4) rfl))))
  obtain ⟨n, o, h1, h2, h3, _, L, rfl, ⟨rfl, N⟩, hq⟩ := rm0 l s _ hw tables_1 i0 s_EPOCH s.heap s.heap.size (Old.start s) S_s_EPOCH E_EP F_EPs F_EPn p e ha hc hk s m _ below hf ((Spec.applies_iff_loose hf).mp happ).1 ⟨rfl, State.Warmed39.refl s, rfl⟩ trivial
  refine ⟨n, _, h1, h2, h3, hpost _ _ _ _ _ _ ⟨Cond.after_iff.mpr rfl, Cond.after_iff.mpr (eq_i res_at (Term.int_eval (1)) rfl), trivial⟩ ⟨hq.1, hq.2.1, (hq.2.2.sift fun y hy => Or.inr (N y hy)).mono (by decide) (by decide)⟩⟩
theorem main_1_1 : Claimed_1_1 := comes_1 fun _ _ _ _ _ _ h hF => ⟨h.1, hF⟩
theorem main_1_2 : Claimed_1_2 := comes_1 fun _ _ _ _ _ _ h hF => ⟨h.2.1, hF⟩
end Jvm.Pilot.@@N@@
namespace Jvm.Pilot.@@N@@
open Jvm Jvm.ClassFile Sem Op Lib Jvm.Free Jvm.Stand Jvm.Pilot.@@N@@.Jvm.D
/-! MADE BY PROGRAM (witnessworld.py) out of the Statement's table words and the real class files: 15 classes; the members and pool entries that the words name. The judged class is class 1, her method 1. -/
namespace start1
open Jvm.ClassFile
def u (s : String) : CpInfo := .utf8 (stringToUtf16 s)
/-- a pool by its gaps: so many unusable entries, then the entry; so many at the end -/
def gap : Nat → List CpInfo → List CpInfo
  | 0, r => r
  | n + 1, r => .unusable :: gap n r
def poolList (es : List (Nat × CpInfo)) (last : Nat) : List CpInfo := es.foldr (fun e r => gap e.1 (e.2 :: r)) (gap last [])
def pool (es : List (Nat × CpInfo)) (last : Nat) : Array CpInfo := ⟨poolList es last⟩
def fileOf (pool : Array CpInfo) (this : Nat) (attrs : Array Attribute := #[]) (ms : Array MethodInfo := #[]) (fl : Nat := 33) (sup : Nat := 0) (ifs : Array Nat := #[]) (fds : Array FieldInfo := #[]) : ClassFile where
  minorVersion := 0
  majorVersion := 65
  constantPool := pool
  accessFlags := fl
  thisClass := this
  superClass := sup
  interfaces := ifs
  fields := fds
  methods := ms
  attributes := attrs
def plain (name : String) (sup : Option ClassId) : Class where
  name := name
  kind := .ordinary
  loader := none
  accessFlags := 33
  super := sup
  interfaces := #[]
  cf := none
  fields := #[]
  methods := #[]
  instanceTypes := #[]
  staticTypes := #[]
  resolved := #[]
  callSites := []
  init := .initialized
  statics := none
  mirror := none

def pool0 : Array CpInfo := pool [(5, u "<init>"), (0, u "()V"), (1, .class_ 10), (1, u "java/lang/Object")] 113

def k0c0 : Code := { maxStack := 0, maxLocals := 1, code := object_method_1_code, exceptionTable := #[], attributes := #[] }
def k0m0 : Method := { name := "<init>", desc := "()V", sig := { parameters := [], returnType := none }, accessFlags := 1, code := some k0c0 }
/-- java/lang/Object -/
def k0 : Class := { plain "java/lang/Object" none with
  accessFlags := 33
  interfaces := #[]
  cf := some (fileOf pool0 8 #[] #[{ accessFlags := 1, nameIndex := 5, descriptorIndex := 6, attributes := #[] }] 33 0 #[] #[])
  fields := #[]
  methods := #[k0m0]
  instanceTypes := #[]
  staticTypes := #[]
  resolved := Array.replicate 124 none
  statics := none }

def pool1 : Array CpInfo := pool [(2, .class_ 4), (1, u "java/lang/Object"), (0, u "<init>"), (0, u "()V"), (0, .class_ 8), (0, u "com/example/rolling_ledger/rollingledger/store/EpochNanosToInstantPinLaw"), (0, .long 9223372037709551616), (3, .long 9223372036854775808), (1, .methodref 16 17), (0, .class_ 18), (0, .nameAndType 19 20), (0, u "com/example/rolling_ledger/rollingledger/store/EpochNanos"), (0, u "toInstant"), (0, u "(J)Ljava/time/Instant;"), (0, .methodref 16 22), (0, .nameAndType 23 24), (0, u "of"), (0, u "(Ljava/time/Instant;)J"), (0, u "LOW"), (0, u "J"), (3, u "law"), (0, u "(J)Z")] 3

def k1m0 : Method := { name := "<init>", desc := "()V", sig := { parameters := [], returnType := none }, accessFlags := 2, code := none }
def k1c1 : Code := { maxStack := 4, maxLocals := 4, code := code, exceptionTable := #[], attributes := #[] }
def k1m1 : Method := { name := "law", desc := "(J)Z", sig := { parameters := [.long], returnType := some .boolean }, accessFlags := 9, code := some k1c1 }
/-- com/example/rolling_ledger/rollingledger/store/EpochNanosToInstantPinLaw -/
def k1 : Class := { plain "com/example/rolling_ledger/rollingledger/store/EpochNanosToInstantPinLaw" (some 0) with
  accessFlags := 49
  interfaces := #[]
  cf := some (fileOf pool1 7 #[] #[{ accessFlags := 2, nameIndex := 5, descriptorIndex := 6, attributes := #[] }, { accessFlags := 9, nameIndex := 30, descriptorIndex := 31, attributes := #[] }] 49 2 #[] #[{ accessFlags := 26, nameIndex := 25, descriptorIndex := 26, attributes := #[] }])
  fields := #[{ name := "LOW", type := .long, accessFlags := 26, slot := 0, constantValue := 0 }]
  methods := #[k1m0, k1m1]
  instanceTypes := #[]
  staticTypes := #[.long]
  resolved := Array.replicate 35 none
  statics := none }

def pool2 : Array CpInfo := pool [(2, .class_ 4), (1, u "java/lang/Object"), (0, u "<init>"), (0, u "()V"), (0, .methodref 8 9), (0, .class_ 10), (0, .nameAndType 11 12), (0, u "java/time/Instant"), (0, u "getEpochSecond"), (0, u "()J"), (0, .class_ 14), (0, u "com/example/rolling_ledger/rollingledger/store/EpochNanos"), (0, .long 1000000000), (1, .methodref 18 19), (0, .class_ 20), (0, .nameAndType 21 22), (0, u "java/lang/Math"), (0, u "multiplyExact"), (0, u "(JJ)J"), (0, .methodref 8 24), (0, .nameAndType 25 26), (0, u "getNano"), (0, u "()I"), (0, .methodref 18 28), (0, .nameAndType 29 22), (0, u "addExact"), (0, .methodref 18 31), (0, .nameAndType 32 22), (0, u "floorDiv"), (0, .methodref 18 34), (0, .nameAndType 35 22), (0, u "floorMod"), (0, .methodref 8 37), (0, .nameAndType 38 39), (0, u "ofEpochSecond"), (0, u "(JJ)Ljava/time/Instant;"), (0, u "PER_SECOND"), (0, u "J"), (3, u "of"), (0, u "(Ljava/time/Instant;)J"), (0, u "toInstant"), (0, u "(J)Ljava/time/Instant;")] 2

def k2m0 : Method := { name := "<init>", desc := "()V", sig := { parameters := [], returnType := none }, accessFlags := 2, code := none }
def k2c1 : Code := { maxStack := 4, maxLocals := 1, code := prog_13_method_2_code, exceptionTable := #[], attributes := #[] }
def k2m1 : Method := { name := "of", desc := "(Ljava/time/Instant;)J", sig := { parameters := [(.object "java/time/Instant")], returnType := some .long }, accessFlags := 8, code := some k2c1 }
def k2c2 : Code := { maxStack := 6, maxLocals := 2, code := prog_13_method_3_code, exceptionTable := #[], attributes := #[] }
def k2m2 : Method := { name := "toInstant", desc := "(J)Ljava/time/Instant;", sig := { parameters := [.long], returnType := some (.object "java/time/Instant") }, accessFlags := 8, code := some k2c2 }
/-- com/example/rolling_ledger/rollingledger/store/EpochNanos -/
def k2 : Class := { plain "com/example/rolling_ledger/rollingledger/store/EpochNanos" (some 0) with
  accessFlags := 48
  interfaces := #[]
  cf := some (fileOf pool2 13 #[] #[{ accessFlags := 2, nameIndex := 5, descriptorIndex := 6, attributes := #[] }, { accessFlags := 8, nameIndex := 45, descriptorIndex := 46, attributes := #[] }, { accessFlags := 8, nameIndex := 47, descriptorIndex := 48, attributes := #[] }] 48 2 #[] #[{ accessFlags := 26, nameIndex := 40, descriptorIndex := 41, attributes := #[] }])
  fields := #[{ name := "PER_SECOND", type := .long, accessFlags := 26, slot := 0, constantValue := 0 }]
  methods := #[k2m0, k2m1, k2m2]
  instanceTypes := #[]
  staticTypes := #[.long]
  resolved := Array.replicate 51 none
  statics := none }

def pool3 : Array CpInfo := pool [(1, .class_ 2), (0, u "java/lang/Math"), (1, .class_ 6), (1, u "java/lang/Object"), (0, u "<init>"), (0, u "()V"), (89, .class_ 100), (1, u "java/lang/Math$RandomNumberGeneratorHolder"), (19, u "multiplyExact"), (0, u "(JJ)J"), (0, .methodref 1 123), (0, .nameAndType 124 125), (0, u "abs"), (0, u "(J)J"), (2, .long 9223372036854775808), (16, u "floorDiv"), (2, u "floorMod"), (23, u "negativeZeroFloatBits"), (0, u "J"), (2, u "negativeZeroDoubleBits"), (68, u "$assertionsDisabled"), (0, u "Z"), (91, u "twoToTheDoubleScaleDown"), (0, u "D"), (4, u "twoToTheDoubleScaleUp"), (9, u "E"), (3, u "PI"), (2, u "TAU"), (2, u "DEGREES_TO_RADIANS"), (0, u "RADIANS_TO_DEGREES"), (27, u "addExact")] 66

def k3m0 : Method := { name := "<init>", desc := "()V", sig := { parameters := [], returnType := none }, accessFlags := 2, code := none }
def k3c1 : Code := { maxStack := 6, maxLocals := 6, code := jdk_29_method_25_code, exceptionTable := #[], attributes := #[] }
def k3m1 : Method := { name := "addExact", desc := "(JJ)J", sig := { parameters := [.long, .long], returnType := some .long }, accessFlags := 9, code := some k3c1 }
def k3c2 : Code := { maxStack := 4, maxLocals := 10, code := jdk_29_method_30_code, exceptionTable := #[], attributes := #[] }
def k3m2 : Method := { name := "multiplyExact", desc := "(JJ)J", sig := { parameters := [.long, .long], returnType := some .long }, accessFlags := 9, code := some k3c2 }
def k3c3 : Code := { maxStack := 4, maxLocals := 6, code := jdk_29_method_49_code, exceptionTable := #[], attributes := #[] }
def k3m3 : Method := { name := "floorDiv", desc := "(JJ)J", sig := { parameters := [.long, .long], returnType := some .long }, accessFlags := 9, code := some k3c3 }
def k3c4 : Code := { maxStack := 4, maxLocals := 6, code := jdk_29_method_52_code, exceptionTable := #[], attributes := #[] }
def k3m4 : Method := { name := "floorMod", desc := "(JJ)J", sig := { parameters := [.long, .long], returnType := some .long }, accessFlags := 9, code := some k3c4 }
def k3c5 : Code := { maxStack := 4, maxLocals := 2, code := jdk_29_method_61_code, exceptionTable := #[], attributes := #[] }
def k3m5 : Method := { name := "abs", desc := "(J)J", sig := { parameters := [.long], returnType := some .long }, accessFlags := 9, code := some k3c5 }
/-- java/lang/Math -/
def k3 : Class := { plain "java/lang/Math" (some 0) with
  accessFlags := 49
  interfaces := #[]
  cf := some (fileOf pool3 1 #[.nestMembers #[98]] #[{ accessFlags := 2, nameIndex := 7, descriptorIndex := 8, attributes := #[] }, { accessFlags := 9, nameIndex := 393, descriptorIndex := 121, attributes := #[] }, { accessFlags := 9, nameIndex := 120, descriptorIndex := 121, attributes := #[] }, { accessFlags := 9, nameIndex := 145, descriptorIndex := 121, attributes := #[] }, { accessFlags := 9, nameIndex := 148, descriptorIndex := 121, attributes := #[] }, { accessFlags := 9, nameIndex := 124, descriptorIndex := 125, attributes := #[] }] 49 4 #[] #[{ accessFlags := 25, nameIndex := 354, descriptorIndex := 339, attributes := #[] }, { accessFlags := 25, nameIndex := 358, descriptorIndex := 339, attributes := #[] }, { accessFlags := 25, nameIndex := 361, descriptorIndex := 339, attributes := #[] }, { accessFlags := 26, nameIndex := 364, descriptorIndex := 339, attributes := #[] }, { accessFlags := 26, nameIndex := 365, descriptorIndex := 339, attributes := #[] }, { accessFlags := 26, nameIndex := 172, descriptorIndex := 173, attributes := #[] }, { accessFlags := 26, nameIndex := 176, descriptorIndex := 173, attributes := #[] }, { accessFlags := 8, nameIndex := 344, descriptorIndex := 339, attributes := #[] }, { accessFlags := 8, nameIndex := 338, descriptorIndex := 339, attributes := #[] }, { accessFlags := 4120, nameIndex := 245, descriptorIndex := 246, attributes := #[] }])
  fields := #[{ name := "E", type := .double, accessFlags := 25, slot := 0, constantValue := 0 }, { name := "PI", type := .double, accessFlags := 25, slot := 1, constantValue := 0 }, { name := "TAU", type := .double, accessFlags := 25, slot := 2, constantValue := 0 }, { name := "DEGREES_TO_RADIANS", type := .double, accessFlags := 26, slot := 3, constantValue := 0 }, { name := "RADIANS_TO_DEGREES", type := .double, accessFlags := 26, slot := 4, constantValue := 0 }, { name := "negativeZeroFloatBits", type := .long, accessFlags := 26, slot := 5, constantValue := 0 }, { name := "negativeZeroDoubleBits", type := .long, accessFlags := 26, slot := 6, constantValue := 0 }, { name := "twoToTheDoubleScaleUp", type := .double, accessFlags := 8, slot := 7, constantValue := 0 }, { name := "twoToTheDoubleScaleDown", type := .double, accessFlags := 8, slot := 8, constantValue := 0 }, { name := "$assertionsDisabled", type := .boolean, accessFlags := 4120, slot := 9, constantValue := 0 }]
  methods := #[k3m0, k3m1, k3m2, k3m3, k3m4, k3m5]
  instanceTypes := #[]
  staticTypes := #[.double, .double, .double, .double, .double, .long, .long, .double, .double, .boolean]
  resolved := Array.replicate 460 none
  statics := none }

def pool4 : Array CpInfo := pool [(4, .class_ 6), (1, u "java/time/temporal/TemporalAccessor"), (95, .class_ 103), (0, u "java/lang/Object")] 21

/-- java/time/temporal/TemporalAccessor -/
def k4 : Class := { plain "java/time/temporal/TemporalAccessor" (some 0) with
  accessFlags := 1537
  interfaces := #[]
  cf := some (fileOf pool4 4 #[] #[] 1537 102 #[] #[])
  fields := #[]
  methods := #[]
  instanceTypes := #[]
  staticTypes := #[]
  resolved := Array.replicate 125 none
  statics := none }

def pool5 : Array CpInfo := pool [(22, .class_ 24), (1, u "java/time/temporal/Temporal"), (2, .class_ 28), (0, u "java/lang/Object"), (0, .class_ 30), (0, u "java/time/temporal/TemporalAccessor")] 25

/-- java/time/temporal/Temporal -/
def k5 : Class := { plain "java/time/temporal/Temporal" (some 0) with
  accessFlags := 1537
  interfaces := #[4]
  cf := some (fileOf pool5 22 #[] #[] 1537 27 #[29] #[])
  fields := #[]
  methods := #[]
  instanceTypes := #[]
  staticTypes := #[]
  resolved := Array.replicate 56 none
  statics := none }

def pool6 : Array CpInfo := pool [(1, .class_ 2), (0, u "java/time/temporal/TemporalAdjuster"), (0, .class_ 4), (0, u "java/lang/Object")] 6

/-- java/time/temporal/TemporalAdjuster -/
def k6 : Class := { plain "java/time/temporal/TemporalAdjuster" (some 0) with
  accessFlags := 1537
  interfaces := #[]
  cf := some (fileOf pool6 1 #[] #[] 1537 3 #[] #[])
  fields := #[]
  methods := #[]
  instanceTypes := #[]
  staticTypes := #[]
  resolved := Array.replicate 11 none
  statics := none }

def pool7 : Array CpInfo := pool [(1, .class_ 2), (0, u "java/lang/Comparable"), (0, .class_ 4), (0, u "java/lang/Object")] 7

/-- java/lang/Comparable -/
def k7 : Class := { plain "java/lang/Comparable" (some 0) with
  accessFlags := 1537
  interfaces := #[]
  cf := some (fileOf pool7 1 #[] #[] 1537 3 #[] #[])
  fields := #[]
  methods := #[]
  instanceTypes := #[]
  staticTypes := #[]
  resolved := Array.replicate 12 none
  statics := none }

def pool8 : Array CpInfo := pool [(1, .class_ 2), (0, u "java/io/Serializable"), (0, .class_ 4), (0, u "java/lang/Object")] 2

/-- java/io/Serializable -/
def k8 : Class := { plain "java/io/Serializable" (some 0) with
  accessFlags := 1537
  interfaces := #[]
  cf := some (fileOf pool8 1 #[] #[] 1537 3 #[] #[])
  fields := #[]
  methods := #[]
  instanceTypes := #[]
  staticTypes := #[]
  resolved := Array.replicate 7 none
  statics := none }

def pool9 : Array CpInfo := pool [(20, .methodref 21 22), (0, .class_ 23), (0, .nameAndType 24 25), (0, u "java/time/Instant"), (0, u "create"), (0, u "(JI)Ljava/time/Instant;"), (0, .long 1000000000), (1, .methodref 29 30), (0, .class_ 31), (0, .nameAndType 32 33), (0, u "java/lang/Math"), (0, u "floorDiv"), (0, u "(JJ)J"), (0, .methodref 29 35), (0, .nameAndType 36 33), (0, u "addExact"), (0, .methodref 29 38), (0, .nameAndType 39 33), (0, u "floorMod"), (30, u "ofEpochSecond"), (0, u "(JJ)Ljava/time/Instant;"), (5, .nameAndType 78 79), (0, u "<init>"), (0, u "()V"), (41, .fieldref 21 122), (0, .nameAndType 123 124), (0, u "EPOCH"), (0, u "Ljava/time/Instant;"), (0, .long 18415187059542332416), (1, .long 31556889864403199), (6, .methodref 21 135), (0, .nameAndType 78 136), (0, u "(JI)V"), (0, .methodref 138 77), (0, .class_ 139), (0, u "java/lang/Object"), (0, .fieldref 21 141), (0, .nameAndType 142 143), (0, u "seconds"), (0, u "J"), (0, .fieldref 21 145), (0, .nameAndType 146 147), (0, u "nanos"), (0, u "I"), (28, .class_ 178), (1, u "java/time/temporal/Temporal"), (3, .class_ 184), (1, u "java/time/Instant$1"), (5, u "()I"), (17, .class_ 210), (1, u "java/time/temporal/TemporalAdjuster"), (21, u "()J"), (190, u "MIN"), (4, u "MAX"), (0, .class_ 430), (0, u "java/lang/Comparable"), (0, .class_ 432), (0, u "java/io/Serializable"), (0, u "MIN_SECOND"), (1, u "MAX_SECOND"), (0, u "serialVersionUID"), (33, u "getEpochSecond"), (0, u "getNano")] 107

def k9c0 : Code := { maxStack := 6, maxLocals := 7, code := jdk_2320_method_4_code, exceptionTable := #[], attributes := #[] }
def k9m0 : Method := { name := "ofEpochSecond", desc := "(JJ)Ljava/time/Instant;", sig := { parameters := [.long, .long], returnType := some (.object "java/time/Instant") }, accessFlags := 9, code := some k9c0 }
def k9c1 : Code := { maxStack := 5, maxLocals := 3, code := jdk_2320_method_8_code, exceptionTable := #[], attributes := #[] }
def k9m1 : Method := { name := "create", desc := "(JI)Ljava/time/Instant;", sig := { parameters := [.long, .int], returnType := some (.object "java/time/Instant") }, accessFlags := 10, code := some k9c1 }
def k9c2 : Code := { maxStack := 3, maxLocals := 4, code := jdk_2320_method_9_code, exceptionTable := #[], attributes := #[] }
def k9m2 : Method := { name := "<init>", desc := "(JI)V", sig := { parameters := [.long, .int], returnType := none }, accessFlags := 2, code := some k9c2 }
def k9c3 : Code := { maxStack := 2, maxLocals := 1, code := jdk_2320_method_15_code, exceptionTable := #[], attributes := #[] }
def k9m3 : Method := { name := "getEpochSecond", desc := "()J", sig := { parameters := [], returnType := some .long }, accessFlags := 1, code := some k9c3 }
def k9c4 : Code := { maxStack := 1, maxLocals := 1, code := jdk_2320_method_16_code, exceptionTable := #[], attributes := #[] }
def k9m4 : Method := { name := "getNano", desc := "()I", sig := { parameters := [], returnType := some .int }, accessFlags := 1, code := some k9c4 }
/-- java/time/Instant -/
def k9 : Class := { plain "java/time/Instant" (some 0) with
  accessFlags := 49
  interfaces := #[5, 6, 7, 8]
  cf := some (fileOf pool9 21 #[.nestMembers #[182]] #[{ accessFlags := 9, nameIndex := 70, descriptorIndex := 71, attributes := #[] }, { accessFlags := 10, nameIndex := 24, descriptorIndex := 25, attributes := #[] }, { accessFlags := 2, nameIndex := 78, descriptorIndex := 136, attributes := #[] }, { accessFlags := 1, nameIndex := 470, descriptorIndex := 232, attributes := #[] }, { accessFlags := 1, nameIndex := 471, descriptorIndex := 190, attributes := #[] }] 49 138 #[176, 208, 429, 431] #[{ accessFlags := 25, nameIndex := 123, descriptorIndex := 124, attributes := #[] }, { accessFlags := 26, nameIndex := 433, descriptorIndex := 143, attributes := #[] }, { accessFlags := 26, nameIndex := 435, descriptorIndex := 143, attributes := #[] }, { accessFlags := 25, nameIndex := 423, descriptorIndex := 124, attributes := #[] }, { accessFlags := 25, nameIndex := 428, descriptorIndex := 124, attributes := #[] }, { accessFlags := 26, nameIndex := 436, descriptorIndex := 143, attributes := #[] }, { accessFlags := 18, nameIndex := 142, descriptorIndex := 143, attributes := #[] }, { accessFlags := 18, nameIndex := 146, descriptorIndex := 147, attributes := #[] }])
  fields := #[{ name := "EPOCH", type := (.object "java/time/Instant"), accessFlags := 25, slot := 0, constantValue := 0 }, { name := "MIN_SECOND", type := .long, accessFlags := 26, slot := 1, constantValue := 0 }, { name := "MAX_SECOND", type := .long, accessFlags := 26, slot := 2, constantValue := 0 }, { name := "MIN", type := (.object "java/time/Instant"), accessFlags := 25, slot := 3, constantValue := 0 }, { name := "MAX", type := (.object "java/time/Instant"), accessFlags := 25, slot := 4, constantValue := 0 }, { name := "serialVersionUID", type := .long, accessFlags := 26, slot := 5, constantValue := 0 }, { name := "seconds", type := .long, accessFlags := 18, slot := 0, constantValue := 0 }, { name := "nanos", type := .int, accessFlags := 18, slot := 1, constantValue := 0 }]
  methods := #[k9m0, k9m1, k9m2, k9m3, k9m4]
  instanceTypes := #[.long, .int]
  staticTypes := #[(.object "java/time/Instant"), .long, .long, (.object "java/time/Instant"), (.object "java/time/Instant"), .long]
  resolved := Array.replicate 579 none
  statics := some 0 }

def pool10 : Array CpInfo := pool [(1, u "java/lang/Cloneable"), (0, .class_ 1), (0, u "java/lang/Object"), (0, .class_ 3)] 3

/-- java/lang/Cloneable -/
def k10 : Class := { plain "java/lang/Cloneable" (some 0) with
  accessFlags := 1537
  interfaces := #[]
  cf := some (fileOf pool10 2 #[] #[] 1537 4 #[] #[])
  fields := #[]
  methods := #[]
  instanceTypes := #[]
  staticTypes := #[]
  resolved := Array.replicate 8 none
  statics := none }

/-- the primitive byte -/
def k11 : Class := { plain "byte" none with kind := .primitive 'B', accessFlags := 0x411 }
/-- [B -/
def k12 : Class := { plain "[B" (some 0) with kind := .array 11 .byte, interfaces := #[10, 8], accessFlags := 1041 }

/-- the primitive int -/
def k13 : Class := { plain "int" none with kind := .primitive 'I', accessFlags := 0x411 }
/-- [I -/
def k14 : Class := { plain "[I" (some 0) with kind := .array 13 .int, interfaces := #[10, 8], accessFlags := 1041 }

def heap : Heap := #[{ cls := 9, slots := #[.ref 1, .long 0, .long 0, .null, .null, .long 0], vm := .statics 9 },
  { cls := 9, slots := #[.long 0, .int 0], vm := .none }]
def classes : Array Class := #[k0, k1, k2, k3, k4, k5, k6, k7, k8, k9, k10, k11, k12, k13, k14]
def interned : List (Array UInt16 × Addr) := []
def slotsUsed : Nat := 8
def theMethod : MethodId := ⟨1, 1⟩
def args0 : Array Value := #[.long 1234567890123]
def aboutOver (below : List Frame) : State where
  vm := { classes := classes, interned := interned.toArray }
  heap := heap
  slotsUsed := slotsUsed
  threads := #[{ frames := .invoking theMethod args0 :: below }]
def below0 : List Frame := [.native { method := ⟨0, 0⟩, args := #[] }]
def about1 : State := aboutOver below0
def p0 : Program := .bare "" "" ""
def e0 : Env := launch0.env 0 0 0
theorem w_frames : about1.frames = Frame.invoking theMethod args0 :: below0 := rfl
set_option maxRecDepth 65536 in
theorem w_args : argsFit about1.vm theMethod args0 = true := by decide +kernel
set_option maxRecDepth 65536 in
theorem w_heap : heapFits about1 = true := by decide +kernel
set_option maxRecDepth 65536 in
theorem w_runnable : about1.curStatus? = some .runnable := by decide +kernel
set_option maxRecDepth 65536 in
theorem w_alone : about1.alone = true := by decide +kernel
set_option maxRecDepth 65536 in
theorem w_named : about1.methodNamed? x = some theMethod := by decide +kernel
set_option maxRecDepth 65536 in
theorem w_hears : about1.hears theMethod below0 = true := by decide +kernel
set_option maxRecDepth 65536 in
theorem w_ripe : about1.ripe theMethod args0 below0 = true := by decide +kernel
theorem w_running : about1.status = .running := rfl
set_option maxRecDepth 65536 in
theorem w_room : about1.hasRoom e0.platform room_1 = true :=
  launch0.hasRoom_least _ room_1 (by decide +kernel) (by decide +kernel) (by decide +kernel) (by decide +kernel) (by decide +kernel) (by decide +kernel)
theorem allAtoms_all (ts : List Jvm.Cond) (a : Array Jvm.Value) (st : Jvm.State) : (allAtoms ts).before a st = ts.all (fun c => c.before a st) := by
  induction ts with
  | nil => rfl
  | cons c t ih =>
    show (Jvm.Cond.and c (allAtoms t)).before a st = _
    rw [Jvm.Cond.before_and, ih, List.all_cons]
def words1 : List Jvm.Cond := Jvm.Cond.code x code maxLocals ret :: tables_1
/-- a 'code' word, met by the world's own term for the bytes: nothing is compared byte by byte -/
theorem code_word {y : MethodName} {bytes : ByteArray} {mx : Nat} {rt : Option FieldType} {a : Array Value} {s : State} {m : MethodId} {meth : Method} {c : Code} (h1 : s.methodNamed? y = some m) (h2 : s.vm.method? m = some meth) (h3 : meth.code = some c) (h4 : c.code = bytes)
    (h5 : (c.maxLocals == mx && c.exceptionTable.isEmpty && decide (c.maxStack ≤ mostOperands) && decide (meth.sig.returnType = rt) && !meth.locks && decide (parseMethodDescriptor y.desc = some meth.sig)) = true) : (Jvm.Cond.code y bytes mx rt).before a s = true := by
  simp only [Bool.and_eq_true, beq_iff_eq, Bool.not_eq_true', decide_eq_true_eq] at h5
  obtain ⟨⟨⟨⟨⟨g1, g2⟩, g3⟩, g4⟩, g5⟩, g6⟩ := h5
  simp [Cond.before, Cond.holds, Cond.value, h1, h2, h3, h4, g1, g2, g3, g4, g5, g6]
def isCode : Jvm.Cond → Bool
  | .code _ _ _ _ => true
  | _ => false
theorem all_split {L : List Jvm.Cond} {P : Jvm.Cond → Bool} (h1 : L.all (fun c => isCode c || P c) = true) (h2 : ∀ c ∈ L.filter isCode, P c = true) : L.all P = true := by
  refine List.all_eq_true.mpr fun c hc => ?_
  have h := List.all_eq_true.mp h1 c hc
  rcases Bool.eq_false_or_eq_true (isCode c) with hi | hi
  · exact h2 c (List.mem_filter.mpr ⟨hc, hi⟩)
  · simpa [hi] using h
set_option maxRecDepth 65536 in
theorem w_c0 : (Jvm.Cond.code x code maxLocals ret).before args0 about1 = true := code_word (m := ⟨1, 1⟩) (meth := k1m1) (c := k1c1) (by decide +kernel) rfl rfl rfl (by decide +kernel)
set_option maxRecDepth 65536 in
theorem w_c1 : (Jvm.Cond.code ({ cls := "com/example/rolling_ledger/rollingledger/store/EpochNanos", name := "toInstant", desc := "(J)Ljava/time/Instant;" } : Jvm.MethodName) prog_13_method_3_code (2 : Nat) (Option.some (Jvm.ClassFile.FieldType.object "java/time/Instant"))).before args0 about1 = true := code_word (m := ⟨2, 2⟩) (meth := k2m2) (c := k2c2) (by decide +kernel) rfl rfl rfl (by decide +kernel)
set_option maxRecDepth 65536 in
theorem w_c2 : (Jvm.Cond.code ({ cls := "java/lang/Math", name := "floorDiv", desc := "(JJ)J" } : Jvm.MethodName) jdk_29_method_49_code (6 : Nat) (Option.some Jvm.ClassFile.FieldType.long)).before args0 about1 = true := code_word (m := ⟨3, 3⟩) (meth := k3m3) (c := k3c3) (by decide +kernel) rfl rfl rfl (by decide +kernel)
set_option maxRecDepth 65536 in
theorem w_c3 : (Jvm.Cond.code ({ cls := "java/lang/Math", name := "floorMod", desc := "(JJ)J" } : Jvm.MethodName) jdk_29_method_52_code (6 : Nat) (Option.some Jvm.ClassFile.FieldType.long)).before args0 about1 = true := code_word (m := ⟨3, 4⟩) (meth := k3m4) (c := k3c4) (by decide +kernel) rfl rfl rfl (by decide +kernel)
set_option maxRecDepth 65536 in
theorem w_c4 : (Jvm.Cond.code ({ cls := "java/time/Instant", name := "ofEpochSecond", desc := "(JJ)Ljava/time/Instant;" } : Jvm.MethodName) jdk_2320_method_4_code (7 : Nat) (Option.some (Jvm.ClassFile.FieldType.object "java/time/Instant"))).before args0 about1 = true := code_word (m := ⟨9, 0⟩) (meth := k9m0) (c := k9c0) (by decide +kernel) rfl rfl rfl (by decide +kernel)
set_option maxRecDepth 65536 in
theorem w_c5 : (Jvm.Cond.code ({ cls := "java/lang/Math", name := "addExact", desc := "(JJ)J" } : Jvm.MethodName) jdk_29_method_25_code (6 : Nat) (Option.some Jvm.ClassFile.FieldType.long)).before args0 about1 = true := code_word (m := ⟨3, 1⟩) (meth := k3m1) (c := k3c1) (by decide +kernel) rfl rfl rfl (by decide +kernel)
set_option maxRecDepth 65536 in
theorem w_c6 : (Jvm.Cond.code ({ cls := "java/time/Instant", name := "create", desc := "(JI)Ljava/time/Instant;" } : Jvm.MethodName) jdk_2320_method_8_code (3 : Nat) (Option.some (Jvm.ClassFile.FieldType.object "java/time/Instant"))).before args0 about1 = true := code_word (m := ⟨9, 1⟩) (meth := k9m1) (c := k9c1) (by decide +kernel) rfl rfl rfl (by decide +kernel)
set_option maxRecDepth 65536 in
theorem w_c7 : (Jvm.Cond.code ({ cls := "java/time/Instant", name := "<init>", desc := "(JI)V" } : Jvm.MethodName) jdk_2320_method_9_code (4 : Nat) (Option.none : Option Jvm.ClassFile.FieldType)).before args0 about1 = true := code_word (m := ⟨9, 2⟩) (meth := k9m2) (c := k9c2) (by decide +kernel) rfl rfl rfl (by decide +kernel)
set_option maxRecDepth 65536 in
theorem w_c8 : (Jvm.Cond.code ({ cls := "java/lang/Object", name := "<init>", desc := "()V" } : Jvm.MethodName) object_method_1_code (1 : Nat) (Option.none : Option Jvm.ClassFile.FieldType)).before args0 about1 = true := code_word (m := ⟨0, 0⟩) (meth := k0m0) (c := k0c0) (by decide +kernel) rfl rfl rfl (by decide +kernel)
set_option maxRecDepth 65536 in
theorem w_c9 : (Jvm.Cond.code ({ cls := "com/example/rolling_ledger/rollingledger/store/EpochNanos", name := "of", desc := "(Ljava/time/Instant;)J" } : Jvm.MethodName) prog_13_method_2_code (1 : Nat) (Option.some Jvm.ClassFile.FieldType.long)).before args0 about1 = true := code_word (m := ⟨2, 1⟩) (meth := k2m1) (c := k2c1) (by decide +kernel) rfl rfl rfl (by decide +kernel)
set_option maxRecDepth 65536 in
theorem w_c10 : (Jvm.Cond.code ({ cls := "java/time/Instant", name := "getEpochSecond", desc := "()J" } : Jvm.MethodName) jdk_2320_method_15_code (1 : Nat) (Option.some Jvm.ClassFile.FieldType.long)).before args0 about1 = true := code_word (m := ⟨9, 3⟩) (meth := k9m3) (c := k9c3) (by decide +kernel) rfl rfl rfl (by decide +kernel)
set_option maxRecDepth 65536 in
theorem w_c11 : (Jvm.Cond.code ({ cls := "java/lang/Math", name := "multiplyExact", desc := "(JJ)J" } : Jvm.MethodName) jdk_29_method_30_code (10 : Nat) (Option.some Jvm.ClassFile.FieldType.long)).before args0 about1 = true := code_word (m := ⟨3, 2⟩) (meth := k3m2) (c := k3c2) (by decide +kernel) rfl rfl rfl (by decide +kernel)
set_option maxRecDepth 65536 in
theorem w_c12 : (Jvm.Cond.code ({ cls := "java/lang/Math", name := "abs", desc := "(J)J" } : Jvm.MethodName) jdk_29_method_61_code (2 : Nat) (Option.some Jvm.ClassFile.FieldType.long)).before args0 about1 = true := code_word (m := ⟨3, 5⟩) (meth := k3m5) (c := k3c5) (by decide +kernel) rfl rfl rfl (by decide +kernel)
set_option maxRecDepth 65536 in
theorem w_c13 : (Jvm.Cond.code ({ cls := "java/time/Instant", name := "getNano", desc := "()I" } : Jvm.MethodName) jdk_2320_method_16_code (1 : Nat) (Option.some Jvm.ClassFile.FieldType.int)).before args0 about1 = true := code_word (m := ⟨9, 4⟩) (meth := k9m4) (c := k9c4) (by decide +kernel) rfl rfl rfl (by decide +kernel)
def codes1 : List Jvm.Cond := [Jvm.Cond.code x code maxLocals ret, Jvm.Cond.code ({ cls := "com/example/rolling_ledger/rollingledger/store/EpochNanos", name := "toInstant", desc := "(J)Ljava/time/Instant;" } : Jvm.MethodName) prog_13_method_3_code (2 : Nat) (Option.some (Jvm.ClassFile.FieldType.object "java/time/Instant")), Jvm.Cond.code ({ cls := "java/lang/Math", name := "floorDiv", desc := "(JJ)J" } : Jvm.MethodName) jdk_29_method_49_code (6 : Nat) (Option.some Jvm.ClassFile.FieldType.long), Jvm.Cond.code ({ cls := "java/lang/Math", name := "floorMod", desc := "(JJ)J" } : Jvm.MethodName) jdk_29_method_52_code (6 : Nat) (Option.some Jvm.ClassFile.FieldType.long), Jvm.Cond.code ({ cls := "java/time/Instant", name := "ofEpochSecond", desc := "(JJ)Ljava/time/Instant;" } : Jvm.MethodName) jdk_2320_method_4_code (7 : Nat) (Option.some (Jvm.ClassFile.FieldType.object "java/time/Instant")), Jvm.Cond.code ({ cls := "java/lang/Math", name := "addExact", desc := "(JJ)J" } : Jvm.MethodName) jdk_29_method_25_code (6 : Nat) (Option.some Jvm.ClassFile.FieldType.long), Jvm.Cond.code ({ cls := "java/time/Instant", name := "create", desc := "(JI)Ljava/time/Instant;" } : Jvm.MethodName) jdk_2320_method_8_code (3 : Nat) (Option.some (Jvm.ClassFile.FieldType.object "java/time/Instant")), Jvm.Cond.code ({ cls := "java/time/Instant", name := "<init>", desc := "(JI)V" } : Jvm.MethodName) jdk_2320_method_9_code (4 : Nat) (Option.none : Option Jvm.ClassFile.FieldType), Jvm.Cond.code ({ cls := "java/lang/Object", name := "<init>", desc := "()V" } : Jvm.MethodName) object_method_1_code (1 : Nat) (Option.none : Option Jvm.ClassFile.FieldType), Jvm.Cond.code ({ cls := "com/example/rolling_ledger/rollingledger/store/EpochNanos", name := "of", desc := "(Ljava/time/Instant;)J" } : Jvm.MethodName) prog_13_method_2_code (1 : Nat) (Option.some Jvm.ClassFile.FieldType.long), Jvm.Cond.code ({ cls := "java/time/Instant", name := "getEpochSecond", desc := "()J" } : Jvm.MethodName) jdk_2320_method_15_code (1 : Nat) (Option.some Jvm.ClassFile.FieldType.long), Jvm.Cond.code ({ cls := "java/lang/Math", name := "multiplyExact", desc := "(JJ)J" } : Jvm.MethodName) jdk_29_method_30_code (10 : Nat) (Option.some Jvm.ClassFile.FieldType.long), Jvm.Cond.code ({ cls := "java/lang/Math", name := "abs", desc := "(J)J" } : Jvm.MethodName) jdk_29_method_61_code (2 : Nat) (Option.some Jvm.ClassFile.FieldType.long), Jvm.Cond.code ({ cls := "java/time/Instant", name := "getNano", desc := "()I" } : Jvm.MethodName) jdk_2320_method_16_code (1 : Nat) (Option.some Jvm.ClassFile.FieldType.int)]
set_option maxRecDepth 65536 in
theorem codes_eq : words1.filter isCode = codes1 := rfl
theorem w_codes : ∀ c ∈ words1.filter isCode, c.before args0 about1 = true := by
  rw [codes_eq]
  intro c hc
  simp only [codes1, List.mem_cons, List.not_mem_nil, or_false] at hc
  rcases hc with rfl | rfl | rfl | rfl | rfl | rfl | rfl | rfl | rfl | rfl | rfl | rfl | rfl | rfl
  · exact w_c0
  · exact w_c1
  · exact w_c2
  · exact w_c3
  · exact w_c4
  · exact w_c5
  · exact w_c6
  · exact w_c7
  · exact w_c8
  · exact w_c9
  · exact w_c10
  · exact w_c11
  · exact w_c12
  · exact w_c13
set_option maxRecDepth 65536 in
theorem w_t1 : (words1.take 24).all (fun c => isCode c || c.before args0 about1) = true := by decide +kernel
set_option maxRecDepth 65536 in
theorem w_t2 : ((words1.drop 24).take 24).all (fun c => isCode c || c.before args0 about1) = true := by decide +kernel
set_option maxRecDepth 65536 in
theorem w_t3 : ((words1.drop 24).drop 24).all (fun c => isCode c || c.before args0 about1) = true := by decide +kernel
theorem w_tables : (allAtoms (Jvm.Cond.code x code maxLocals ret :: tables_1)).before args0 about1 = true := by
  rw [allAtoms_all]
  show words1.all (fun c => c.before args0 about1) = true
  refine all_split ?_ w_codes
  rw [← List.take_append_drop 24 words1, List.all_append, w_t1, ← List.take_append_drop 24 (words1.drop 24), List.all_append, w_t2, w_t3]
  rfl
set_option maxRecDepth 65536 in
theorem w_rest : rest_1_c.before args0 about1 = true := by decide +kernel
set_option maxRecDepth 65536 in
theorem w_case : (Jvm.Cond.and given_1 narrow_1).before args0 about1 = true := by decide +kernel
theorem w_applies : (headSpec (Jvm.Cond.code x code maxLocals ret :: tables_1) room_1).applies x e0.platform about1 = true :=
  (Spec.applies_iff w_frames).mpr ⟨w_running, w_runnable, w_alone, w_named, w_hears, w_ripe, w_room, w_tables⟩
theorem atStart : AtStart classFile x code maxLocals ret World_1 tables_1 room_1 Calls_1 rest_1 Pre_1 launch0 p0 e0 about1 theMethod args0 below0 :=
  ⟨lists_1, trivial, launch0.admits_env _ _ _, launch0.least_env, fairChoices_fair.cas, fairChoices_fair.clock, w_frames, w_args, w_heap, w_applies, trivial, w_rest, w_case⟩
end start1
theorem witness_1 : WitnessClaimed_1 := ⟨start1.p0, start1.e0, start1.about1, start1.theMethod, start1.args0, start1.below0, start1.atStart⟩
end Jvm.Pilot.@@N@@
