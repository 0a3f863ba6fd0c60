import JvmDerived
import JvmDerived.Pilot.@@N@@Statement
import JvmDerived.Pilot.@@N@@Code
set_option linter.unusedVariables false
set_option linter.unusedSimpArgs false
namespace Jvm.RoadKit
open Sem ClassFile Op Lib Jvm.Stand Jvm.Free Jvm.LawKit
section New
variable {p : Program} {l : Launch} {e : Env} {R : Room} {s : State} {m : MethodId} {args : Array Value} {below : List Frame} {meth : Method} {c : Code} {T : State} {locs : List Loc} {cells slots : Nat}
theorem retI (X : Stand p l e R s m args below meth c T locs cells slots) (hx : p.tables.exec = Jvm.exec) {pc : Nat} {Ls : Array Slot} {z : Int32} {rest : List Value} (hret : meth.sig.returnType = some .int) (hd : decode c.code pc = .ok (.ireturn, 1)) {fs : List Frame}
    (hl : ∀ (f : JFrame) (acts : List Action), f.method = m → f.locked = none → f.entered = [] → (doReturn e (T.setTop f) acts (some (.int z))).1 = T.setFrames fs) : Steps p.tables e below (T.setTop (mkF m pc Ls (.int z :: rest))) (T.setFrames fs) := by
  have hm' : T.vm.method? m = some meth := X.method'
  have hn : narrow .int (.int z) = .int z := rfl
  show Steps p.tables e below (T.setTop { method := m, pc := pc, locals := Ls, stack := _ :: rest, locked := none }) _
  jvm_step X.here [X.here.top, hx, hd, hm', hret, hn]
  first | (intro acts; rw [hl _ acts rfl rfl rfl]) | rw [hl _ _ rfl rfl rfl]
  exact Steps.refl _
theorem own_un {L' : List Loc} {k' n' : Nat} (X : Stand p l e R s m args below meth c T locs cells slots) (h1 : locs = L') (h2 : cells = k') (h3 : slots = n') : Stand p l e R s m args below meth c T L' k' n' := by
  subst h1 h2 h3
  exact X
end New
end Jvm.RoadKit
/- laws to paste: Road.eqW, Road.codOf (cut by pick.py; bodies as the Statement names them) -/
namespace Jvm.Pilot.@@N@@
namespace StrChars
open Jvm Sem ClassFile Op Lib Jvm.Stand Jvm.Free.XT Jvm.Free.ALB Jvm.Free.JM Jvm.Free
open Jvm.Lib.Cold (StaticIs)
/-- the byte that i2b leaves of a char -/
def lo8 (x : Int32) : Int32 := x.toInt8.toInt32
theorem fits_lo8 (y : Int32) : fits .byte (.int (lo8 y)) = true := by
  have h1 := y.toInt8.le_toInt
  have h2 := y.toInt8.toInt_lt
  simp only [lo8, fits, Bool.and_eq_true, decide_eq_true_eq, Int32.le_iff_toInt_le, Int8.toInt_toInt32, show (-128 : Int32).toInt = -128 from by decide, show (127 : Int32).toInt = 127 from by decide]
  omega
/-- the byte, read back as charAt reads it, is the char -/
theorem lo8_mask {x : Int32} (h0 : ¬ x < 0) (h1 : ¬ 255 < x) : lo8 x &&& 255 = x := by
  have t : ∀ k : Fin 256, lo8 (Int32.ofNat k.val) &&& 255 = Int32.ofNat k.val := by decide +kernel
  rw [Int32.lt_iff_toInt_lt] at h0 h1
  have e0 : (0 : Int32).toInt = 0 := rfl
  have e1 : (255 : Int32).toInt = 255 := rfl
  obtain ⟨k, hk⟩ : ∃ k : Nat, x.toInt = k := ⟨x.toInt.toNat, by omega⟩
  have hx : x = Int32.ofNat k := Int32.toInt_inj.mp (by rw [hk, Int32.toInt_ofNat_small (by omega)])
  rw [hx]
  exact t ⟨k, by omega⟩
end StrChars
namespace StrChars.Road
open Jvm Sem ClassFile Op Lib Jvm.Stand Jvm.Free Jvm.Free.XT
open Jvm.Lib.Cold (StaticIs)
abbrev ST : String := "java/lang/String"
end StrChars.Road
namespace StrChars
open Jvm Sem ClassFile Op Lib Jvm.Stand Jvm.Free.XT Jvm.Free.ALB Jvm.Free.JM Jvm.Free
open Jvm.Lib.Cold (StaticIs)
def hi8 (x : Int32) : Int32 := lo8 (x >>> ((8 : Int32) &&& 31))
/-- what StringUTF16.getChar makes of two bytes -/
def pairCh (u v : Int32) : Int32 := (((u &&& 255) <<< ((0 : Int32) &&& 31)) ||| ((v &&& 255) <<< ((8 : Int32) &&& 31))).toUInt32.toUInt16.toUInt32.toInt32
theorem lo8_and (x : Int32) : (lo8 x &&& 255).toBitVec.toNat = x.toBitVec.toNat % 256 := by
  have h : (lo8 x).toBitVec = (x.toBitVec.signExtend 8).signExtend 32 := by rw [lo8, Int8.toBitVec_toInt32, Int32.toBitVec_toInt8]
  rw [Int32.toBitVec_and, BitVec.toNat_and, h]
  have e : ((x.toBitVec.signExtend 8).signExtend 32).toNat % 256 = x.toBitVec.toNat % 256 := by
    rw [BitVec.toNat_signExtend]
    have hlt := x.toBitVec.isLt
    simp only [BitVec.toNat_setWidth, BitVec.toNat_signExtend]
    split <;> split <;> omega
  rw [← e]
  exact Nat.and_two_pow_sub_one_eq_mod _ 8
theorem pair_says {c : Int32} (h0 : ¬ c < 0) (h1 : ¬ 65535 < c) : pairCh (lo8 c) (hi8 c) = c := by
  rw [Int32.lt_iff_toInt_lt] at h0 h1
  have e0 : (0 : Int32).toInt = 0 := rfl
  have e1 : (65535 : Int32).toInt = 65535 := rfl
  have hc : c.toInt = c.toBitVec.toNat := by
    have := c.toBitVec.isLt
    have e : c.toInt = c.toBitVec.toInt := rfl
    rw [e] at h0 h1
    rw [e]
    rw [BitVec.toInt_eq_toNat_cond] at h0 h1 ⊢
    split at h0 <;> split <;> omega
  have hn : c.toBitVec.toNat < 65536 := by omega
  have a1 := lo8_and c
  have a2 : (hi8 c &&& 255).toBitVec.toNat = c.toBitVec.toNat / 256 := by
    rw [hi8, lo8_and]
    have e : ((8 : Int32) &&& 31) = 8 := by decide
    rw [e, Int32.toBitVec_shiftRight]
    have e2 : ((8 : Int32).toBitVec.smod 32) = 8#32 := by decide
    rw [e2, BitVec.sshiftRight_eq', BitVec.toNat_sshiftRight_of_msb_false (by rw [BitVec.msb_eq_false_iff_two_mul_lt]; omega)]
    show c.toBitVec.toNat >>> 8 % 256 = _
    rw [Nat.shiftRight_eq_div_pow]
    omega
  unfold pairCh
  apply Int32.toBitVec_inj.mp
  apply BitVec.eq_of_toNat_eq
  have f0 : ((0 : Int32) &&& 31) = 0 := by decide
  have f8 : ((8 : Int32) &&& 31) = 8 := by decide
  rw [f0, f8]
  have g : (((lo8 c &&& 255) <<< (0 : Int32)) ||| ((hi8 c &&& 255) <<< (8 : Int32))).toBitVec.toNat = c.toBitVec.toNat := by
    rw [Int32.toBitVec_or, Int32.toBitVec_shiftLeft, Int32.toBitVec_shiftLeft]
    have s0 : ((0 : Int32).toBitVec.smod 32) = 0#32 := by decide
    have s8 : ((8 : Int32).toBitVec.smod 32) = 8#32 := by decide
    rw [s0, s8, BitVec.toNat_or]
    simp only [BitVec.shiftLeft_eq', BitVec.toNat_shiftLeft, a1, a2]
    show (c.toBitVec.toNat % 256) <<< 0 % 2 ^ 32 ||| (c.toBitVec.toNat / 256) <<< 8 % 2 ^ 32 = _
    rw [Nat.shiftLeft_zero, Nat.mod_eq_of_lt (show c.toBitVec.toNat % 256 < 2 ^ 32 by omega), Nat.mod_eq_of_lt (show (c.toBitVec.toNat / 256) <<< 8 < 2 ^ 32 by rw [Nat.shiftLeft_eq]; omega), Nat.or_comm, ← Nat.shiftLeft_add_eq_or_of_lt (by omega), Nat.shiftLeft_eq]
    omega
  show BitVec.toNat (((((lo8 c &&& 255) <<< (0 : Int32)) ||| ((hi8 c &&& 255) <<< (8 : Int32))).toBitVec.setWidth 16).setWidth 32) = _
  rw [BitVec.toNat_setWidth, BitVec.toNat_setWidth, g]
  omega
end StrChars
namespace StrChars
open Jvm Sem ClassFile Op Lib Jvm.Stand Jvm.Free.XT Jvm.Free.ALB Jvm.Free.JM Jvm.Free
open Jvm.Lib.Cold (StaticIs)
/-- the array's cell V codes the n chars f 0 .. f (n - 1) by the coder cd, as the JDK does: coder 1 just where some char is above 255 -/
def Cod (cd : Int32) (n : Nat) (f : Nat → Int32) (V : Cell) : Prop := (cd = 0 ∧ V.slots.size = n ∧ ∀ j, j < n → V.slots[j]? = some (.int (lo8 (f j))) ∧ ¬ 255 < f j) ∨ (cd = 1 ∧ V.slots.size = 2 * n ∧ (∀ j, j < n → V.slots[2 * j]? = some (.int (lo8 (f j))) ∧ V.slots[2 * j + 1]? = some (.int (hi8 (f j)))) ∧ ∃ j, j < n ∧ 255 < f j)
/-- **x is a String of the n chars f 0 .. f (n - 1)**, Latin-1 or UTF-16; its array at t has the cell V -/
def Txt (x t : Addr) (V : Cell) (cd : Int32) (n : Nat) (f : Nat → Int32) (U : State) : Prop := Exact "java/lang/String" x U ∧ Has x "java/lang/String" "value" "[B" (.ref t) U ∧ Has x "java/lang/String" "coder" "B" (.int cd) U ∧ XT.Arr .byte t V U ∧ Cod cd n f V ∧ ∀ j, j < n → ¬ f j < 0 ∧ ¬ 65535 < f j
theorem Txt.mv {x t : Addr} {V : Cell} {cd : Int32} {n : Nat} {f : Nat → Int32} {U U' : State} (h : Txt x t V cd n f U) (hal : U.vm.Alike U'.vm) (hh : U'.heap = U.heap) : Txt x t V cd n f U' := ⟨h.1.mv hal hh, h.2.1.mv hal hh, h.2.2.1.mv hal hh, h.2.2.2.1.mv hal hh, h.2.2.2.2⟩
end StrChars
namespace StrChars.Road
open Jvm Sem ClassFile Op Lib Jvm.Stand Jvm.Free Jvm.Free.XT
open Jvm.Lib.Cold (StaticIs)
theorem consq {a : Array Value} {s : State} {c : Jvm.Cond} {L : List Jvm.Cond} (h0 : c.before a s = true) (h : ∀ w ∈ L, w.before a s = true) : ∀ w ∈ c :: L, w.before a s = true := fun w hw => (List.mem_cons.mp hw).elim (fun e => e ▸ h0) (h w)
/-- the bytes of the chars cs, low before high -/
def wideBytes : List Int32 → List Value
  | [] => []
  | c :: cs => .int (lo8 c) :: .int (hi8 c) :: wideBytes cs
theorem wide_lo (d : Value) : ∀ (cs : List Int32) (j : Nat), j < cs.length → (wideBytes cs).getD (2 * j) d = .int (lo8 (cs.getD j 0))
  | [], j, h => absurd h (Nat.not_lt_zero j)
  | c :: cs, 0, _ => rfl
  | c :: cs, j + 1, h => by
    have q := wide_lo d cs j (by simpa using h)
    rw [show 2 * (j + 1) = 2 * j + 1 + 1 from by omega]
    simpa [wideBytes] using q
theorem wide_hi (d : Value) : ∀ (cs : List Int32) (j : Nat), j < cs.length → (wideBytes cs).getD (2 * j + 1) d = .int (hi8 (cs.getD j 0))
  | [], j, h => absurd h (Nat.not_lt_zero j)
  | c :: cs, 0, _ => rfl
  | c :: cs, j + 1, h => by
    have q := wide_hi d cs j (by simpa using h)
    rw [show 2 * (j + 1) + 1 = 2 * j + 1 + 1 + 1 from by omega]
    simpa [wideBytes] using q
theorem low_at (d : Value) (cs : List Int32) (j : Nat) (h : j < cs.length) : (cs.map fun c => Value.int (lo8 c)).getD j d = .int (lo8 (cs.getD j 0)) := by
  simp [List.getD_eq_getElem?_getD, h]
/-- an array of N2 bytes vs codes the chars cs by the coder cd -/
def CodA (cs : List Int32) (cd N2 : Int32) (vs : List Value) : Prop := (cd = 0 ∧ N2 = Int32.ofNat cs.length ∧ vs = (cs.map fun c => Value.int (lo8 c)) ∧ ∀ c ∈ cs, ¬ 255 < c) ∨ (cd = 1 ∧ N2 = Int32.ofNat (2 * cs.length) ∧ vs = wideBytes cs ∧ ∃ c ∈ cs, 255 < c)
theorem CodA.cod {cs : List Int32} {cd N2 : Int32} {vs : List Value} {V : Cell} (h : CodA cs cd N2 vs) (hn : 2 * cs.length < 2 ^ 31) (hs : V.slots.size = N2.toNatClampNeg) (hv : RoadKit.Has V vs (.int 0)) : Cod cd cs.length (fun j => cs.getD j 0) V := by
  rcases h with ⟨rfl, rfl, rfl, h⟩ | ⟨rfl, rfl, rfl, c, hc, hw⟩
  · rw [n32 (by omega)] at hs
    exact Or.inl ⟨rfl, hs, fun j hj => ⟨by rw [hv j (by omega), low_at _ _ _ hj], by
      have e : cs.getD j 0 = cs[j] := by simp [List.getD_eq_getElem?_getD, hj]
      show ¬ 255 < cs.getD j 0
      rw [e]; exact h _ (List.getElem_mem _)⟩⟩
  · rw [n32 (by omega)] at hs
    obtain ⟨j, hj, rfl⟩ := List.getElem_of_mem hc
    exact Or.inr ⟨rfl, hs, fun j hj => ⟨by rw [hv _ (by omega), wide_lo _ _ _ hj], by rw [hv _ (by omega), wide_hi _ _ _ hj]⟩, j, hj, by
      have e : cs.getD j 0 = cs[j] := by simp [List.getD_eq_getElem?_getD, hj]
      show 255 < cs.getD j 0
      rw [e]; exact hw⟩
/-- an object of exactly java/lang/String, its two fields found: as the laws ask it -/
theorem strObj {Z U : State} {a0 : Array Value} {kI : Nat} (wi : (Jvm.Cond.instantiable ST kI).before a0 Z = true) (al : Z.vm.Alike U.vm) {x : Addr} {v0 c0 : Value} (E : RoadKit.Exa Z U.heap x ST) (V : RoadKit.Fld Z U.heap x ST "value" "[B" v0) (C : RoadKit.Fld Z U.heap x ST "coder" "B" c0) :
    ∃ (D : Cell) (fV fC : Field), Blank ST x D U ∧ Found ST "value" "[B" fV U ∧ Found ST "coder" "B" fC U ∧ D.slots[fV.slot]? = some v0 ∧ D.slots[fC.slot]? = some c0 ∧ RoadKit.slotOf Z ST "value" "[B" = fV.slot ∧ RoadKit.slotOf Z ST "coder" "B" = fC.slot := by
  obtain ⟨D, cfV, kV, iV, fV, hD, gV, stV, knV, obV, asV, slV⟩ := V
  obtain ⟨D', cfC, kC, iC, fC, hD', gC, stC, -, -, asC, slC⟩ := C
  cases hD.symm.trans hD'
  obtain ⟨D2, kD, e1, e2, e3, e4, e5⟩ := E
  cases hD.symm.trans e1
  obtain ⟨c2, k2, i1, i2, i3, -⟩ := Cond.instantiable_spec wi
  cases e2.symm.trans i1
  cases e3.symm.trans i2
  obtain ⟨kU, u1, u2⟩ := al.2.2 _ _ e3
  exact ⟨D, fV, fC, ⟨hD, ⟨knV, fun q hq => by rw [hq] at obV; cases obV⟩, by rw [al.findClass]; exact e2, kU, u1, by rw [u2]; exact i3, by rw [u2]; exact e5 i3⟩, ⟨SBG.found_only al ⟨cfV, kV, iV, gV⟩, stV⟩, ⟨SBG.found_only al ⟨cfC, kC, iC, gC⟩, stC⟩, slV, slC, by simp [RoadKit.slotOf, gV], by simp [RoadKit.slotOf, gC]⟩
theorem sta_is {Z U : State} (al : Z.vm.Alike U.vm) {C n d : String} {v : Value} (S : RoadKit.Sta Z U.heap C n d v) : StaticIs U C n d v := by
  obtain ⟨cfS, iS, kS, fS, st, cS, t1, t2, t3, t4, t5, t6, t7⟩ := S
  exact StaticIs.there (s := { Z with heap := U.heap }) ⟨cfS, iS, kS, fS, st, cS, t1, t2, t3, t4, t5, (fun q => by rw [q] at t6; cases t6), t7⟩ al rfl
end StrChars.Road
namespace StrChars
open Jvm Sem ClassFile Op Lib Jvm.Stand Jvm.Free.XT Jvm.Free.ALB Jvm.Free.JM Jvm.Free
open Jvm.Lib.Cold (StaticIs)
/-- what place i of a byte[]'s cell holds -/
def yv (A : Cell) (i : Nat) : Int32 := match A.slots[i]? with | some (.int x) => x | _ => 0
theorem yv_get {a : Addr} {A : Cell} {U : State} (h : XT.Arr .byte a A U) (ht : Typed .byte A) {i : Nat} (hi : i < A.slots.size) : A.slots[i]? = some (.int (yv A i)) := by
  have e := Array.getElem?_eq_getElem hi
  have f := ht i _ e
  unfold yv; rw [e]
  generalize A.slots[i] = v at f
  cases v <;> simp [fits] at f ⊢
/-- the two arrays are equal, place for place -/
def EqC (A B : Cell) : Prop := A.slots.size = B.slots.size ∧ ∀ i, i < A.slots.size → yv A i = yv B i
/-- a boolean that says whether p -/
def Says01 (q : Prop) (r : Option Value) (s u : State) : Prop := ∃ v : Int32, r = some (.int v) ∧ u.heap = s.heap ∧ ((v = 1 ∧ q) ∨ (v = 0 ∧ ¬ q))
theorem Says01.mv {q : Prop} : ∀ r (U U' V V' : State), U'.heap = U.heap → V.vm.Alike V'.vm → V'.heap = V.heap → Says01 q r U V → Says01 q r U' V' :=
  fun r U U' V V' h1 _ h2 ⟨v, a, b, c⟩ => ⟨v, a, by rw [h1, h2]; exact b, c⟩
namespace LEq
def yN : MethodName := ⟨"java/lang/StringLatin1", "equals", "([B[B)Z"⟩
abbrev yB : ByteArray := jdk_43_method_13_code
theorem d0 : decode yB 0 = .ok (.aload_n 0, 1) := by decide +kernel
theorem d1 : decode yB 1 = .ok (.arraylength, 1) := by decide +kernel
theorem d2 : decode yB 2 = .ok (.aload_n 1, 1) := by decide +kernel
theorem d3 : decode yB 3 = .ok (.arraylength, 1) := by decide +kernel
theorem d4 : decode yB 4 = .ok (.if_icmp (.ne) 30, 3) := by decide +kernel
theorem d7 : decode yB 7 = .ok (.iconst 0, 1) := by decide +kernel
theorem d8 : decode yB 8 = .ok (.istore_n 2, 1) := by decide +kernel
theorem d9 : decode yB 9 = .ok (.iload_n 2, 1) := by decide +kernel
theorem d10 : decode yB 10 = .ok (.aload_n 0, 1) := by decide +kernel
theorem d11 : decode yB 11 = .ok (.arraylength, 1) := by decide +kernel
theorem d12 : decode yB 12 = .ok (.if_icmp (.ge) 20, 3) := by decide +kernel
theorem d15 : decode yB 15 = .ok (.aload_n 0, 1) := by decide +kernel
theorem d16 : decode yB 16 = .ok (.iload_n 2, 1) := by decide +kernel
theorem d17 : decode yB 17 = .ok (.baload, 1) := by decide +kernel
theorem d18 : decode yB 18 = .ok (.aload_n 1, 1) := by decide +kernel
theorem d19 : decode yB 19 = .ok (.iload_n 2, 1) := by decide +kernel
theorem d20 : decode yB 20 = .ok (.baload, 1) := by decide +kernel
theorem d21 : decode yB 21 = .ok (.if_icmp (.eq) 5, 3) := by decide +kernel
theorem d24 : decode yB 24 = .ok (.iconst 0, 1) := by decide +kernel
theorem d25 : decode yB 25 = .ok (.ireturn, 1) := by decide +kernel
theorem d26 : decode yB 26 = .ok (.iinc 2 1, 3) := by decide +kernel
theorem d29 : decode yB 29 = .ok (.goto (-20), 3) := by decide +kernel
theorem d32 : decode yB 32 = .ok (.iconst 1, 1) := by decide +kernel
theorem d33 : decode yB 33 = .ok (.ireturn, 1) := by decide +kernel
theorem d34 : decode yB 34 = .ok (.iconst 0, 1) := by decide +kernel
theorem d35 : decode yB 35 = .ok (.ireturn, 1) := by decide +kernel
def site : List Cond := []
def tab : Cond := tabOf yN yB 3 (some .boolean) site
def P (a : Addr) (A : Cell) (b : Addr) (B : Cell) (args : Array Value) (s : State) : Prop := args = #[.ref a, .ref b] ∧ XT.Arr .byte a A s ∧ Typed .byte A ∧ XT.Arr .byte b B s ∧ Typed .byte B
/-- whether two byte[] are equal, place for place -/
theorem law (l : Launch) (a : Addr) (A : Cell) (b : Addr) (B : Cell) : Law l yN 2 2 0 0 yB 3 (some .boolean) site (P a A b B) (Says01 (EqC A B)) [] 0 0 := by
  refine Law.of_walk (plainFor_of_name (by decide +kernel)) (by decide +kernel) (by decide +kernel) (by decide) (fun _ _ h => by rw [h.1]; rfl) (fun _ U U' hal hh h => ⟨h.1, h.2.1.mv hal hh, h.2.2.1, h.2.2.2.1.mv hal hh, h.2.2.2.2⟩) (fun r U U' V V' h1 hal h2 h => Says01.mv r U U' V V' h1 hal h2 h) ?_
  intro p e s m args below meth c s₁ X0 hexec hbytes hml hret hlk hnm hown hh0 W hP
  obtain ⟨rfl, hA, tA, hB, tB⟩ := hP
  have a31 := hA.2.2.2
  have b31 := hB.2.2.2
  have hA0 := hA.mv X0.warmed.alike hh0
  have hB0 := hB.mv X0.warmed.alike hh0
  have c1 : Steps p.tables e below (s₁.setTop (entryFrame m #[.ref a, .ref b] 3)) (s₁.setTop (mkF m 0 #[.val (.ref a), .val (.ref b), .unset] [])) := entry rfl
  have c2 : Steps p.tables e below (s₁.setTop (entryFrame m #[.ref a, .ref b] 3)) (s₁.setTop (mkF m 4 #[.val (.ref a), .val (.ref b), .unset] [.int (Int32.ofNat B.slots.size), .int (Int32.ofNat A.slots.size)])) := c1.trans (by
    refine XS.aloadN X0.here hexec rfl (hb hbytes d0) rfl rfl ?_
    refine X0.alen hexec hA0 rfl rfl (hb hbytes d1) ?_
    refine XS.aloadN X0.here hexec rfl (hb hbytes d2) rfl rfl ?_
    refine X0.alen hexec hB0 rfl rfl (hb hbytes d3) ?_
    exact Steps.refl _)
  by_cases hs : A.slots.size = B.slots.size
  · have c3 : Steps p.tables e below (s₁.setTop (entryFrame m #[.ref a, .ref b] 3)) (s₁.setTop (mkF m 9 #[.val (.ref a), .val (.ref b), .val (.int 0)] [])) := c2.trans (by
      refine XS.icmpNo X0.here hexec rfl (hb hbytes d4) rfl (ii_ne_f (by rw [hs])) ?_
      refine iconstV X0.here hexec rfl 0 (hb hbytes d7) (by decide) ?_
      refine XS.istoreN X0.here hexec rfl (hb hbytes d8) rfl rfl ?_
      exact Steps.refl _)
    have loop : ∀ (r i : Nat), i + r = A.slots.size → (∀ j, j < i → yv A j = yv B j) → Steps p.tables e below (s₁.setTop (entryFrame m #[.ref a, .ref b] 3)) (s₁.setTop (mkF m 9 #[.val (.ref a), .val (.ref b), .val (.int (Int32.ofNat i))] [])) → ∃ (pc : Nat) (Ls : Array Slot) (v : Int32), (pc = 25 ∨ pc = 33) ∧ ((v = 1 ∧ EqC A B) ∨ (v = 0 ∧ ¬ EqC A B)) ∧ Steps p.tables e below (s₁.setTop (entryFrame m #[.ref a, .ref b] 3)) (s₁.setTop (mkF m pc Ls [.int v])) := by
      intro r
      induction r with
      | zero =>
        intro i hi he cl
        exact ⟨33, _, 1, Or.inr rfl, Or.inl ⟨rfl, hs, fun j hj => he j (by omega)⟩, cl.trans (by
          refine XS.iloadN X0.here hexec rfl (hb hbytes d9) rfl ?_
          refine XS.aloadN X0.here hexec rfl (hb hbytes d10) rfl rfl ?_
          refine X0.alen hexec hA0 rfl rfl (hb hbytes d11) ?_
          refine XS.icmpYes X0.here hexec rfl (pc0 := 12) rfl (hb hbytes d12) rfl (ii_ge_t (nlt32 (by omega) (by omega))) (by decide) rfl ?_
          refine iconstV X0.here hexec rfl 1 (hb hbytes d32) (by decide) ?_
          exact Steps.refl _)⟩
      | succ r ih =>
        intro i hi he cl
        have c4 : Steps p.tables e below (s₁.setTop (entryFrame m #[.ref a, .ref b] 3)) (s₁.setTop (mkF m 21 #[.val (.ref a), .val (.ref b), .val (.int (Int32.ofNat i))] [.int (yv B i), .int (yv A i)])) := cl.trans (by
          refine XS.iloadN X0.here hexec rfl (hb hbytes d9) rfl ?_
          refine XS.aloadN X0.here hexec rfl (hb hbytes d10) rfl rfl ?_
          refine X0.alen hexec hA0 rfl rfl (hb hbytes d11) ?_
          refine XS.icmpNo X0.here hexec rfl (hb hbytes d12) rfl (ii_ge_f (lt32 (by omega) (by omega))) ?_
          refine XS.aloadN X0.here hexec rfl (hb hbytes d15) rfl rfl ?_
          refine XS.iloadN X0.here hexec rfl (hb hbytes d16) rfl ?_
          refine X0.aget hexec hA0 rfl (yv_get hA tA (i := i) (by omega)) rfl rfl (hb hbytes d17) ?_
          refine XS.aloadN X0.here hexec rfl (hb hbytes d18) rfl rfl ?_
          refine XS.iloadN X0.here hexec rfl (hb hbytes d19) rfl ?_
          refine X0.aget hexec hB0 rfl (yv_get hB tB (i := i) (by omega)) rfl rfl (hb hbytes d20) ?_
          exact Steps.refl _)
        by_cases hv : yv A i = yv B i
        · have c5 : Steps p.tables e below (s₁.setTop (entryFrame m #[.ref a, .ref b] 3)) (s₁.setTop (mkF m 9 #[.val (.ref a), .val (.ref b), .val (.int (Int32.ofNat i + 1))] [])) := c4.trans (by
            refine XS.icmpYes X0.here hexec rfl (pc0 := 21) rfl (hb hbytes d21) rfl (ii_eq_t hv) (by decide) rfl ?_
            refine iincV X0.here hexec rfl 1 (hb hbytes d26) (by decide) rfl rfl ?_
            refine XS.goto X0.here hexec rfl (pc0 := 29) rfl (hb hbytes d29) (by decide) rfl ?_
            exact Steps.refl _)
          rw [succ32] at c5
          exact ih (i + 1) (by omega) (fun j hj => by
            by_cases e : j = i
            · rw [e]; exact hv
            · exact he j (by omega)) c5
        · exact ⟨25, _, 0, Or.inl rfl, Or.inr ⟨rfl, fun q => hv (q.2 i (by omega))⟩, c4.trans (by
            refine XS.icmpNo X0.here hexec rfl (hb hbytes d21) rfl (ii_eq_f hv) ?_
            refine iconstV X0.here hexec rfl 0 (hb hbytes d24) (by decide) ?_
            exact Steps.refl _)⟩
    obtain ⟨pc, Ls, v, hpc, hv, cz⟩ := loop A.slots.size 0 (by omega) (fun j hj => absurd hj (Nat.not_lt_zero j)) c3
    have nv : narrow .boolean (.int v) = .int v := by rcases hv with ⟨rfl, -⟩ | ⟨rfl, -⟩ <;> rfl
    rcases hpc with rfl | rfl
    · exact ⟨s₁, some (.int v), _, _, _, X0, rfl, rfl, rfl, (fun h => by cases h), ⟨v, rfl, hh0, hv⟩, fun fs hl => cz.trans (X0.ireturnOut hexec hret nv (Or.inr (Or.inl rfl)) (hb hbytes d25) hl)⟩
    · exact ⟨s₁, some (.int v), _, _, _, X0, rfl, rfl, rfl, (fun h => by cases h), ⟨v, rfl, hh0, hv⟩, fun fs hl => cz.trans (X0.ireturnOut hexec hret nv (Or.inr (Or.inl rfl)) (hb hbytes d33) hl)⟩
  · have c3 : Steps p.tables e below (s₁.setTop (entryFrame m #[.ref a, .ref b] 3)) (s₁.setTop (mkF m 35 #[.val (.ref a), .val (.ref b), .unset] [.int 0])) := c2.trans (by
      refine XS.icmpYes X0.here hexec rfl (pc0 := 4) rfl (hb hbytes d4) rfl (ii_ne_t (ne32 a31 b31 hs)) (by decide) rfl ?_
      refine iconstV X0.here hexec rfl 0 (hb hbytes d34) (by decide) ?_
      exact Steps.refl _)
    exact ⟨s₁, some (.int 0), _, _, _, X0, rfl, rfl, rfl, (fun h => by cases h), ⟨0, rfl, hh0, Or.inr ⟨rfl, fun q => hs q.1⟩⟩, fun fs hl => c3.trans (X0.ireturnOut hexec hret rfl (Or.inr (Or.inl rfl)) (hb hbytes d35) hl)⟩
end LEq
theorem Cod.ty {cd : Int32} {n : Nat} {f : Nat → Int32} {V : Cell} (h : Cod cd n f V) : Typed .byte V := fun i v hv => by
  have hi : i < V.slots.size := (Array.getElem?_eq_some_iff.mp hv).1
  rcases h with ⟨-, k1, k2⟩ | ⟨-, k1, k2, -⟩
  · rw [(k2 i (by omega)).1] at hv; cases hv; exact fits_lo8 _
  · rcases Nat.mod_two_eq_zero_or_one i with e | e
    · obtain ⟨j, rfl⟩ : ∃ j, i = 2 * j := ⟨i / 2, by omega⟩
      rw [(k2 j (by omega)).1] at hv; cases hv; exact fits_lo8 _
    · obtain ⟨j, rfl⟩ : ∃ j, i = 2 * j + 1 := ⟨i / 2, by omega⟩
      rw [(k2 j (by omega)).2] at hv; cases hv; exact fits_lo8 _
/-- the same text -/
def SameT (n : Nat) (f : Nat → Int32) (k : Nat) (g : Nat → Int32) : Prop := n = k ∧ ∀ j, j < n → f j = g j
theorem lo8_inj {x y : Int32} (h0 : ¬ x < 0) (h1 : ¬ 255 < x) (k0 : ¬ y < 0) (k1 : ¬ 255 < y) (h : lo8 x = lo8 y) : x = y := by
  rw [← lo8_mask h0 h1, ← lo8_mask k0 k1, h]
/-- arrays coded by one coder are equal just where the texts are -/
theorem Cod.eqv {cd : Int32} {n k : Nat} {f g : Nat → Int32} {V V' : Cell} (h : Cod cd n f V) (h' : Cod cd k g V') (hf : ∀ j, j < n → ¬ f j < 0 ∧ ¬ 65535 < f j) (hg : ∀ j, j < k → ¬ g j < 0 ∧ ¬ 65535 < g j) : EqC V V' ↔ SameT n f k g := by
  have yvv : ∀ {W : Cell} {i : Nat} {x : Int32}, W.slots[i]? = some (.int x) → yv W i = x := fun q => by unfold yv; rw [q]
  rcases h with ⟨rfl, k1, k2⟩ | ⟨rfl, k1, k2, -⟩
  · rcases h' with ⟨-, m1, m2⟩ | ⟨e, -⟩
    · constructor
      · rintro ⟨e1, e2⟩
        refine ⟨by omega, fun j hj => ?_⟩
        have q := e2 j (by omega)
        rw [yvv (k2 j hj).1, yvv (m2 j (by omega)).1] at q
        exact lo8_inj (hf j hj).1 (k2 j hj).2 (hg j (by omega)).1 (m2 j (by omega)).2 q
      · rintro ⟨rfl, e2⟩
        refine ⟨by omega, fun j hj => ?_⟩
        rw [yvv (k2 j (by omega)).1, yvv (m2 j (by omega)).1, e2 j (by omega)]
    · exact absurd e (by decide)
  · rcases h' with ⟨e, -⟩ | ⟨-, m1, m2, -⟩
    · exact absurd e (by decide)
    · constructor
      · rintro ⟨e1, e2⟩
        refine ⟨by omega, fun j hj => ?_⟩
        have q1 := e2 (2 * j) (by omega)
        have q2 := e2 (2 * j + 1) (by omega)
        rw [yvv (k2 j hj).1, yvv (m2 j (by omega)).1] at q1
        rw [yvv (k2 j hj).2, yvv (m2 j (by omega)).2] at q2
        rw [← pair_says (hf j hj).1 (hf j hj).2, ← pair_says (hg j (by omega)).1 (hg j (by omega)).2, q1, q2]
      · rintro ⟨rfl, e2⟩
        refine ⟨by omega, fun i hi => ?_⟩
        rcases Nat.mod_two_eq_zero_or_one i with e | e
        · obtain ⟨j, rfl⟩ : ∃ j, i = 2 * j := ⟨i / 2, by omega⟩
          rw [yvv (k2 j (by omega)).1, yvv (m2 j (by omega)).1, e2 j (by omega)]
        · obtain ⟨j, rfl⟩ : ∃ j, i = 2 * j + 1 := ⟨i / 2, by omega⟩
          rw [yvv (k2 j (by omega)).2, yvv (m2 j (by omega)).2, e2 j (by omega)]
/-- two codings differ: so do the texts -/
theorem Cod.dif {cd cd' : Int32} {n k : Nat} {f g : Nat → Int32} {V V' : Cell} (h : Cod cd n f V) (h' : Cod cd' k g V') (hne : ¬ cd = cd') : ¬ SameT n f k g := by
  rintro ⟨rfl, e⟩
  rcases h with ⟨rfl, -, k2⟩ | ⟨rfl, -, -, j, hj, hw⟩
  · rcases h' with ⟨rfl, -⟩ | ⟨-, -, -, j, hj, hw⟩
    · exact hne rfl
    · exact (k2 j hj).2 (by rw [e j hj]; exact hw)
  · rcases h' with ⟨-, -, m2⟩ | ⟨rfl, -⟩
    · exact (m2 j hj).2 (by rw [← e j hj]; exact hw)
    · exact hne rfl
/-- an object of exactly C is an instance of C -/
theorem cinst {p : Program} {l : Launch} {e : Env} {R : Room} {s : State} {m : MethodId} {args : Array Value} {below : List Frame} {meth : Method} {c : Code} {T : State} {locs : List Loc} {cells slots : Nat} (X : Stand p l e R s m args below meth c T locs cells slots) (hexec : p.tables.exec = Jvm.exec) {own C : String} {index : Nat} (hown : s.vm.findClass own = some m.cls) (hlink : (Cond.classLink own index C).before args s = true) {a : Addr} (hE : Exact C a T)
    {g : JFrame} (hg : g.method = m) {rest : List Value} (hstack : g.stack = .ref a :: rest) (hdg : decode c.code g.pc = .ok (.instanceof index, 3)) :
    ∃ T', Stand p l e R s m args below meth c T' locs cells slots ∧ T'.heap = T.heap ∧ ∀ target, Steps p.tables e below (T'.setTop { g with pc := g.pc + 3, stack := .int 1 :: rest }) target → Steps p.tables e below (T.setTop g) target := by
  obtain ⟨cB, h1, D, h2, h3, h4⟩ := hE
  have h1' : s.vm.findClass C = some cB := by rw [← X.warmed.alike.findClass]; exact h1
  obtain ⟨vm', X', st⟩ := X.instanceofYes hexec hown hlink h2 h4 h1' (by rw [h3]; exact Jvm.Free.SB.assignable_self _ _) hg hstack hdg
  exact ⟨_, X', rfl, st⟩
theorem cself {p : Program} {l : Launch} {e : Env} {R : Room} {s : State} {m : MethodId} {args : Array Value} {below : List Frame} {meth : Method} {c : Code} {T : State} {locs : List Loc} {cells slots : Nat} (X : Stand p l e R s m args below meth c T locs cells slots) (hexec : p.tables.exec = Jvm.exec) {own C : String} {index : Nat} (hown : s.vm.findClass own = some m.cls) (hlink : (Cond.classLink own index C).before args s = true) {a : Addr} (hE : Exact C a T)
    {g : JFrame} (hg : g.method = m) {rest : List Value} (hstack : g.stack = .ref a :: rest) (hdg : decode c.code g.pc = .ok (.checkcast index, 3)) :
    ∃ T', Stand p l e R s m args below meth c T' locs cells slots ∧ T'.heap = T.heap ∧ ∀ target, Steps p.tables e below (T'.setTop { g with pc := g.pc + 3, stack := .ref a :: rest }) target → Steps p.tables e below (T.setTop g) target := by
  obtain ⟨cB, h1, D, h2, h3, h4⟩ := hE
  have h1' : s.vm.findClass C = some cB := by rw [← X.warmed.alike.findClass]; exact h1
  obtain ⟨vm', X', st⟩ := X.checkcastYes hexec hown hlink h2 h4 h1' (by rw [h3]; exact Jvm.Free.SB.assignable_self _ _) hg hstack hdg
  exact ⟨_, X', rfl, fun t h => st t (by rw [← hstack] at h; exact h)⟩
namespace SEq
def yN : MethodName := ⟨"java/lang/String", "equals", "(Ljava/lang/Object;)Z"⟩
abbrev yB : ByteArray := jdk_42_method_66_code
theorem d0 : decode yB 0 = .ok (.aload_n 0, 1) := by decide +kernel
theorem d1 : decode yB 1 = .ok (.aload_n 1, 1) := by decide +kernel
theorem d2 : decode yB 2 = .ok (.if_acmp (.ne) 5, 3) := by decide +kernel
theorem d5 : decode yB 5 = .ok (.iconst 1, 1) := by decide +kernel
theorem d6 : decode yB 6 = .ok (.ireturn, 1) := by decide +kernel
theorem d7 : decode yB 7 = .ok (.aload_n 1, 1) := by decide +kernel
theorem d8 : decode yB 8 = .ok (.instanceof 10, 3) := by decide +kernel
theorem d11 : decode yB 11 = .ok (.ifCond (.eq) 43, 3) := by decide +kernel
theorem d14 : decode yB 14 = .ok (.aload_n 1, 1) := by decide +kernel
theorem d15 : decode yB 15 = .ok (.checkcast 10, 3) := by decide +kernel
theorem d18 : decode yB 18 = .ok (.astore_n 2, 1) := by decide +kernel
theorem d19 : decode yB 19 = .ok (.getstatic 38, 3) := by decide +kernel
theorem d22 : decode yB 22 = .ok (.ifCond (.eq) 14, 3) := by decide +kernel
theorem d25 : decode yB 25 = .ok (.aload_n 0, 1) := by decide +kernel
theorem d26 : decode yB 26 = .ok (.getfield 15, 3) := by decide +kernel
theorem d29 : decode yB 29 = .ok (.aload_n 2, 1) := by decide +kernel
theorem d30 : decode yB 30 = .ok (.getfield 15, 3) := by decide +kernel
theorem d33 : decode yB 33 = .ok (.if_icmp (.ne) 21, 3) := by decide +kernel
theorem d36 : decode yB 36 = .ok (.aload_n 0, 1) := by decide +kernel
theorem d37 : decode yB 37 = .ok (.getfield 9, 3) := by decide +kernel
theorem d40 : decode yB 40 = .ok (.aload_n 2, 1) := by decide +kernel
theorem d41 : decode yB 41 = .ok (.getfield 9, 3) := by decide +kernel
theorem d44 : decode yB 44 = .ok (.invokestatic 541, 3) := by decide +kernel
theorem d47 : decode yB 47 = .ok (.ifCond (.eq) 7, 3) := by decide +kernel
theorem d50 : decode yB 50 = .ok (.iconst 1, 1) := by decide +kernel
theorem d51 : decode yB 51 = .ok (.goto 4, 3) := by decide +kernel
theorem d54 : decode yB 54 = .ok (.iconst 0, 1) := by decide +kernel
theorem d55 : decode yB 55 = .ok (.ireturn, 1) := by decide +kernel
def site : List Cond := [.classLink "java/lang/String" 10 "java/lang/String", .fieldLink "java/lang/String" 38 "java/lang/String" "COMPACT_STRINGS" "Z", .fieldLink "java/lang/String" 15 "java/lang/String" "coder" "B", .fieldLink "java/lang/String" 9 "java/lang/String" "value" "[B", LEq.tab] ++ staticW "java/lang/String" 541 LEq.yN
def tab : Cond := tabOf yN yB 3 (some .boolean) site
def P (x t : Addr) (V : Cell) (cd : Int32) (n : Nat) (f : Nat → Int32) (y t' : Addr) (V' : Cell) (cd' : Int32) (k : Nat) (g : Nat → Int32) (z : Int32) (args : Array Value) (s : State) : Prop := args = #[.ref x, .ref y] ∧ Txt x t V cd n f s ∧ Txt y t' V' cd' k g s ∧ StaticIs s "java/lang/String" "COMPACT_STRINGS" "Z" (.int z) ∧ ¬ z = 0
/-- equals(Object) of two Strings: whether the texts are the same -/
theorem law (l : Launch) (x t : Addr) (V : Cell) (cd : Int32) (n : Nat) (f : Nat → Int32) (y t' : Addr) (V' : Cell) (cd' : Int32) (k : Nat) (g : Nat → Int32) (z : Int32) : Law l yN 2 1 1 14 yB 3 (some .boolean) site (P x t V cd n f y t' V' cd' k g z) (Says01 (SameT n f k g)) [] 0 0 := by
  refine Law.of_walk (plainFor_of_name (by decide +kernel)) (by decide +kernel) (by decide +kernel) (by decide) (fun _ _ h => by rw [h.1]; rfl) (fun _ U U' hal hh h => ⟨h.1, h.2.1.mv hal hh, h.2.2.1.mv hal hh, h.2.2.2.1.there hal hh, h.2.2.2.2⟩) (fun r U U' V V' h1 hal h2 h => Says01.mv r U U' V V' h1 hal h2 h) ?_
  intro p e s m args below meth c s₁ X0 hexec hbytes hml hret hlk hnm hown hh0 W hP
  obtain ⟨rfl, hx, hy, s1, hz⟩ := hP
  have c1 : Steps p.tables e below (s₁.setTop (entryFrame m #[.ref x, .ref y] 3)) (s₁.setTop (mkF m 2 #[.val (.ref x), .val (.ref y), .unset] [.ref y, .ref x])) := Steps.trans (entry rfl) (by
    show Steps p.tables e below (s₁.setTop (mkF m 0 #[.val (.ref x), .val (.ref y), .unset] [])) _
    refine XS.aloadN X0.here hexec rfl (hb hbytes d0) rfl rfl ?_
    refine XS.aloadN X0.here hexec rfl (hb hbytes d1) rfl rfl ?_
    exact Steps.refl _)
  by_cases hxy : x = y
  · have c2 : Steps p.tables e below (s₁.setTop (entryFrame m #[.ref x, .ref y] 3)) (s₁.setTop (mkF m 6 #[.val (.ref x), .val (.ref y), .unset] [.int 1])) := c1.trans (by
      refine acmpNo X0.here hexec rfl (hb hbytes d2) rfl rfl rfl (by simp [acmp, hxy]) ?_
      refine iconstV X0.here hexec rfl 1 (hb hbytes d5) (by decide) ?_
      exact Steps.refl _)
    subst hxy
    have ec : cd = cd' := by
      obtain ⟨D, fd, a1, a2, a3⟩ := hx.2.2.1
      obtain ⟨D', fd', b1, b2, b3⟩ := hy.2.2.1
      cases a1.symm.trans b1
      obtain ⟨q1, q2, q3, q4⟩ := a2.1
      obtain ⟨r1, r2, r3, r4⟩ := b2.1
      cases q4.symm.trans r4
      cases a3.symm.trans b3; rfl
    have et : t = t' := by
      obtain ⟨D, fd, a1, a2, a3⟩ := hx.2.1
      obtain ⟨D', fd', b1, b2, b3⟩ := hy.2.1
      cases a1.symm.trans b1
      obtain ⟨q1, q2, q3, q4⟩ := a2.1
      obtain ⟨r1, r2, r3, r4⟩ := b2.1
      cases q4.symm.trans r4
      cases a3.symm.trans b3; rfl
    subst ec et
    have ev : V = V' := by cases hx.2.2.2.1.1.symm.trans hy.2.2.2.1.1; rfl
    subst ev
    have hs : SameT n f k g := (Cod.eqv hx.2.2.2.2.1 hy.2.2.2.2.1 hx.2.2.2.2.2 hy.2.2.2.2.2).mp ⟨rfl, fun _ _ => rfl⟩
    exact ⟨s₁, some (.int 1), _, _, _, X0, rfl, rfl, rfl, (fun h => by cases h), ⟨1, rfl, hh0, Or.inl ⟨rfl, hs⟩⟩, fun fs hl => c2.trans (X0.ireturnOut hexec hret rfl (Or.inr (Or.inl rfl)) (hb hbytes d6) hl)⟩
  · have c2 : Steps p.tables e below (s₁.setTop (entryFrame m #[.ref x, .ref y] 3)) (s₁.setTop (mkF m 8 #[.val (.ref x), .val (.ref y), .unset] [.ref y])) := c1.trans (by
      refine acmpYes X0.here hexec rfl (pc0 := 2) rfl (hb hbytes d2) rfl rfl rfl (by simp [acmp, hxy]) (by decide) rfl ?_
      refine XS.aloadN X0.here hexec rfl (hb hbytes d7) rfl rfl ?_
      exact Steps.refl _)
    obtain ⟨T3, X3, q3, st3⟩ := cinst X0 hexec hown (wk W (.classLink "java/lang/String" 10 "java/lang/String")) (hy.mv X0.warmed.alike hh0).1 (g := (mkF m 8 #[.val (.ref x), .val (.ref y), .unset] [.ref y])) rfl (rest := []) rfl (hb hbytes d8)
    have hh3 := q3.trans hh0
    have c4 : Steps p.tables e below (s₁.setTop (entryFrame m #[.ref x, .ref y] 3)) (T3.setTop (mkF m 15 #[.val (.ref x), .val (.ref y), .unset] [.ref y])) := (c2.trans (st3 _ (Steps.refl _))).trans (by
      refine XS.ifNo X3.here hexec rfl (hb hbytes d11) rfl (i0_eq_f (by decide)) ?_
      refine XS.aloadN X3.here hexec rfl (hb hbytes d14) rfl rfl ?_
      exact Steps.refl _)
    obtain ⟨T5, X5, q5, st5⟩ := cself X3 hexec hown (wk W (.classLink "java/lang/String" 10 "java/lang/String")) (hy.mv X3.warmed.alike hh3).1 (g := (mkF m 15 #[.val (.ref x), .val (.ref y), .unset] [.ref y])) rfl (rest := []) rfl (hb hbytes d15)
    have hh5 := q5.trans hh3
    have c6 : Steps p.tables e below (s₁.setTop (entryFrame m #[.ref x, .ref y] 3)) (T5.setTop (mkF m 19 #[.val (.ref x), .val (.ref y), .val (.ref y)] [])) := (c4.trans (st5 _ (Steps.refl _))).trans (by
      refine XS.astoreN X5.here hexec rfl (hb hbytes d18) rfl rfl rfl ?_
      exact Steps.refl _)
    obtain ⟨T7, X7, q7, st7⟩ := X5.sget hexec hown (wk W (.fieldLink "java/lang/String" 38 "java/lang/String" "COMPACT_STRINGS" "Z")) s1 (fun _ _ h => by rw [hh5]; exact h) (g := (mkF m 19 #[.val (.ref x), .val (.ref y), .val (.ref y)] [])) rfl (hb hbytes d19)
    have hh7 := q7.trans hh5
    have c8 : Steps p.tables e below (s₁.setTop (entryFrame m #[.ref x, .ref y] 3)) (T7.setTop (mkF m 26 #[.val (.ref x), .val (.ref y), .val (.ref y)] [.ref x])) := (c6.trans (st7 _ (Steps.refl _))).trans (by
      refine XS.ifNo X7.here hexec rfl (hb hbytes d22) rfl (i0_eq_f hz) ?_
      refine XS.aloadN X7.here hexec rfl (hb hbytes d25) rfl rfl ?_
      exact Steps.refl _)
    obtain ⟨T9, X9, q9, st9⟩ := X7.hget hexec hown (wk W (.fieldLink "java/lang/String" 15 "java/lang/String" "coder" "B")) (hx.mv X7.warmed.alike hh7).2.2.1 (g := (mkF m 26 #[.val (.ref x), .val (.ref y), .val (.ref y)] [.ref x])) rfl (rest := []) rfl (hb hbytes d26)
    have hh9 := q9.trans hh7
    have c10 : Steps p.tables e below (s₁.setTop (entryFrame m #[.ref x, .ref y] 3)) (T9.setTop (mkF m 30 #[.val (.ref x), .val (.ref y), .val (.ref y)] [.ref y, .int cd])) := (c8.trans (st9 _ (Steps.refl _))).trans (by
      refine XS.aloadN X9.here hexec rfl (hb hbytes d29) rfl rfl ?_
      exact Steps.refl _)
    obtain ⟨T11, X11, q11, st11⟩ := X9.hget hexec hown (wk W (.fieldLink "java/lang/String" 15 "java/lang/String" "coder" "B")) (hy.mv X9.warmed.alike hh9).2.2.1 (g := (mkF m 30 #[.val (.ref x), .val (.ref y), .val (.ref y)] [.ref y, .int cd])) rfl (rest := [.int cd]) rfl (hb hbytes d30)
    have hh11 := q11.trans hh9
    have c12 : Steps p.tables e below (s₁.setTop (entryFrame m #[.ref x, .ref y] 3)) (T11.setTop (mkF m 33 #[.val (.ref x), .val (.ref y), .val (.ref y)] [.int cd', .int cd])) := c10.trans (st11 _ (Steps.refl _))
    by_cases hcd : cd = cd'
    · subst hcd
      have c13 : Steps p.tables e below (s₁.setTop (entryFrame m #[.ref x, .ref y] 3)) (T11.setTop (mkF m 37 #[.val (.ref x), .val (.ref y), .val (.ref y)] [.ref x])) := c12.trans (by
        refine XS.icmpNo X11.here hexec rfl (hb hbytes d33) rfl (ii_ne_f rfl) ?_
        refine XS.aloadN X11.here hexec rfl (hb hbytes d36) rfl rfl ?_
        exact Steps.refl _)
      obtain ⟨T14, X14, q14, st14⟩ := X11.hget hexec hown (wk W (.fieldLink "java/lang/String" 9 "java/lang/String" "value" "[B")) (hx.mv X11.warmed.alike hh11).2.1 (g := (mkF m 37 #[.val (.ref x), .val (.ref y), .val (.ref y)] [.ref x])) rfl (rest := []) rfl (hb hbytes d37)
      have hh14 := q14.trans hh11
      have c15 : Steps p.tables e below (s₁.setTop (entryFrame m #[.ref x, .ref y] 3)) (T14.setTop (mkF m 41 #[.val (.ref x), .val (.ref y), .val (.ref y)] [.ref y, .ref t])) := (c13.trans (st14 _ (Steps.refl _))).trans (by
        refine XS.aloadN X14.here hexec rfl (hb hbytes d40) rfl rfl ?_
        exact Steps.refl _)
      obtain ⟨T16, X16, q16, st16⟩ := X14.hget hexec hown (wk W (.fieldLink "java/lang/String" 9 "java/lang/String" "value" "[B")) (hy.mv X14.warmed.alike hh14).2.1 (g := (mkF m 41 #[.val (.ref x), .val (.ref y), .val (.ref y)] [.ref y, .ref t])) rfl (rest := [.ref t]) rfl (hb hbytes d41)
      have hh16 := q16.trans hh14
      have c17 : Steps p.tables e below (s₁.setTop (entryFrame m #[.ref x, .ref y] 3)) (T16.setTop (mkF m 44 #[.val (.ref x), .val (.ref y), .val (.ref y)] [.ref t', .ref t])) := c15.trans (st16 _ (Steps.refl _))
      obtain ⟨v18, T18, X18, E18, g18⟩ := X16.callS hexec (LEq.law l t V t' V') hown (wks W (staticW "java/lang/String" 541 LEq.yN)) (wk W LEq.tab) (W := 0) (Nat.le_of_ble_eq_true rfl) (Nat.le_of_ble_eq_true rfl) (Nat.le_refl _) (Nat.le_refl _) (g := (mkF m 44 #[.val (.ref x), .val (.ref y), .val (.ref y)] [.ref t', .ref t])) rfl (by rw [hml]; rfl) c17 (argsL := [.ref t, .ref t']) (rest := []) rfl rfl (by show 2 * 0 + 0 ≤ _; decide) (hb hbytes d44) (⟨rfl, hx.2.2.2.1.mv X16.warmed.alike hh16, hx.2.2.2.2.1.ty, hy.2.2.2.1.mv X16.warmed.alike hh16, hy.2.2.2.2.1.ty⟩)
      obtain ⟨v, rfl, q18, hv⟩ := E18
      have iff := Cod.eqv hx.2.2.2.2.1 hy.2.2.2.2.1 hx.2.2.2.2.2 hy.2.2.2.2.2
      rcases hv with ⟨rfl, he⟩ | ⟨rfl, he⟩
      · have c19 : Steps p.tables e below (s₁.setTop (entryFrame m #[.ref x, .ref y] 3)) (T18.setTop (mkF m 55 #[.val (.ref x), .val (.ref y), .val (.ref y)] [.int 1])) := Steps.trans g18 (by
          refine XS.ifNo X18.here hexec rfl (hb hbytes d47) rfl (i0_eq_f (by decide)) ?_
          refine iconstV X18.here hexec rfl 1 (hb hbytes d50) (by decide) ?_
          refine XS.goto X18.here hexec rfl (pc0 := 51) rfl (hb hbytes d51) (by decide) rfl ?_
          exact Steps.refl _)
        exact ⟨T18, some (.int 1), _, _, _, X18, rfl, rfl, rfl, (fun h => by cases h), ⟨1, rfl, q18.trans hh16, Or.inl ⟨rfl, iff.mp he⟩⟩, fun fs hl => c19.trans (X18.ireturnOut hexec hret rfl (Or.inr (Or.inl rfl)) (hb hbytes d55) hl)⟩
      · have c19 : Steps p.tables e below (s₁.setTop (entryFrame m #[.ref x, .ref y] 3)) (T18.setTop (mkF m 55 #[.val (.ref x), .val (.ref y), .val (.ref y)] [.int 0])) := Steps.trans g18 (by
          refine XS.ifYes X18.here hexec rfl (pc0 := 47) rfl (hb hbytes d47) rfl (i0_eq_t rfl) (by decide) rfl ?_
          refine iconstV X18.here hexec rfl 0 (hb hbytes d54) (by decide) ?_
          exact Steps.refl _)
        exact ⟨T18, some (.int 0), _, _, _, X18, rfl, rfl, rfl, (fun h => by cases h), ⟨0, rfl, q18.trans hh16, Or.inr ⟨rfl, fun q => he (iff.mpr q)⟩⟩, fun fs hl => c19.trans (X18.ireturnOut hexec hret rfl (Or.inr (Or.inl rfl)) (hb hbytes d55) hl)⟩
    · have c13 : Steps p.tables e below (s₁.setTop (entryFrame m #[.ref x, .ref y] 3)) (T11.setTop (mkF m 55 #[.val (.ref x), .val (.ref y), .val (.ref y)] [.int 0])) := c12.trans (by
        refine XS.icmpYes X11.here hexec rfl (pc0 := 33) rfl (hb hbytes d33) rfl (ii_ne_t hcd) (by decide) rfl ?_
        refine iconstV X11.here hexec rfl 0 (hb hbytes d54) (by decide) ?_
        exact Steps.refl _)
      exact ⟨T11, some (.int 0), _, _, _, X11, rfl, rfl, rfl, (fun h => by cases h), ⟨0, rfl, hh11, Or.inr ⟨rfl, Cod.dif hx.2.2.2.2.1 hy.2.2.2.2.1 hcd⟩⟩, fun fs hl => c13.trans (X11.ireturnOut hexec hret rfl (Or.inr (Or.inl rfl)) (hb hbytes d55) hl)⟩
theorem pays {l : Launch} {R : Room} {p : Program} {e : Env} {below : List Frame} {s : State} {sargs : Array Value} {len W : Nat} (x t : Addr) (V : Cell) (cd : Int32) (n : Nat) (f : Nat → Int32) (y t' : Addr) (V' : Cell) (cd' : Int32) (k : Nat) (g : Nat → Int32) (z : Int32) (htab : tab.before sargs s = true) (hfr : 2 ≤ R.frames) (hlo : W + 28 ≤ R.locals) :
    Back l R p e below s sargs yN len W (fun A₁ a₁ => A₁.cells + 0 ≤ R.cells ∧ A₁.slots + 0 ≤ R.slots ∧ P x t V cd n f y t' V' cd' k g z a₁ A₁.U) (fun A₁ _ v₁ B₁ => Says01 (SameT n f k g) v₁ A₁.U B₁.U ∧ B₁.locs = A₁.locs ++ [] ∧ B₁.cells = A₁.cells + 0 ∧ B₁.slots = A₁.slots + 0) :=
  (law l x t V cd n f y t' V' cd' k g z).pays htab hfr (by omega)
end SEq
end StrChars
namespace StrChars.Road
open Jvm Sem ClassFile Op Lib Jvm.Stand Jvm.Free Jvm.Free.XT
open Jvm.Lib.Cold (StaticIs)
/-- the words of String.equals(Object) -/
abbrev wordsEq : List Jvm.Cond := [.code SEq.yN SEq.yB 3 (some .boolean), .initialized ST, .classLink ST 10 ST, .fieldLink ST 38 ST "COMPACT_STRINGS" "Z", .fieldLink ST 15 ST "coder" "B", .fieldLink ST 9 ST "value" "[B", .methodLink ST 541 LEq.yN, .static LEq.yN, .code LEq.yN LEq.yB 3 (some .boolean), .initialized "java/lang/StringLatin1"]
theorem tabEq_of {a : Array Value} {s : State} (h : ∀ w ∈ wordsEq, w.before a s = true) : SEq.tab.before a s = true := by
  have hl : LEq.tab.before a s = true := unparts (wk h (.code LEq.yN LEq.yB 3 (some .boolean))) (wks h (.initialized LEq.yN.cls :: LEq.site))
  have q := consq hl h
  exact unparts (wk q (.code SEq.yN SEq.yB 3 (some .boolean))) (wks q (.initialized SEq.yN.cls :: SEq.site))
theorem movedEq {Z s : State} {a0 args : Array Value} (hZ : Z.Warmed39 s.vm) (hw : ∀ d ∈ wordsEq, d.before a0 Z = true) : ∀ d ∈ wordsEq, d.before args s = true := fun d hd => by
  have t : ∀ d ∈ wordsEq, (d.onTables && d.keepsFace) = true := by decide +kernel
  exact RoadKit.mv hZ (hw d hd) (t d hd)
/-- the road's facts of a String, as the laws ask it -/
theorem txt_of {Z U : State} {a0 : Array Value} {kI : Nat} (wi : (Jvm.Cond.instantiable ST kI).before a0 Z = true) (al : Z.vm.Alike U.vm) {x t : Addr} {kb : ClassId} {cs : List Int32} {cd N2 : Int32} {vs : List Value} (E : RoadKit.Exa Z U.heap x ST) (V : RoadKit.Fld Z U.heap x ST "value" "[B" (.ref t)) (C : RoadKit.Fld Z U.heap x ST "coder" "B" (.int cd)) (K : RoadKit.Arv Z U.heap t kb .byte N2 vs (.int 0)) (hc : CodA cs cd N2 vs) (hb : ∀ c ∈ cs, ¬ c < 0 ∧ ¬ (65535 : Int32) < c) (l2 : cs.length ≤ 4000) :
    ∃ A, Txt x t A cd cs.length (fun j => cs.getD j 0) U := by
  obtain ⟨A, K1, K2, K3, K4, K5, K6⟩ := K
  have hcod := hc.cod (by omega) K3 K5
  obtain ⟨D, fV, fC, hB, F1, F2, g1, g2, -, -⟩ := strObj wi al E V C
  exact ⟨A, ⟨_, hB.2.2.1, D, hB.1, rfl, by cases q : D.vm <;> first | rfl | exact absurd q (hB.2.1.2 _)⟩, Has.of hB F1 g1, Has.of hB F2 g2, ⟨K1.1, State.isArrayOf_alike al K1.2.1, K1.2.2, by rcases hcod with ⟨-, q, -⟩ | ⟨-, q, -⟩ <;> omega⟩, hcod, fun j hj => by
    have e : cs.getD j 0 = cs[j] := by simp [List.getD_eq_getElem?_getD, hj]
    show ¬ cs.getD j 0 < 0 ∧ ¬ 65535 < cs.getD j 0
    rw [e]; exact hb _ (List.getElem_mem _)⟩
theorem same_list (cs ds : List Int32) : SameT cs.length (fun j => cs.getD j 0) ds.length (fun j => ds.getD j 0) ↔ cs = ds := by
  constructor
  · rintro ⟨e, q⟩
    refine List.ext_getElem e fun j h1 h2 => ?_
    have := q j h1
    simpa [List.getD_eq_getElem?_getD, h1, h2] using this
  · rintro rfl
    exact ⟨rfl, fun _ _ => rfl⟩
/-- **equals(Object) OF TWO SUCH STRINGS**: 1 just where the chars are the same -/
theorem eqW {p : Program} {l : Launch} {e : Env} {R : Room} {s : State} {args : Array Value} {below : List Frame} {len W : Nat} {Z : State} {a0 : Array Value} {h : Heap} (hZ : Z.Warmed39 s.vm) (hw : ∀ d ∈ wordsEq, d.before a0 Z = true) {kI : Nat} (wi : (Jvm.Cond.instantiable ST kI).before a0 Z = true)
    {x t : Addr} {kb : ClassId} {cs : List Int32} {cd N2 : Int32} {vs : List Value} (E : RoadKit.Exa Z h x ST) (V : RoadKit.Fld Z h x ST "value" "[B" (.ref t)) (C : RoadKit.Fld Z h x ST "coder" "B" (.int cd)) (K : RoadKit.Arv Z h t kb .byte N2 vs (.int 0)) (hc : CodA cs cd N2 vs) (hb : ∀ c ∈ cs, ¬ c < 0 ∧ ¬ (65535 : Int32) < c) (l2 : cs.length ≤ 4000)
    {y t' : Addr} {kb' : ClassId} {ds : List Int32} {cd' N2' : Int32} {vs' : List Value} (E' : RoadKit.Exa Z h y ST) (V' : RoadKit.Fld Z h y ST "value" "[B" (.ref t')) (C' : RoadKit.Fld Z h y ST "coder" "B" (.int cd')) (K' : RoadKit.Arv Z h t' kb' .byte N2' vs' (.int 0)) (hc' : CodA ds cd' N2' vs') (hb' : ∀ c ∈ ds, ¬ c < 0 ∧ ¬ (65535 : Int32) < c) (l2' : ds.length ≤ 4000)
    {z : Int32} (S : RoadKit.Sta Z h ST "COMPACT_STRINGS" "Z" (.int z)) (hz : ¬ z = 0) (hfr : 2 ≤ R.frames) (hlo : W + 28 ≤ R.locals) :
    Back l R p e below s args (⟨"java/lang/String", "equals", "(Ljava/lang/Object;)Z"⟩ : MethodName) len W (fun P a => a = #[.ref x, .ref y] ∧ P.U.heap = h ∧ P.cells + 0 ≤ R.cells ∧ P.slots + 0 ≤ R.slots)
      (fun P _ v B => ∃ L, (((v = some (.int 1) ∧ cs = ds) ∨ (v = some (.int 0) ∧ ¬ cs = ds)) ∧ L = [] ∧ B.U.heap = h) ∧ B.locs = P.locs ++ L ∧ B.cells = P.cells + 0 ∧ B.slots = P.slots + 0) := by
  intro m meth c P g ig mk a X hg hsize hdg hW hn hp'
  obtain ⟨rfl, rfl, r1, r2⟩ := hp'
  have al : Z.vm.Alike P.U.vm := hZ.alike.trans X.warmed.alike
  obtain ⟨A, hx⟩ := txt_of wi al E V C K hc hb l2
  obtain ⟨A', hy⟩ := txt_of wi al E' V' C' K' hc' hb' l2'
  obtain ⟨v, B, X', ⟨⟨w, hv, hh, hq⟩, hl, hk, hs⟩, st⟩ := SEq.pays x t A cd cs.length (fun j => cs.getD j 0) y t' A' cd' ds.length (fun j => ds.getD j 0) z (tabEq_of (movedEq hZ hw)) hfr hlo m meth c P g ig mk _ X hg hsize hdg hW hn ⟨r1, r2, rfl, hx, hy, sta_is al S, hz⟩
  refine ⟨v, B, X', ⟨[], ⟨?_, rfl, hh⟩, hl, hk, hs⟩, st⟩
  rcases hq with ⟨rfl, q⟩ | ⟨rfl, q⟩
  · exact Or.inl ⟨hv, (same_list cs ds).mp q⟩
  · exact Or.inr ⟨hv, fun e => q ((same_list cs ds).mpr e)⟩
end StrChars.Road
namespace StrChars.Road
open Jvm Sem ClassFile Op Lib Jvm.Stand Jvm.Free Jvm.Free.XT
open Jvm.Lib.Cold (StaticIs)
/-- what backV says of its String, as the contracts of this text ask it: cs's low bytes, coder 0 -/
theorem codOf {cs : List Int32} {n : Nat} (hn : cs.length = n) (hb : ∀ c ∈ cs, ¬ 255 < c) : CodA cs 0 (Int32.ofNat n) ((cs.map lo8).map Value.int) := Or.inl ⟨rfl, by rw [hn], by simp [List.map_map, Function.comp_def], hb⟩
end StrChars.Road
end Jvm.Pilot.@@N@@

namespace Jvm.Pilot.@@N@@
open Jvm Jvm.ClassFile Sem Op Lib Jvm.Free Jvm.Stand Jvm.LawKit Jvm.RoadKit Bundle Jvm.Pilot.@@N@@.Jvm.D
set_option maxRecDepth 65536
set_option maxHeartbeats 40000000
section Short
variable {p : Program} {l : Launch} {e : Env} {R : Room} {s : State} {m : MethodId} {args : Array Value} {below : List Frame} {meth : Method} {c : Code} {T t : State} {locs : List Loc} {cells slots : Nat} {b : ByteArray} {pc : Nat} {L : Array Slot} {S : List Value}
abbrev own_W (a0 : Array Value) (Z : State) : Prop := ∀ d ∈ tables_1, d.before a0 Z = true
theorem own_q {a0 : Array Value} {Z : State} (hw : own_W a0 Z) (i : Nat) {d : Jvm.Cond} (q : tables_1[i]? = some d) : d.before a0 Z = true := hw _ (List.mem_of_getElem? q)
abbrev own_H (p : Program) (c : Code) (b : ByteArray) : Prop := p.tables.exec = Jvm.exec ∧ c.code = b
abbrev own_rm (x y z u : Nat) : Room := { frames := x, cells := y, slots := z, locals := u }
abbrev own_M (l : Launch) (y : MethodName) (b : ByteArray) (n : Nat) (rt : Option FieldType) (R : Room) (Z : State) (h0 : Heap) (A : Array Value) (Q : Option Value → Heap → List Loc → Prop) : Prop := MetFree l y (head1 [Jvm.Cond.code y b n rt] R) (fun a U => a = A ∧ Z.Warmed39 U.vm ∧ U.heap = h0) (fun _ _ _ _ _ => True) (fun _ U o U' => ∃ v L, o = .returned v ∧ Q v U'.heap L ∧ FrameEnd U o U' L R.cells R.slots)
abbrev own_Go (p : Program) (e : Env) (below : List Frame) (f0 T : State) (m : MethodId) (pc : Nat) (L : Array Slot) (S : List Value) : Prop := ∀ t, Steps p.tables e below (T.setTop (mkF m pc L S)) t → Steps p.tables e below f0 t
abbrev own_E (p : Program) (e : Env) (below : List Frame) (f0 s : State) (R : Room) (Q : Option Value → Heap → List Loc → Prop) : Prop := ∃ s₂ o, Steps p.tables e below f0 s₂ ∧ s₂.status = .running ∧ Ended s₂ below o ∧ ∃ v L, o = .returned v ∧ Q v s₂.heap L ∧ FrameEnd s o s₂ L R.cells R.slots
theorem own_al : ∀ (A : List Value) (acc : Array Slot), A.all (fun v => v.category == 1) = true → List.foldl (fun acc v => if v.category = 2 then (acc.push (.val v)).push .second else acc.push (.val v)) acc A = acc ++ (A.map Slot.val).toArray
  | [], acc, _ => by simp
  | v :: r, acc, h => by
    rw [List.all_cons, Bool.and_eq_true, beq_iff_eq] at h
    rw [List.foldl_cons, if_neg (by omega), own_al r _ h.2]
    simp
theorem own_ef (A : List Value) (n : Nat) (hA : A.all (fun v => v.category == 1) = true) (m : MethodId) : entryFrame m A.toArray n = mkF m 0 ((A.map Slot.val ++ List.replicate (n - A.length) Slot.unset).toArray) [] := by
  have e : argsToLocals A.toArray n = (A.map Slot.val ++ List.replicate (n - A.length) Slot.unset).toArray := by
    have := own_al A #[] hA
    simp only [argsToLocals, List.foldl_toArray', this]
    simp
  simp [entryFrame, mkF, e]
theorem own_body {y : MethodName} {n : Nat} {rt : Option FieldType} {Z : State} {h0 : Heap} {A : List Value} {L0 : Array Slot} {Q : Option Value → Heap → List Loc → Prop} (hp : plainFor y = true) (hA : A.all (fun v => v.category == 1) = true) (hL : (A.map Slot.val ++ List.replicate (n - A.length) Slot.unset).toArray = L0)
    (B : ∀ (p : Program) (e : Env) (s : State) (m : MethodId) (below : List Frame) (meth : Method) (c : Code) (s₁ f0 : State), BodyLoose p l y (head1 [Jvm.Cond.code y b n rt] R) b n rt e s m A.toArray below meth c s₁ → p.tables.exec = Jvm.exec → own_H p c b → c.maxLocals = n → Z.Warmed39 s.vm → s.vm.findClass y.cls = some m.cls → Stand p l e R s m A.toArray below meth c s₁ [] 0 0 → s₁.heap = h0 → own_Go p e below f0 s₁ m 0 L0 [] → own_E p e below f0 s R Q) : own_M l y b n rt R Z h0 A.toArray Q := by
  refine MetFree.of_bodySF hp hisR ?_
  intro p e s m args below meth c s₁ Bd hml hP hK
  obtain ⟨rfl, hZ, hh⟩ := hP
  exact B p e s m below meth c s₁ _ Bd Bd.exec ⟨Bd.exec, Bd.bytes⟩ hml hZ (findClass_of_methodNamed Bd.named) (Stand.of_body Bd) (by rw [← hh, Bd.state]; rfl) (fun t k => castTop ((own_ef A n hA m).trans (by rw [hL])) k)
theorem own_oV {f0 : State} {h : Heap} {Q : Option Value → Heap → List Loc → Prop} (X : Stand p l e R s m args below meth c T locs cells slots) (H : own_H p c b) (hlk : meth.locks = false) (hret : meth.sig.returnType = none) (w : own_Go p e below f0 T m pc L []) (hd : decode b pc = .ok (.return_, 1)) (eT : T.heap = h) (hc : cells ≤ R.cells) (hs : slots ≤ R.slots) (q : Q none h locs) : own_E p e below f0 s R Q := by
  obtain ⟨fs, hr, hrun, hended, hW, hsame⟩ := X.leave (v := none) (fun _ => rfl) hlk
  refine ⟨_, _, w _ ?_, hrun, hended, _, _, rfl, ?_, ⟨_, rfl⟩, hW, hsame.mono hc hs⟩
  · exact X.returnOut H.1 hret (hb H.2 hd) hr
  · show Q none T.heap _
    rw [eT]
    exact q
theorem own_oI {f0 : State} {h : Heap} {Q : Option Value → Heap → List Loc → Prop} {z : Int32} (X : Stand p l e R s m args below meth c T locs cells slots) (H : own_H p c b) (hlk : meth.locks = false) (hret : meth.sig.returnType = some .int) (w : own_Go p e below f0 T m pc L (.int z :: S)) (hd : decode b pc = .ok (.ireturn, 1)) (eT : T.heap = h) (hc : cells ≤ R.cells) (hs : slots ≤ R.slots) (q : Q (some (.int z)) h locs) : own_E p e below f0 s R Q := by
  obtain ⟨fs, hr, hrun, hended, hW, hsame⟩ := X.leave (v := some (.int z)) (fun h => by rw [hret] at h; cases h) hlk
  refine ⟨_, _, w _ ?_, hrun, hended, _, _, rfl, ?_, ⟨_, rfl⟩, hW, hsame.mono hc hs⟩
  · exact retI X H.1 hret (hb H.2 hd) hr
  · show Q _ T.heap _
    rw [eT]
    exact q
theorem own_oN {f0 : State} {h : Heap} {Q : Option Value → Heap → List Loc → Prop} {z : Int32} {ty : FieldType} (X : Stand p l e R s m args below meth c T locs cells slots) (H : own_H p c b) (hlk : meth.locks = false) (hret : meth.sig.returnType = some ty) (ht : ty = .boolean ∨ ty = .byte ∨ ty = .char ∨ ty = .short) (w : own_Go p e below f0 T m pc L (.int z :: S)) (hd : decode b pc = .ok (.ireturn, 1)) (eT : T.heap = h) (hc : cells ≤ R.cells) (hs : slots ≤ R.slots) (q : Q (some (.int (nar ty z))) h locs) : own_E p e below f0 s R Q := by
  obtain ⟨fs, hr, hrun, hended, hW, hsame⟩ := X.leave (v := some (.int (nar ty z))) (fun h => by rw [hret] at h; cases h) hlk
  refine ⟨_, _, w _ ?_, hrun, hended, _, _, rfl, ?_, ⟨_, rfl⟩, hW, hsame.mono hc hs⟩
  · exact retN X H.1 hret ht (hb H.2 hd) hr
  · show Q _ T.heap _
    rw [eT]
    exact q
theorem own_oR {f0 : State} {h : Heap} {Q : Option Value → Heap → List Loc → Prop} {z : Addr} {ty : FieldType} (X : Stand p l e R s m args below meth c T locs cells slots) (H : own_H p c b) (hlk : meth.locks = false) (hret : meth.sig.returnType = some ty) (ht : ty.isReference = true) (w : own_Go p e below f0 T m pc L (.ref z :: S)) (hd : decode b pc = .ok (.areturn, 1)) (eT : T.heap = h) (hc : cells ≤ R.cells) (hs : slots ≤ R.slots) (q : Q (some (.ref z)) h locs) : own_E p e below f0 s R Q := by
  obtain ⟨fs, hr, hrun, hended, hW, hsame⟩ := X.leave (v := some (.ref z)) (fun h => by rw [hret] at h; cases h) hlk
  refine ⟨_, _, w _ ?_, hrun, hended, _, _, rfl, ?_, ⟨_, rfl⟩, hW, hsame.mono hc hs⟩
  · have hm' : T.vm.method? m = some meth := X.method'
    have hd' := hb H.2 hd
    jvm_step X.here [X.here.top, H.1, hd', hm', hret, Value.isRef, ht]
    first | (intro acts; rw [hr _ acts rfl rfl rfl]) | rw [hr _ _ rfl rfl rfl]
    exact Steps.refl _
  · show Q _ T.heap _
    rw [eT]
    exact q
theorem own_cS {Z : State} {h : Heap} {a0 : Array Value} {own : String} {idx : Nat} {y : MethodName} {bytes : ByteArray} {maxL : Nat} {ret : Option FieldType} {rm : Room} {as' : Array Value} {Q : Option Value → Heap → List Loc → Prop} {ps : List FieldType} {r : Option FieldType} (X : Stand p l e R s m args below meth c T locs cells slots) (H : own_H p c b) (hZ : Z.Warmed39 s.vm) (hown : s.vm.findClass own = some m.cls) {nL : Nat} (hml : c.maxLocals = nL) (hLs : L.size = nL) (M : own_M l y bytes maxL ret rm Z h as' Q)
    (w1 : (Jvm.Cond.methodLink own idx y).before a0 Z = true) (w2 : (Jvm.Cond.static y).before a0 Z = true) (w3 : (Jvm.Cond.initialized y.cls).before a0 Z = true) (w4 : (Jvm.Cond.code y bytes maxL ret).before a0 Z = true) (hp : parseMethodDescriptor y.desc = some ⟨ps, r⟩) (eT : T.heap = h) (hd : decode b pc = .ok (.invokestatic idx, 3)) (argsL rest : List Value) (ha : argsL.toArray = as') (hl : argsL.length = ps.length) (hn : y.cls ≠ "java/lang/invoke/MethodHandle" ∧ y.cls ≠ "java/lang/invoke/VarHandle") (W : Nat) (hW : (rest.map fun v => v.category).sum = W)
    (hf : rm.frames + 1 ≤ R.frames ∧ W + (maxL + 11) + rm.locals ≤ R.locals ∧ cells + rm.cells ≤ R.cells ∧ slots + rm.slots ≤ R.slots) : ∃ (v : Option Value) (T' : State) (Lc : List Loc), Stand p l e R s m args below meth c T' (locs ++ Lc) (cells + rm.cells) (slots + rm.slots) ∧ Q v T'.heap Lc ∧ ∀ t, Steps p.tables e below (T'.setTop (mkF m (pc + 3) L (v.toList ++ rest))) t → Steps p.tables e below (T.setTop (mkF m pc L (argsL.reverse ++ rest))) t := by
  obtain ⟨v, _, ⟨T', L', k', n'⟩, -, X', ⟨Lc, hQ, hl', hk', hn'⟩, st⟩ := Jvm.LawKit.callS X H.1 (y := y) hown (mvT hZ w1) (mvT hZ w2) (mvT hZ w3) (mvT hZ w4) hn (backOf (W := W) M hZ w4 w3 hf.1 hf.2.1) (g := mkF m pc L (argsL.reverse ++ rest)) rfl (hLs.trans hml.symm) (argsL := argsL) (rest := rest) (lenOf hp hl) rfl (by show 2 * 0 + _ ≤ _; omega) (hb H.2 hd) (fun _ _ => ⟨ha, eT, hf.2.2.1, hf.2.2.2⟩)
  dsimp only [Pt.U, Pt.locs, Pt.cells, Pt.slots] at X' hl' hk' hn' st hQ
  subst hl' hk' hn'
  exact ⟨v, T', Lc, X', hQ, st⟩
theorem own_cI {Z : State} {h : Heap} {a0 : Array Value} {own : String} {idx : Nat} {y : MethodName} {bytes : ByteArray} {maxL : Nat} {rm : Room} {as' : Array Value} {Q : Option Value → Heap → List Loc → Prop} {ps : List FieldType} {r : Option FieldType} (X : Stand p l e R s m args below meth c T locs cells slots) (H : own_H p c b) (hZ : Z.Warmed39 s.vm) (hown : s.vm.findClass own = some m.cls) {nL : Nat} (hml : c.maxLocals = nL) (hLs : L.size = nL) (M : own_M l y bytes maxL none rm Z h as' Q)
    (w1 : (Jvm.Cond.methodLink own idx y).before a0 Z = true) (w2 : (Jvm.Cond.instanceMethod y).before a0 Z = true) (w3 : (Jvm.Cond.initialized y.cls).before a0 Z = true) (w4 : (Jvm.Cond.code y bytes maxL none).before a0 Z = true) (hp : parseMethodDescriptor y.desc = some ⟨ps, r⟩) (eT : T.heap = h) (hd : decode b pc = .ok (.invokespecial idx, 3)) (a : Addr) (argsL rest : List Value) (ha : (.ref a :: argsL).toArray = as') (hl : argsL.length = ps.length) (hn : y.name = "<init>" ∧ y.cls ≠ "java/lang/invoke/MethodHandle" ∧ y.cls ≠ "java/lang/invoke/VarHandle") (W : Nat) (hW : (rest.map fun v => v.category).sum = W)
    (hf : rm.frames + 1 ≤ R.frames ∧ W + (maxL + 11) + rm.locals ≤ R.locals ∧ cells + rm.cells ≤ R.cells ∧ slots + rm.slots ≤ R.slots) : ∃ (v : Option Value) (T' : State) (Lc : List Loc), Stand p l e R s m args below meth c T' (locs ++ Lc) (cells + rm.cells) (slots + rm.slots) ∧ Q v T'.heap Lc ∧ ∀ t, Steps p.tables e below (T'.setTop (mkF m (pc + 3) L (v.toList ++ rest))) t → Steps p.tables e below (T.setTop (mkF m pc L (argsL.reverse ++ .ref a :: rest))) t := by
  obtain ⟨v, _, ⟨T', L', k', n'⟩, -, X', ⟨Lc, hQ, hl', hk', hn'⟩, st⟩ := X.specialBack H.1 (y := y) hn.1 hown (mvT hZ w1) (mvT hZ w2) (mvT hZ w4) hn.2 (backOf (W := W) M hZ w4 w3 hf.1 hf.2.1) (g := mkF m pc L (argsL.reverse ++ .ref a :: rest)) rfl (hLs.trans hml.symm) (Steps.refl _) (a := a) (argsL := argsL) (rest := rest) (lenOf hp hl) rfl (by show 2 * 0 + _ ≤ _; omega) (hb H.2 hd) (fun _ _ => ⟨ha, eT, hf.2.2.1, hf.2.2.2⟩)
  dsimp only [Pt.U, Pt.locs, Pt.cells, Pt.slots] at X' hl' hk' hn' st hQ
  subst hl' hk' hn'
  exact ⟨v, T', Lc, X', hQ, fun t k => st.trans k⟩
theorem own_sB {Z : State} {h : Heap} {a : Addr} {k : ClassId} {z j x : Int32} {vs vs' : List Value} {dv : Value} {i : Nat} (X : Stand p l e R s m args below meth c T locs cells slots) (H : own_H p c b) (hZ : Z.Warmed39 s.vm) (eT : T.heap = h) (F : Arv Z h a k .byte z vs dv) (hj : ¬ j < 0 ∧ j < z) (hi : j.toNatClampNeg = i) (hl : i < vs.length) (hd : decode b pc = .ok (.bastore, 1)) (hv : vs.set i (.int (nar .byte x)) = vs') : ∃ T' h', Stand p l e R s m args below meth c T' (locs ++ [⟨a, j.toNatClampNeg⟩]) cells slots ∧ T'.heap = h' ∧ Wr h h' a j.toNatClampNeg (.int (nar .byte x)) ∧ Arv Z h' a k .byte z vs' dv ∧ ∀ t, Steps p.tables e below (T'.setTop (mkF m (pc + 1) L S)) t → Steps p.tables e below (T.setTop (mkF m pc L (.int x :: .int j :: .ref a :: S))) t := by
  obtain ⟨cl, Ar, q, Zz, N, Hh, G⟩ := F
  obtain ⟨T', h', X', e', W', st⟩ := stB X H.1 hZ eT Ar (j := j) (x := x) (inb_of Zz hj) (g := mkF m pc L (.int x :: .int j :: .ref a :: S)) rfl rfl (hb H.2 hd)
  subst hv
  exact ⟨T', h', X', e', W', Arv.set Ar q Zz N Hh G (fits_nar_byte _) W' i hi hl, st⟩
theorem own_sC {Z : State} {h : Heap} {a : Addr} {k : ClassId} {z j x : Int32} {vs vs' : List Value} {dv : Value} {i : Nat} (X : Stand p l e R s m args below meth c T locs cells slots) (H : own_H p c b) (hZ : Z.Warmed39 s.vm) (eT : T.heap = h) (F : Arv Z h a k .char z vs dv) (hj : ¬ j < 0 ∧ j < z) (hi : j.toNatClampNeg = i) (hl : i < vs.length) (hd : decode b pc = .ok (.castore, 1)) (hv : vs.set i (.int (nar .char x)) = vs') : ∃ T' h', Stand p l e R s m args below meth c T' (locs ++ [⟨a, j.toNatClampNeg⟩]) cells slots ∧ T'.heap = h' ∧ Wr h h' a j.toNatClampNeg (.int (nar .char x)) ∧ Arv Z h' a k .char z vs' dv ∧ ∀ t, Steps p.tables e below (T'.setTop (mkF m (pc + 1) L S)) t → Steps p.tables e below (T.setTop (mkF m pc L (.int x :: .int j :: .ref a :: S))) t := by
  obtain ⟨cl, Ar, q, Zz, N, Hh, G⟩ := F
  obtain ⟨T', h', X', e', W', st⟩ := stC X H.1 hZ eT Ar (j := j) (x := x) (inb_of Zz hj) (g := mkF m pc L (.int x :: .int j :: .ref a :: S)) rfl rfl (hb H.2 hd)
  subst hv
  exact ⟨T', h', X', e', W', Arv.set Ar q Zz N Hh G (fits_nar_char _) W' i hi hl, st⟩
theorem own_bk {Z : State} {h : Heap} {a0 : Array Value} {y : MethodName} {bytes : ByteArray} {maxL : Nat} {ret : Option FieldType} {rm : Room} {len W : Nat} {as' : Array Value} {Q : Option Value → Heap → List Loc → Prop} (M : own_M l y bytes maxL ret rm Z h as' Q) (hZ : Z.Warmed39 s.vm) (wc : (Jvm.Cond.code y bytes maxL ret).before a0 Z = true) (wz : (Jvm.Cond.initialized y.cls).before a0 Z = true) (hf : rm.frames + 1 ≤ R.frames) (hl : W + (maxL + 11) + rm.locals ≤ R.locals) :
    Back l R p e below s args y len W (fun A a => a = as' ∧ A.U.heap = h ∧ A.cells + rm.cells ≤ R.cells ∧ A.slots + rm.slots ≤ R.slots) (fun A _ v B => ∃ L, Q v B.U.heap L ∧ B.locs = A.locs ++ L ∧ B.cells = A.cells + rm.cells ∧ B.slots = A.slots + rm.slots) := backOf M hZ wc wz hf hl
def own_El (Z : State) (h : Heap) (a : Addr) (ty : FieldType) (j : Int32) (v : Value) : Prop := ∃ cl : Cell, Arr Z h a cl ty ∧ ¬ (j < 0 ∨ cl.slots.size ≤ j.toNatClampNeg) ∧ cl.slots[j.toNatClampNeg]? = some v
theorem own_el {Z : State} {h : Heap} {a : Addr} {k : ClassId} {ty : FieldType} {z j : Int32} {vs : List Value} {dv v : Value} (F : Arv Z h a k ty z vs dv) (hj : ¬ j < 0 ∧ j < z) (hv : vs.getD j.toNatClampNeg dv = v) : own_El Z h a ty j v := by
  obtain ⟨cl, Ar, q, Zz, N, H, G⟩ := F
  exact ⟨cl, Ar, inb_of Zz hj, H.at (inb_of Zz hj) hv⟩
def own_Ln (Z : State) (h : Heap) (a : Addr) (z : Int32) : Prop := ∃ (cl : Cell) (ty : FieldType), Arr Z h a cl ty ∧ cl.slots.size.toInt32 = z
theorem own_ln {Z : State} {h : Heap} {a : Addr} {k : ClassId} {ty : FieldType} {z : Int32} {vs : List Value} {dv : Value} (F : Arv Z h a k ty z vs dv) : own_Ln Z h a z := by
  obtain ⟨cl, Ar, q, Zz, N, H, G⟩ := F
  exact ⟨cl, ty, Ar, len_of Zz N⟩
theorem zil (X : Stand p l e R s m args below meth c T locs cells slots) (H : own_H p c b) {k : Fin 4} {v : Int32} (hd : decode b pc = .ok (.iload_n k, 1)) (hl : L[k.val]? = some (.val (.int v))) (hr : Steps p.tables e below (T.setTop (mkF m (pc + 1) L (.int v :: S))) t) : Steps p.tables e below (T.setTop (mkF m pc L S)) t := XS.iloadN X.here H.1 rfl (hb H.2 hd) hl hr
theorem ziL (X : Stand p l e R s m args below meth c T locs cells slots) (H : own_H p c b) {k : Nat} {v : Int32} (hd : decode b pc = .ok (.iload k, 2)) (hl : L[k]? = some (.val (.int v))) (hr : Steps p.tables e below (T.setTop (mkF m (pc + 2) L (.int v :: S))) t) : Steps p.tables e below (T.setTop (mkF m pc L S)) t := XS.iload X.here H.1 rfl (hb H.2 hd) hl hr
theorem zal (X : Stand p l e R s m args below meth c T locs cells slots) (H : own_H p c b) {k : Fin 4} {v : Value} (hd : decode b pc = .ok (.aload_n k, 1)) (hl : L[k.val]? = some (.val v)) (hv : v.isRef = true) (hr : Steps p.tables e below (T.setTop (mkF m (pc + 1) L (v :: S))) t) : Steps p.tables e below (T.setTop (mkF m pc L S)) t := XS.aloadN X.here H.1 rfl (hb H.2 hd) hl hv hr
theorem zaL (X : Stand p l e R s m args below meth c T locs cells slots) (H : own_H p c b) {k : Nat} {v : Value} (hd : decode b pc = .ok (.aload k, 2)) (hl : L[k]? = some (.val v)) (hv : v.isRef = true) (hr : Steps p.tables e below (T.setTop (mkF m (pc + 2) L (v :: S))) t) : Steps p.tables e below (T.setTop (mkF m pc L S)) t := XS.aload X.here H.1 rfl (hb H.2 hd) hl hv hr
theorem zis (X : Stand p l e R s m args below meth c T locs cells slots) (H : own_H p c b) {k : Fin 4} {x : Int32} {L' : Array Slot} (hd : decode b pc = .ok (.istore_n k, 1)) (hl : storeLocals L k.val (.int x) = some L') (hr : Steps p.tables e below (T.setTop (mkF m (pc + 1) L' S)) t) : Steps p.tables e below (T.setTop (mkF m pc L (.int x :: S))) t := XS.istoreN X.here H.1 rfl (hb H.2 hd) rfl hl hr
theorem ziS (X : Stand p l e R s m args below meth c T locs cells slots) (H : own_H p c b) {k : Nat} {x : Int32} {L' : Array Slot} (hd : decode b pc = .ok (.istore k, 2)) (hl : storeLocals L k (.int x) = some L') (hr : Steps p.tables e below (T.setTop (mkF m (pc + 2) L' S)) t) : Steps p.tables e below (T.setTop (mkF m pc L (.int x :: S))) t := XS.istore X.here H.1 rfl (hb H.2 hd) rfl hl hr
theorem zas (X : Stand p l e R s m args below meth c T locs cells slots) (H : own_H p c b) {k : Fin 4} {x : Value} {L' : Array Slot} (hd : decode b pc = .ok (.astore_n k, 1)) (hv : x.isRef = true) (hl : storeLocals L k.val x = some L') (hr : Steps p.tables e below (T.setTop (mkF m (pc + 1) L' S)) t) : Steps p.tables e below (T.setTop (mkF m pc L (x :: S))) t := XS.astoreN X.here H.1 rfl (hb H.2 hd) rfl hv hl hr
theorem zaS (X : Stand p l e R s m args below meth c T locs cells slots) (H : own_H p c b) {k : Nat} {x : Value} {L' : Array Slot} (hd : decode b pc = .ok (.astore k, 2)) (hv : x.isRef = true) (hl : storeLocals L k x = some L') (hr : Steps p.tables e below (T.setTop (mkF m (pc + 2) L' S)) t) : Steps p.tables e below (T.setTop (mkF m pc L (x :: S))) t := XS.astore X.here H.1 rfl (hb H.2 hd) rfl hv hl hr
theorem zic (X : Stand p l e R s m args below meth c T locs cells slots) (H : own_H p c b) {i : Int} (hd : decode b pc = .ok (.iconst i, 1)) (v : Int32) (hv : Int32.ofInt i = v) (hr : Steps p.tables e below (T.setTop (mkF m (pc + 1) L (.int v :: S))) t) : Steps p.tables e below (T.setTop (mkF m pc L S)) t := by subst hv; exact XS.iconst X.here H.1 rfl (hb H.2 hd) hr
theorem zbp (X : Stand p l e R s m args below meth c T locs cells slots) (H : own_H p c b) {i : Int} (hd : decode b pc = .ok (.bipush i, 2)) (v : Int32) (hv : (Int8.ofInt i).toInt32 = v) (hr : Steps p.tables e below (T.setTop (mkF m (pc + 2) L (.int v :: S))) t) : Steps p.tables e below (T.setTop (mkF m pc L S)) t := by subst hv; exact XS.bipush X.here H.1 rfl (hb H.2 hd) hr
theorem zsp (X : Stand p l e R s m args below meth c T locs cells slots) (H : own_H p c b) {i : Int} (hd : decode b pc = .ok (.sipush i, 3)) (v : Int32) (hv : (Int16.ofInt i).toInt32 = v) (hr : Steps p.tables e below (T.setTop (mkF m (pc + 3) L (.int v :: S))) t) : Steps p.tables e below (T.setTop (mkF m pc L S)) t := by subst hv; exact XS.sipush X.here H.1 rfl (hb H.2 hd) hr
theorem znu (X : Stand p l e R s m args below meth c T locs cells slots) (H : own_H p c b)  (hd : decode b pc = .ok (.aconst_null, 1)) (hr : Steps p.tables e below (T.setTop (mkF m (pc + 1) L (.null :: S))) t) : Steps p.tables e below (T.setTop (mkF m pc L S)) t := XS.aconstNull X.here H.1 rfl (hb H.2 hd) hr
theorem zia (X : Stand p l e R s m args below meth c T locs cells slots) (H : own_H p c b) {x y : Int32} (hd : decode b pc = .ok (.iadd, 1)) (hr : Steps p.tables e below (T.setTop (mkF m (pc + 1) L (.int (x + y) :: S))) t) : Steps p.tables e below (T.setTop (mkF m pc L (.int y :: .int x :: S))) t := XS.iadd X.here H.1 rfl (hb H.2 hd) rfl hr
theorem zia' (X : Stand p l e R s m args below meth c T locs cells slots) (H : own_H p c b) {x y : Int32} (hd : decode b pc = .ok (.iadd, 1)) (v : Int32) (hv : x + y = v) (hr : Steps p.tables e below (T.setTop (mkF m (pc + 1) L (.int v :: S))) t) : Steps p.tables e below (T.setTop (mkF m pc L (.int y :: .int x :: S))) t := by subst hv; exact XS.iadd X.here H.1 rfl (hb H.2 hd) rfl hr
theorem zsu (X : Stand p l e R s m args below meth c T locs cells slots) (H : own_H p c b) {x y : Int32} (hd : decode b pc = .ok (.isub, 1)) (hr : Steps p.tables e below (T.setTop (mkF m (pc + 1) L (.int (x - y) :: S))) t) : Steps p.tables e below (T.setTop (mkF m pc L (.int y :: .int x :: S))) t := XS.isub X.here H.1 rfl (hb H.2 hd) rfl hr
theorem zsu' (X : Stand p l e R s m args below meth c T locs cells slots) (H : own_H p c b) {x y : Int32} (hd : decode b pc = .ok (.isub, 1)) (v : Int32) (hv : x - y = v) (hr : Steps p.tables e below (T.setTop (mkF m (pc + 1) L (.int v :: S))) t) : Steps p.tables e below (T.setTop (mkF m pc L (.int y :: .int x :: S))) t := by subst hv; exact XS.isub X.here H.1 rfl (hb H.2 hd) rfl hr
theorem zmu (X : Stand p l e R s m args below meth c T locs cells slots) (H : own_H p c b) {x y : Int32} (hd : decode b pc = .ok (.imul, 1)) (hr : Steps p.tables e below (T.setTop (mkF m (pc + 1) L (.int (x * y) :: S))) t) : Steps p.tables e below (T.setTop (mkF m pc L (.int y :: .int x :: S))) t := XS.imul X.here H.1 rfl (hb H.2 hd) rfl hr
theorem zmu' (X : Stand p l e R s m args below meth c T locs cells slots) (H : own_H p c b) {x y : Int32} (hd : decode b pc = .ok (.imul, 1)) (v : Int32) (hv : x * y = v) (hr : Steps p.tables e below (T.setTop (mkF m (pc + 1) L (.int v :: S))) t) : Steps p.tables e below (T.setTop (mkF m pc L (.int y :: .int x :: S))) t := by subst hv; exact XS.imul X.here H.1 rfl (hb H.2 hd) rfl hr
theorem zan (X : Stand p l e R s m args below meth c T locs cells slots) (H : own_H p c b) {x y : Int32} (hd : decode b pc = .ok (.iand, 1)) (hr : Steps p.tables e below (T.setTop (mkF m (pc + 1) L (.int (x &&& y) :: S))) t) : Steps p.tables e below (T.setTop (mkF m pc L (.int y :: .int x :: S))) t := XS.iand X.here H.1 rfl (hb H.2 hd) rfl hr
theorem zan' (X : Stand p l e R s m args below meth c T locs cells slots) (H : own_H p c b) {x y : Int32} (hd : decode b pc = .ok (.iand, 1)) (v : Int32) (hv : x &&& y = v) (hr : Steps p.tables e below (T.setTop (mkF m (pc + 1) L (.int v :: S))) t) : Steps p.tables e below (T.setTop (mkF m pc L (.int y :: .int x :: S))) t := by subst hv; exact XS.iand X.here H.1 rfl (hb H.2 hd) rfl hr
theorem zor (X : Stand p l e R s m args below meth c T locs cells slots) (H : own_H p c b) {x y : Int32} (hd : decode b pc = .ok (.ior, 1)) (hr : Steps p.tables e below (T.setTop (mkF m (pc + 1) L (.int (x ||| y) :: S))) t) : Steps p.tables e below (T.setTop (mkF m pc L (.int y :: .int x :: S))) t := XS.ior X.here H.1 rfl (hb H.2 hd) rfl hr
theorem zor' (X : Stand p l e R s m args below meth c T locs cells slots) (H : own_H p c b) {x y : Int32} (hd : decode b pc = .ok (.ior, 1)) (v : Int32) (hv : x ||| y = v) (hr : Steps p.tables e below (T.setTop (mkF m (pc + 1) L (.int v :: S))) t) : Steps p.tables e below (T.setTop (mkF m pc L (.int y :: .int x :: S))) t := by subst hv; exact XS.ior X.here H.1 rfl (hb H.2 hd) rfl hr
theorem zxo (X : Stand p l e R s m args below meth c T locs cells slots) (H : own_H p c b) {x y : Int32} (hd : decode b pc = .ok (.ixor, 1)) (hr : Steps p.tables e below (T.setTop (mkF m (pc + 1) L (.int (x ^^^ y) :: S))) t) : Steps p.tables e below (T.setTop (mkF m pc L (.int y :: .int x :: S))) t := XS.ixor X.here H.1 rfl (hb H.2 hd) rfl hr
theorem zxo' (X : Stand p l e R s m args below meth c T locs cells slots) (H : own_H p c b) {x y : Int32} (hd : decode b pc = .ok (.ixor, 1)) (v : Int32) (hv : x ^^^ y = v) (hr : Steps p.tables e below (T.setTop (mkF m (pc + 1) L (.int v :: S))) t) : Steps p.tables e below (T.setTop (mkF m pc L (.int y :: .int x :: S))) t := by subst hv; exact XS.ixor X.here H.1 rfl (hb H.2 hd) rfl hr
theorem zsl (X : Stand p l e R s m args below meth c T locs cells slots) (H : own_H p c b) {x y : Int32} (hd : decode b pc = .ok (.ishl, 1)) (hr : Steps p.tables e below (T.setTop (mkF m (pc + 1) L (.int (x <<< (y &&& 31)) :: S))) t) : Steps p.tables e below (T.setTop (mkF m pc L (.int y :: .int x :: S))) t := XS.ishl X.here H.1 rfl (hb H.2 hd) rfl hr
theorem zsl' (X : Stand p l e R s m args below meth c T locs cells slots) (H : own_H p c b) {x y : Int32} (hd : decode b pc = .ok (.ishl, 1)) (v : Int32) (hv : x <<< (y &&& 31) = v) (hr : Steps p.tables e below (T.setTop (mkF m (pc + 1) L (.int v :: S))) t) : Steps p.tables e below (T.setTop (mkF m pc L (.int y :: .int x :: S))) t := by subst hv; exact XS.ishl X.here H.1 rfl (hb H.2 hd) rfl hr
theorem zsr (X : Stand p l e R s m args below meth c T locs cells slots) (H : own_H p c b) {x y : Int32} (hd : decode b pc = .ok (.ishr, 1)) (hr : Steps p.tables e below (T.setTop (mkF m (pc + 1) L (.int (x >>> (y &&& 31)) :: S))) t) : Steps p.tables e below (T.setTop (mkF m pc L (.int y :: .int x :: S))) t := XS.ishr X.here H.1 rfl (hb H.2 hd) rfl hr
theorem zsr' (X : Stand p l e R s m args below meth c T locs cells slots) (H : own_H p c b) {x y : Int32} (hd : decode b pc = .ok (.ishr, 1)) (v : Int32) (hv : x >>> (y &&& 31) = v) (hr : Steps p.tables e below (T.setTop (mkF m (pc + 1) L (.int v :: S))) t) : Steps p.tables e below (T.setTop (mkF m pc L (.int y :: .int x :: S))) t := by subst hv; exact XS.ishr X.here H.1 rfl (hb H.2 hd) rfl hr
theorem zus (X : Stand p l e R s m args below meth c T locs cells slots) (H : own_H p c b) {x y : Int32} (hd : decode b pc = .ok (.iushr, 1)) (hr : Steps p.tables e below (T.setTop (mkF m (pc + 1) L (.int ((x.toUInt32 >>> (y &&& 31).toUInt32).toInt32) :: S))) t) : Steps p.tables e below (T.setTop (mkF m pc L (.int y :: .int x :: S))) t := XS.iushr X.here H.1 rfl (hb H.2 hd) rfl hr
theorem zus' (X : Stand p l e R s m args below meth c T locs cells slots) (H : own_H p c b) {x y : Int32} (hd : decode b pc = .ok (.iushr, 1)) (v : Int32) (hv : (x.toUInt32 >>> (y &&& 31).toUInt32).toInt32 = v) (hr : Steps p.tables e below (T.setTop (mkF m (pc + 1) L (.int v :: S))) t) : Steps p.tables e below (T.setTop (mkF m pc L (.int y :: .int x :: S))) t := by subst hv; exact XS.iushr X.here H.1 rfl (hb H.2 hd) rfl hr
theorem zib (X : Stand p l e R s m args below meth c T locs cells slots) (H : own_H p c b) {x : Int32} (hd : decode b pc = .ok (.i2b, 1)) (hr : Steps p.tables e below (T.setTop (mkF m (pc + 1) L (.int (x.toInt8.toInt32) :: S))) t) : Steps p.tables e below (T.setTop (mkF m pc L (.int x :: S))) t := XS.i2b X.here H.1 rfl (hb H.2 hd) rfl hr
theorem zib' (X : Stand p l e R s m args below meth c T locs cells slots) (H : own_H p c b) {x : Int32} (hd : decode b pc = .ok (.i2b, 1)) (v : Int32) (hv : x.toInt8.toInt32 = v) (hr : Steps p.tables e below (T.setTop (mkF m (pc + 1) L (.int v :: S))) t) : Steps p.tables e below (T.setTop (mkF m pc L (.int x :: S))) t := by subst hv; exact XS.i2b X.here H.1 rfl (hb H.2 hd) rfl hr
theorem zik (X : Stand p l e R s m args below meth c T locs cells slots) (H : own_H p c b) {x : Int32} (hd : decode b pc = .ok (.i2c, 1)) (hr : Steps p.tables e below (T.setTop (mkF m (pc + 1) L (.int (x.toUInt32.toUInt16.toUInt32.toInt32) :: S))) t) : Steps p.tables e below (T.setTop (mkF m pc L (.int x :: S))) t := XS.i2c X.here H.1 rfl (hb H.2 hd) rfl hr
theorem zik' (X : Stand p l e R s m args below meth c T locs cells slots) (H : own_H p c b) {x : Int32} (hd : decode b pc = .ok (.i2c, 1)) (v : Int32) (hv : x.toUInt32.toUInt16.toUInt32.toInt32 = v) (hr : Steps p.tables e below (T.setTop (mkF m (pc + 1) L (.int v :: S))) t) : Steps p.tables e below (T.setTop (mkF m pc L (.int x :: S))) t := by subst hv; exact XS.i2c X.here H.1 rfl (hb H.2 hd) rfl hr
theorem zne (X : Stand p l e R s m args below meth c T locs cells slots) (H : own_H p c b) {x : Int32} (hd : decode b pc = .ok (.ineg, 1)) (hr : Steps p.tables e below (T.setTop (mkF m (pc + 1) L (.int (-x) :: S))) t) : Steps p.tables e below (T.setTop (mkF m pc L (.int x :: S))) t := XS.ineg X.here H.1 rfl (hb H.2 hd) rfl hr
theorem zne' (X : Stand p l e R s m args below meth c T locs cells slots) (H : own_H p c b) {x : Int32} (hd : decode b pc = .ok (.ineg, 1)) (v : Int32) (hv : -x = v) (hr : Steps p.tables e below (T.setTop (mkF m (pc + 1) L (.int v :: S))) t) : Steps p.tables e below (T.setTop (mkF m pc L (.int x :: S))) t := by subst hv; exact XS.ineg X.here H.1 rfl (hb H.2 hd) rfl hr
theorem zii (X : Stand p l e R s m args below meth c T locs cells slots) (H : own_H p c b) {k : Nat} {i : Int} {x : Int32} {L' : Array Slot} (hd : decode b pc = .ok (.iinc k i, 3)) (hl : L[k]? = some (.val (.int x))) (v : Int32) (hv : x + Int32.ofInt i = v) (hl' : storeLocals L k (.int v) = some L') (hr : Steps p.tables e below (T.setTop (mkF m (pc + 3) L' S)) t) : Steps p.tables e below (T.setTop (mkF m pc L S)) t := by subst hv; exact XS.iinc X.here H.1 rfl (hb H.2 hd) hl hl' hr
theorem zgo (X : Stand p l e R s m args below meth c T locs cells slots) (H : own_H p c b) {o : Int} {p0 : Nat} (hd : decode b p0 = .ok (.goto o, 3)) (q : Nat) (hq : 0 ≤ (p0 : Int) + o ∧ ((p0 : Int) + o).toNat = q) (hpc : pc = p0) (hr : Steps p.tables e below (T.setTop (mkF m q L S)) t) : Steps p.tables e below (T.setTop (mkF m pc L S)) t := by subst hpc; exact XS.goto X.here H.1 rfl rfl (hb H.2 hd) hq.1 hq.2 hr
theorem ziy (X : Stand p l e R s m args below meth c T locs cells slots) (H : own_H p c b) {cd : ClassFile.Cond} {x : Int32} {o : Int} {p0 : Nat} (hd : decode b p0 = .ok (.ifCond cd o, 3)) (hc : ifCond.holds cd x = true) (q : Nat) (hq : 0 ≤ (p0 : Int) + o ∧ ((p0 : Int) + o).toNat = q) (hpc : pc = p0) (hr : Steps p.tables e below (T.setTop (mkF m q L S)) t) : Steps p.tables e below (T.setTop (mkF m pc L (.int x :: S))) t := by subst hpc; exact XS.ifYes X.here H.1 rfl rfl (hb H.2 hd) rfl hc hq.1 hq.2 hr
theorem zin (X : Stand p l e R s m args below meth c T locs cells slots) (H : own_H p c b) {cd : ClassFile.Cond} {x : Int32} {o : Int} (hd : decode b pc = .ok (.ifCond cd o, 3)) (hc : ifCond.holds cd x = false) (hr : Steps p.tables e below (T.setTop (mkF m (pc + 3) L S)) t) : Steps p.tables e below (T.setTop (mkF m pc L (.int x :: S))) t := XS.ifNo X.here H.1 rfl (hb H.2 hd) rfl hc hr
theorem zcy (X : Stand p l e R s m args below meth c T locs cells slots) (H : own_H p c b) {cd : ClassFile.Cond} {x y : Int32} {o : Int} {p0 : Nat} (hd : decode b p0 = .ok (.if_icmp cd o, 3)) (hc : if_icmp.holds cd x y = true) (q : Nat) (hq : 0 ≤ (p0 : Int) + o ∧ ((p0 : Int) + o).toNat = q) (hpc : pc = p0) (hr : Steps p.tables e below (T.setTop (mkF m q L S)) t) : Steps p.tables e below (T.setTop (mkF m pc L (.int y :: .int x :: S))) t := by subst hpc; exact XS.icmpYes X.here H.1 rfl rfl (hb H.2 hd) rfl hc hq.1 hq.2 hr
theorem zcn (X : Stand p l e R s m args below meth c T locs cells slots) (H : own_H p c b) {cd : ClassFile.Cond} {x y : Int32} {o : Int} (hd : decode b pc = .ok (.if_icmp cd o, 3)) (hc : if_icmp.holds cd x y = false) (hr : Steps p.tables e below (T.setTop (mkF m (pc + 3) L S)) t) : Steps p.tables e below (T.setTop (mkF m pc L (.int y :: .int x :: S))) t := XS.icmpNo X.here H.1 rfl (hb H.2 hd) rfl hc hr
theorem zdu (X : Stand p l e R s m args below meth c T locs cells slots) (H : own_H p c b) {v : Value} (hd : decode b pc = .ok (.dup, 1)) (hc : v.category = 1) (hr : Steps p.tables e below (T.setTop (mkF m (pc + 1) L (v :: v :: S))) t) : Steps p.tables e below (T.setTop (mkF m pc L (v :: S))) t := XS.dup X.here H.1 rfl (hb H.2 hd) rfl hc hr
theorem zpo (X : Stand p l e R s m args below meth c T locs cells slots) (H : own_H p c b) {v : Value} (hd : decode b pc = .ok (.pop, 1)) (hc : v.category = 1) (hr : Steps p.tables e below (T.setTop (mkF m (pc + 1) L S)) t) : Steps p.tables e below (T.setTop (mkF m pc L (v :: S))) t := XS.pop X.here H.1 rfl (hb H.2 hd) rfl hc hr
theorem zba (X : Stand p l e R s m args below meth c T locs cells slots) (H : own_H p c b) {Z : State} {h : Heap} {a : Addr} {j : Int32} {v : Value} (hZ : Z.Warmed39 s.vm) (eT : T.heap = h) (B : own_El Z h a .byte j v) (hd : decode b pc = .ok (.baload, 1)) (hr : Steps p.tables e below (T.setTop (mkF m (pc + 1) L (v :: S))) t) : Steps p.tables e below (T.setTop (mkF m pc L (.int j :: .ref a :: S))) t := by
  obtain ⟨cl, Ar, hin, hat⟩ := B
  exact X.baloadBytes H.1 (j := j) (v := v) (by rw [eT]; exact Ar.1) (State.isArrayOf_alike hZ.alike Ar.2.1) Ar.2.2 hin hat (g := mkF m pc L (.int j :: .ref a :: S)) rfl rfl (hb H.2 hd) _ hr
theorem zca (X : Stand p l e R s m args below meth c T locs cells slots) (H : own_H p c b) {Z : State} {h : Heap} {a : Addr} {j : Int32} {v : Value} (hZ : Z.Warmed39 s.vm) (eT : T.heap = h) (B : own_El Z h a .char j v) (hd : decode b pc = .ok (.caload, 1)) (hr : Steps p.tables e below (T.setTop (mkF m (pc + 1) L (v :: S))) t) : Steps p.tables e below (T.setTop (mkF m pc L (.int j :: .ref a :: S))) t := by
  obtain ⟨cl, Ar, hin, hat⟩ := B
  exact X.caload H.1 (j := j) (v := v) (by rw [eT]; exact Ar.1) (State.isArrayOf_alike hZ.alike Ar.2.1) Ar.2.2 hin hat (g := mkF m pc L (.int j :: .ref a :: S)) rfl rfl (hb H.2 hd) _ hr
theorem zia_ (X : Stand p l e R s m args below meth c T locs cells slots) (H : own_H p c b) {Z : State} {h : Heap} {a : Addr} {j : Int32} {v : Value} (hZ : Z.Warmed39 s.vm) (eT : T.heap = h) (B : own_El Z h a .int j v) (hd : decode b pc = .ok (.iaload, 1)) (hr : Steps p.tables e below (T.setTop (mkF m (pc + 1) L (v :: S))) t) : Steps p.tables e below (T.setTop (mkF m pc L (.int j :: .ref a :: S))) t := by
  obtain ⟨cl, Ar, hin, hat⟩ := B
  exact X.iaload H.1 (j := j) (v := v) (by rw [eT]; exact Ar.1) (State.isArrayOf_alike hZ.alike Ar.2.1) Ar.2.2 hin hat (g := mkF m pc L (.int j :: .ref a :: S)) rfl rfl (hb H.2 hd) _ hr
theorem zal_ (X : Stand p l e R s m args below meth c T locs cells slots) (H : own_H p c b) {Z : State} {h : Heap} {a : Addr} {z : Int32} (hZ : Z.Warmed39 s.vm) (eT : T.heap = h) (B : own_Ln Z h a z) (hd : decode b pc = .ok (.arraylength, 1)) (hr : Steps p.tables e below (T.setTop (mkF m (pc + 1) L (.int z :: S))) t) : Steps p.tables e below (T.setTop (mkF m pc L (.ref a :: S))) t := by
  obtain ⟨cl, ty, Ar, hz⟩ := B
  subst hz
  exact X.arraylength H.1 (by rw [eT]; exact Ar.1) (State.isArrayOf_alike hZ.alike Ar.2.1) (g := mkF m pc L (.ref a :: S)) rfl rfl (hb H.2 hd) _ hr
end Short
abbrev own_n7 : MethodName := ⟨"com/example/gradual_reply/gradualreply/EncodedBody", "<init>", "(Ljava/lang/String;[B)V"⟩
abbrev own_n8 : MethodName := ⟨"com/example/gradual_reply/gradualreply/EncodedBody", "text", "()Ljava/lang/String;"⟩
abbrev own_n9 : MethodName := ⟨"java/lang/String", "<init>", "([BLjava/nio/charset/Charset;)V"⟩
abbrev own_n11 : MethodName := ⟨"java/lang/String", "<init>", "(Ljava/nio/charset/Charset;[BII)V"⟩
abbrev own_n12 : MethodName := ⟨"java/lang/StringCoding", "countPositives", "([BII)I"⟩
abbrev own_n10 : MethodName := ⟨"java/util/Objects", "requireNonNull", "(Ljava/lang/Object;)Ljava/lang/Object;"⟩
abbrev own_n27 : MethodName := ⟨"java/lang/String", "decodeUTF8_UTF16", "([BII[BIZ)I"⟩
abbrev own_n32 : MethodName := ⟨"java/lang/Character", "lowSurrogate", "(I)C"⟩
abbrev own_n31 : MethodName := ⟨"java/lang/Character", "highSurrogate", "(I)C"⟩
abbrev own_n30 : MethodName := ⟨"java/lang/Character", "isSupplementaryCodePoint", "(I)Z"⟩
abbrev own_n39 : MethodName := ⟨"java/lang/Character", "isSurrogate", "(C)Z"⟩
abbrev own_n29 : MethodName := ⟨"java/lang/String", "isMalformed4", "(III)Z"⟩
abbrev own_n37 : MethodName := ⟨"java/lang/String", "isMalformed3", "(III)Z"⟩
abbrev own_n35 : MethodName := ⟨"java/lang/String", "isNotContinuation", "(I)Z"⟩
abbrev own_n28 : MethodName := ⟨"java/lang/String", "decode4", "(IIII)I"⟩
abbrev own_n38 : MethodName := ⟨"java/lang/String", "decode3", "(III)C"⟩
abbrev own_n36 : MethodName := ⟨"java/lang/String", "decode2", "(II)C"⟩
abbrev own_n21 : MethodName := ⟨"java/lang/StringLatin1", "inflate", "([BI[BII)V"⟩
abbrev own_n22 : MethodName := ⟨"java/lang/StringUTF16", "inflate", "([BI[BII)V"⟩
abbrev own_n23 : MethodName := ⟨"java/lang/StringUTF16", "checkBoundsOffCount", "(II[B)V"⟩
abbrev own_n25 : MethodName := ⟨"java/lang/String", "checkBoundsOffCount", "(III)I"⟩
abbrev own_n26 : MethodName := ⟨"jdk/internal/util/Preconditions", "checkFromIndexSize", "(IIILjava/util/function/BiFunction;)I"⟩
abbrev own_n24 : MethodName := ⟨"java/lang/StringUTF16", "length", "([B)I"⟩
abbrev own_n33 : MethodName := ⟨"java/util/Arrays", "copyOf", "([BI)[B"⟩
abbrev own_n34 : MethodName := ⟨"java/lang/Math", "min", "(II)I"⟩
abbrev own_n13 : MethodName := ⟨"java/util/Arrays", "copyOfRange", "([BII)[B"⟩
abbrev own_n1 : MethodName := ⟨"java/lang/String", "<init>", "([C)V"⟩
abbrev own_n2 : MethodName := ⟨"java/lang/String", "<init>", "([CIILjava/lang/Void;)V"⟩
abbrev own_n4 : MethodName := ⟨"java/lang/StringUTF16", "compress", "([CII)[B"⟩
abbrev own_n5 : MethodName := ⟨"java/lang/StringUTF16", "compress", "([CI[BII)I"⟩
abbrev own_n6 : MethodName := ⟨"java/lang/StringUTF16", "coderFromArrayLen", "([BI)B"⟩
abbrev own_n20 : MethodName := ⟨"java/lang/StringUTF16", "getChar", "([BI)C"⟩
abbrev own_n16 : MethodName := ⟨"java/lang/StringUTF16", "toBytes", "([CII)[B"⟩
abbrev own_n19 : MethodName := ⟨"java/lang/StringUTF16", "putChar", "([BII)V"⟩
abbrev own_n17 : MethodName := ⟨"java/lang/StringUTF16", "newBytesFor", "(I)[B"⟩
abbrev own_n18 : MethodName := ⟨"java/lang/StringUTF16", "newBytesLength", "(I)I"⟩
abbrev consts_1 : List (String × Nat) := []
theorem own_sf0 {Z : State} {vm : Vm} {h : Heap} {x : Addr} : Safe Z consts_1 vm h x := fun B => by
  obtain ⟨p, hp, -⟩ := B
  cases hp
theorem own_safeN {Z : State} {EL : List (String × Nat)} {vm : Vm} {h h' : Heap} {x : Addr} (H : CHv Z EL vm h) (E : Ext h h') (hx : h.size ≤ x) : Safe Z EL vm h' x := fun B => Safe.new hx ((H.step fun _ _ _ q => E.2 _ _ q).2 _ B)
theorem own_since (s : State) (n : Nat) : s.Since s.vm n := (State.WarmedH.refl s).since n
theorem own_mono {s t : State} {o : Outcome} {L : List Loc} {k n k' n' : Nat} (h : ReturnedEndW s o t L k n) (hk : k ≤ k') (hn : n ≤ n') : ReturnedEndW s o t L k' n' := ⟨h.1, h.2.1, h.2.2.1, h.2.2.2.mono hk hn⟩
theorem own_EW {Z : State} {a0 : Array Value} (hw : ∀ d ∈ tables_1, d.before a0 Z = true) : EW Z a0 consts_1 := EW.nil
theorem own_wS {Z : State} {a0 : Array Value} (hw : ∀ d ∈ tables_1, d.before a0 Z = true) : ∀ a ∈ Bundle.stringAtoms, a.before a0 Z = true := fun d hd => by
  simp only [Bundle.stringAtoms, List.mem_cons, List.not_mem_nil, or_false] at hd
  rcases hd with rfl | rfl | rfl | rfl | rfl | rfl | rfl
  · exact (hw _ (List.mem_of_getElem? (i := 7) rfl))
  · exact (hw _ (List.mem_of_getElem? (i := 6) rfl))
  · exact (hw _ (List.mem_of_getElem? (i := 3) rfl))
  · exact (hw _ (List.mem_of_getElem? (i := 32) rfl))
  · exact (hw _ (List.mem_of_getElem? (i := 30) rfl))
  · exact (hw _ (List.mem_of_getElem? (i := 37) rfl))
  · exact (hw _ (List.mem_of_getElem? (i := 38) rfl))
theorem own_wEq {Z : State} {a0 : Array Value} (hw : ∀ d ∈ tables_1, d.before a0 Z = true) : ∀ d ∈ StrChars.Road.wordsEq, d.before a0 Z = true := fun d hd => hw d ((by decide +kernel : ∀ d ∈ StrChars.Road.wordsEq, d ∈ tables_1) d hd)
theorem own_up {cs : List Int32} (h : ∀ c ∈ cs, ¬ c < 0 ∧ ¬ (255 : Int32) < c) : ∀ c ∈ cs, ¬ c < 0 ∧ ¬ (65535 : Int32) < c := fun c hc => ⟨(h c hc).1, fun q => (h c hc).2 (by rw [Int32.lt_iff_toInt_lt] at q ⊢; have e1 : (65535 : Int32).toInt = 65535 := rfl; have e2 : (255 : Int32).toInt = 255 := rfl; omega)⟩
def own_eqs (cs ds : List Int32) : Int32 := if cs = ds then 1 else 0
theorem own_ey {cs ds : List Int32} (h : cs = ds) : ¬ own_eqs cs ds = 0 := by
  unfold own_eqs
  rw [if_pos h]; decide
theorem own_en {cs ds : List Int32} (h : ¬ cs = ds) : own_eqs cs ds = 0 := by
  unfold own_eqs
  rw [if_neg h]
theorem own_safe0 {Z : State} {a0 : Array Value} {EL : List (String × Nat)} {vm : Vm} {h : Heap} {x : Addr} (hZ : Z.Warmed39 vm) (wi : (Jvm.Cond.instantiable "java/lang/String" 4).before a0 Z = true) (E : Exa Z h x "java/lang/String") (F : Fld Z h x "java/lang/String" "value" "[B" .null) : Safe Z EL vm h x := fun B => by
  obtain ⟨p, -, u, a, -, q, hqa, G, hx⟩ := B
  obtain ⟨cS, ⟨⟨s1, s2, s3, ⟨cv, kv, iv, s4, s4'⟩, ⟨cc, kc, ic, s5, s5'⟩, s6, s7, s8, s9, s10, s11, s12, s13, s14, s15, s16⟩, hfS, hcS⟩, ⟨kS, k1, k2, k3⟩, hB, hbyt⟩ := G
  rcases hx with hx | hx
  · obtain ⟨cell, cf, k, i, f, e1, e2, e3, e4, e5, e6, e7⟩ := F
    obtain ⟨kv', z4⟩ := ff_back (U := Wst Z vm h) hZ.alike s4
    cases e2.symm.trans z4
    have s1' : h[q.sa]? = some q.sC := s1
    rw [← hx, e1] at s1'
    cases s1'
    rw [e7] at s8
    cases s8
  · obtain ⟨cell, k, e1, e2, e3, e4, e5⟩ := E
    have s10' : h[q.sd]? = some q.SA := s10
    rw [← hx, e1] at s10'
    cases s10'
    obtain ⟨-, k9, hk9, comp, hkind9⟩ := s11
    obtain ⟨c1, kk, f1, f2, f3, -⟩ := Cond.instantiable_spec wi
    cases e2.symm.trans f1
    obtain ⟨k', q1, q2⟩ := hZ.alike.2.2 _ _ f2
    have hk9' : vm.classes[q.SA.cls]? = some k9 := hk9
    have e9 : k9 = k' := Option.some.inj (hk9'.symm.trans q1)
    rw [e9, q2, f3] at hkind9
    cases hkind9

def own_b (x : Int32) : Int32 := (x.toInt8.toInt32).toInt8.toInt32
def own_k (x : Int32) : Int32 := x.toUInt32.toUInt16.toUInt32.toInt32
def own_d2 (b1 b2 : Int32) : Int32 := own_k (own_k (((b1 <<< ((6 : Int32) &&& 31)) ^^^ b2) ^^^ (3968 : Int32)))
def own_d3 (b1 b2 b3 : Int32) : Int32 := own_k (own_k (((b1 <<< ((12 : Int32) &&& 31)) ^^^ (b2 <<< ((6 : Int32) &&& 31))) ^^^ (b3 ^^^ (-123008 : Int32))))
def own_d4 (b1 b2 b3 b4 : Int32) : Int32 := (((b1 <<< ((18 : Int32) &&& 31)) ^^^ (b2 <<< ((12 : Int32) &&& 31))) ^^^ (b3 <<< ((6 : Int32) &&& 31))) ^^^ (b4 ^^^ (3678080 : Int32))
def own_hs (c : Int32) : Int32 := own_k (own_k ((c.toUInt32 >>> ((10 : Int32) &&& 31).toUInt32).toInt32 + (55232 : Int32)))
def own_ls (c : Int32) : Int32 := own_k (own_k ((c &&& (1023 : Int32)) + (56320 : Int32)))
def own_xh (c : Int32) : Int32 := own_k (own_k ((55296 : Int32) + ((c - (65536 : Int32)) >>> ((10 : Int32) &&& 31))))
def own_xl (c : Int32) : Int32 := own_k (own_k ((56320 : Int32) + ((c - (65536 : Int32)) &&& (1023 : Int32))))
def own_2a (c : Int32) : Int32 := own_b ((192 : Int32) ||| (c >>> ((6 : Int32) &&& 31)))
def own_3a (c : Int32) : Int32 := own_b ((224 : Int32) ||| (c >>> ((12 : Int32) &&& 31)))
def own_4a (c : Int32) : Int32 := own_b ((240 : Int32) ||| (c >>> ((18 : Int32) &&& 31)))
def own_t12 (c : Int32) : Int32 := own_b ((128 : Int32) ||| ((c >>> ((12 : Int32) &&& 31)) &&& (63 : Int32)))
def own_t6 (c : Int32) : Int32 := own_b ((128 : Int32) ||| ((c >>> ((6 : Int32) &&& 31)) &&& (63 : Int32)))
def own_t0 (c : Int32) : Int32 := own_b ((128 : Int32) ||| (c &&& (63 : Int32)))
theorem own_bvb (x : Int32) : (own_b x).toBitVec = (x.toBitVec.setWidth 8).signExtend 32 := by
  have e : BitVec.signExtend 8 x.toBitVec = BitVec.setWidth 8 x.toBitVec := BitVec.signExtend_eq_setWidth_of_le _ (by decide)
  simp [own_b, e]
theorem own_bvk (x : Int32) : (own_k x).toBitVec = (x.toBitVec.setWidth 16).setWidth 32 := rfl
def own_lt (c : Int32) (n : Nat) : Prop := ∀ i, n ≤ i → c.toBitVec.getLsbD i = false
theorem own_bits {c : Int32} {n : Nat} (h0 : 0 ≤ c.toInt) (h : c.toInt < 2 ^ n) : own_lt c n := fun i hi => by
  have e : c.toBitVec.toNat < 2 ^ n := by
    have : (c.toBitVec.toNat : Int) = c.toInt := by
      have q := BitVec.toInt_eq_toNat_cond c.toBitVec
      have r : c.toBitVec.toInt = c.toInt := rfl
      have := c.toBitVec.isLt
      split at q <;> omega
    have e2 : ((2 ^ n : Nat) : Int) = (2 : Int) ^ n := by simp
    omega
  rw [BitVec.getLsbD]
  exact Nat.testBit_lt_two_pow (Nat.lt_of_lt_of_le e (Nat.pow_le_pow_right (by decide) hi))
theorem own_d3e (c : Int32) (h : own_lt c 16) : own_d3 (own_3a c) (own_t6 c) (own_t0 c) = c := by
  apply Int32.toBitVec_inj.mp
  unfold own_d3 own_3a own_t6 own_t0
  simp only [own_bvk, Int32.toBitVec_xor, Int32.toBitVec_shiftLeft, own_bvb, Int32.toBitVec_or, Int32.toBitVec_and, Int32.toBitVec_shiftRight]
  unfold own_lt at h
  generalize c.toBitVec = x at *
  apply BitVec.eq_of_getLsbD_eq
  intro i hi
  have : i = 0 ∨ i = 1 ∨ i = 2 ∨ i = 3 ∨ i = 4 ∨ i = 5 ∨ i = 6 ∨ i = 7 ∨ i = 8 ∨ i = 9 ∨ i = 10 ∨ i = 11 ∨ i = 12 ∨ i = 13 ∨ i = 14 ∨ i = 15 ∨ 16 ≤ i := by omega
  rcases this with rfl | rfl | rfl | rfl | rfl | rfl | rfl | rfl | rfl | rfl | rfl | rfl | rfl | rfl | rfl | rfl | h16
  case inr.inr.inr.inr.inr.inr.inr.inr.inr.inr.inr.inr.inr.inr.inr.inr =>
    have z : ∀ y : BitVec 32, ((y.setWidth 16).setWidth 32).getLsbD i = false := fun y => by
      rw [BitVec.getLsbD_setWidth, BitVec.getLsbD_setWidth, decide_eq_false (show ¬ i < 16 by omega)]; simp
    rw [z, h i h16]
  all_goals simp [BitVec.getLsbD_sshiftRight, BitVec.getLsbD_signExtend, BitVec.getElem_signExtend, BitVec.getElem_sshiftRight, BitVec.msb_eq_getLsbD_last]
theorem own_d4e (c : Int32) (h : own_lt c 21) : own_d4 (own_4a c) (own_t12 c) (own_t6 c) (own_t0 c) = c := by
  apply Int32.toBitVec_inj.mp
  unfold own_d4 own_4a own_t12 own_t6 own_t0
  simp only [Int32.toBitVec_xor, Int32.toBitVec_shiftLeft, own_bvb, Int32.toBitVec_or, Int32.toBitVec_and, Int32.toBitVec_shiftRight]
  have hm : c.toBitVec[31] = false := h 31 (by decide)
  have h21 := h 21 (by decide); have h22 := h 22 (by decide); have h23 := h 23 (by decide); have h24 := h 24 (by decide); have h25 := h 25 (by decide); have h26 := h 26 (by decide); have h27 := h 27 (by decide); have h28 := h 28 (by decide); have h29 := h 29 (by decide); have h30 := h 30 (by decide)
  generalize c.toBitVec = x at *
  apply BitVec.eq_of_getLsbD_eq
  intro i hi
  have : i = 0 ∨ i = 1 ∨ i = 2 ∨ i = 3 ∨ i = 4 ∨ i = 5 ∨ i = 6 ∨ i = 7 ∨ i = 8 ∨ i = 9 ∨ i = 10 ∨ i = 11 ∨ i = 12 ∨ i = 13 ∨ i = 14 ∨ i = 15 ∨ i = 16 ∨ i = 17 ∨ i = 18 ∨ i = 19 ∨ i = 20 ∨ i = 21 ∨ i = 22 ∨ i = 23 ∨ i = 24 ∨ i = 25 ∨ i = 26 ∨ i = 27 ∨ i = 28 ∨ i = 29 ∨ i = 30 ∨ i = 31 := by omega
  simp only [BitVec.getLsbD_eq_getElem (show 21 < 32 by decide), BitVec.getLsbD_eq_getElem (show 22 < 32 by decide), BitVec.getLsbD_eq_getElem (show 23 < 32 by decide), BitVec.getLsbD_eq_getElem (show 24 < 32 by decide), BitVec.getLsbD_eq_getElem (show 25 < 32 by decide), BitVec.getLsbD_eq_getElem (show 26 < 32 by decide), BitVec.getLsbD_eq_getElem (show 27 < 32 by decide), BitVec.getLsbD_eq_getElem (show 28 < 32 by decide), BitVec.getLsbD_eq_getElem (show 29 < 32 by decide), BitVec.getLsbD_eq_getElem (show 30 < 32 by decide)] at h21 h22 h23 h24 h25 h26 h27 h28 h29 h30
  rcases this with rfl | rfl | rfl | rfl | rfl | rfl | rfl | rfl | rfl | rfl | rfl | rfl | rfl | rfl | rfl | rfl | rfl | rfl | rfl | rfl | rfl | rfl | rfl | rfl | rfl | rfl | rfl | rfl | rfl | rfl | rfl | rfl
  all_goals simp [BitVec.getLsbD_sshiftRight, BitVec.getLsbD_signExtend, BitVec.getElem_signExtend, BitVec.getElem_sshiftRight, BitVec.msb_eq_getLsbD_last, hm, h21, h22, h23, h24, h25, h26, h27, h28, h29, h30]
theorem own_shr (c : Int32) (k : Nat) (q : Int32) (hq : (q &&& 31).toBitVec.smod 32 = BitVec.ofNat 32 k) (hk : k < 32) : (c >>> (q &&& 31)).toInt = c.toInt / 2 ^ k := by
  show (c >>> (q &&& 31)).toBitVec.toInt = _
  rw [Int32.toBitVec_shiftRight, hq, BitVec.sshiftRight_eq', BitVec.toInt_sshiftRight, Int.shiftRight_eq_div_pow]
  rw [BitVec.toNat_ofNat, Nat.mod_eq_of_lt (by omega)]
  rfl
theorem own_ex (x : Int32) (n : Nat) (h0 : 0 ≤ x.toInt) (h : x.toInt < n) (hn : n ≤ 2147483647) : ∃ k : Fin n, x = Int32.ofNat k.val := by
  refine ⟨⟨x.toInt.toNat, by omega⟩, ?_⟩
  apply Int32.toInt_inj.mp
  rw [Int32.toInt_ofNat_of_lt (by show x.toInt.toNat < _; omega)]
  show _ = (x.toInt.toNat : Int)
  omega
theorem own_mask (x : Int32) (n : Nat) (hn : n < 31) (m : Int32) (hm : m.toBitVec = BitVec.ofNat 32 (2 ^ n - 1)) : 0 ≤ (x &&& m).toInt ∧ (x &&& m).toInt < 2 ^ n := by
  have hp : 2 ^ n ≤ 2 ^ 30 := Nat.pow_le_pow_right (by decide) (by omega)
  have hp0 : 0 < 2 ^ n := Nat.pow_pos (by decide)
  have e : (x &&& m).toBitVec.toNat < 2 ^ n := by
    rw [Int32.toBitVec_and, hm, BitVec.toNat_and, BitVec.toNat_ofNat, Nat.mod_eq_of_lt (a := 2 ^ n - 1) (by omega)]
    have := Nat.and_le_right (n := x.toBitVec.toNat) (m := 2 ^ n - 1)
    omega
  have q := BitVec.toInt_eq_toNat_cond (x &&& m).toBitVec
  have r : (x &&& m).toBitVec.toInt = (x &&& m).toInt := rfl
  rw [r] at q
  have e2 : ((2 ^ n : Nat) : Int) = (2 : Int) ^ n := by simp
  rw [if_pos (by omega)] at q
  omega
theorem own_m63 (x : Int32) : ∃ k : Fin 64, x &&& (63 : Int32) = Int32.ofNat k.val := own_ex _ 64 (own_mask x 6 (by decide) 63 (by decide)).1 (own_mask x 6 (by decide) 63 (by decide)).2 (by decide)
def own_P2 (c b1 b2 : Int32) : Prop := b1 < 0 ∧ (b1 >>> ((5 : Int32) &&& 31)) = (-2 : Int32) ∧ ¬ (b1 &&& (30 : Int32)) = (0 : Int32) ∧ (b2 &&& (192 : Int32)) = (128 : Int32) ∧ b2 < (-64 : Int32) ∧ own_d2 b1 b2 = c ∧ ((b1 &&& (254 : Int32)) = (194 : Int32) ↔ c < 256)
instance (c b1 b2 : Int32) : Decidable (own_P2 c b1 b2) := by unfold own_P2; infer_instance
set_option maxRecDepth 100000 in
theorem own_p2 (c : Int32) (h0 : 128 ≤ c.toInt) (h1 : c.toInt < 2048) : own_P2 c (own_2a c) (own_t0 c) := by
  obtain ⟨k, hk⟩ := own_ex c 2048 (by omega) (by omega) (by decide)
  have t : ∀ k : Fin 2048, 128 ≤ k.val → own_P2 (Int32.ofNat k.val) (own_2a (Int32.ofNat k.val)) (own_t0 (Int32.ofNat k.val)) := by decide +kernel
  rw [hk]
  refine t k ?_
  rw [hk, Int32.toInt_ofNat_of_lt (by omega)] at h0
  omega
theorem own_ct (x : Int32) : (own_b ((128 : Int32) ||| (x &&& (63 : Int32))) &&& (192 : Int32)) = (128 : Int32) ∧ own_b ((128 : Int32) ||| (x &&& (63 : Int32))) < 0 := by
  obtain ⟨k, hk⟩ := own_m63 x
  rw [hk]
  exact (by decide +kernel : ∀ k : Fin 64, (own_b ((128 : Int32) ||| Int32.ofNat k.val) &&& (192 : Int32)) = (128 : Int32) ∧ own_b ((128 : Int32) ||| Int32.ofNat k.val) < 0) k
def own_P3 (c b1 b2 b3 : Int32) : Prop := b1 < 0 ∧ ¬ (b1 >>> ((5 : Int32) &&& 31)) = (-2 : Int32) ∧ (b1 >>> ((4 : Int32) &&& 31)) = (-2 : Int32) ∧ ¬ (b1 &&& (254 : Int32)) = (194 : Int32) ∧ (b1 = (-32 : Int32) → ¬ (b2 &&& (224 : Int32)) = (128 : Int32)) ∧ (b2 &&& (192 : Int32)) = (128 : Int32) ∧ (b3 &&& (192 : Int32)) = (128 : Int32) ∧ own_d3 b1 b2 b3 = c
theorem own_p3 (c : Int32) (h0 : 2048 ≤ c.toInt) (h1 : c.toInt < 65536) : own_P3 c (own_3a c) (own_t6 c) (own_t0 c) := by
  have e := own_shr c 12 12 (by decide) (by decide)
  obtain ⟨k, hk⟩ := own_ex (c >>> ((12 : Int32) &&& 31)) 16 (by omega) (by omega) (by decide)
  have t := (by decide +kernel : ∀ k : Fin 16, own_b ((224 : Int32) ||| Int32.ofNat k.val) < 0 ∧ ¬ (own_b ((224 : Int32) ||| Int32.ofNat k.val) >>> ((5 : Int32) &&& 31)) = (-2 : Int32) ∧ (own_b ((224 : Int32) ||| Int32.ofNat k.val) >>> ((4 : Int32) &&& 31)) = (-2 : Int32) ∧ ¬ (own_b ((224 : Int32) ||| Int32.ofNat k.val) &&& (254 : Int32)) = (194 : Int32) ∧ (own_b ((224 : Int32) ||| Int32.ofNat k.val) = (-32 : Int32) → k.val = 0)) k
  rw [← hk] at t
  refine ⟨t.1, t.2.1, t.2.2.1, t.2.2.2.1, fun q => ?_, (own_ct _).1, (own_ct _).1, own_d3e c (own_bits (by omega) (by omega))⟩
  have k0 := t.2.2.2.2 q
  have c12 : c.toInt < 4096 := by
    rw [hk, k0] at e
    have : (Int32.ofNat 0).toInt = 0 := rfl
    omega
  have e6 := own_shr c 6 6 (by decide) (by decide)
  obtain ⟨j, hj⟩ := own_ex (c >>> ((6 : Int32) &&& 31)) 64 (by omega) (by omega) (by decide)
  have j32 : 32 ≤ j.val := by
    rw [hj, Int32.toInt_ofNat_of_lt (by omega)] at e6
    omega
  unfold own_t6
  rw [hj]
  exact (by decide +kernel : ∀ j : Fin 64, 32 ≤ j.val → ¬ (own_b ((128 : Int32) ||| (Int32.ofNat j.val &&& (63 : Int32))) &&& (224 : Int32)) = (128 : Int32)) j j32
def own_P4 (c b1 b2 b3 b4 : Int32) : Prop := b1 < 0 ∧ ¬ (b1 >>> ((5 : Int32) &&& 31)) = (-2 : Int32) ∧ ¬ (b1 >>> ((4 : Int32) &&& 31)) = (-2 : Int32) ∧ (b1 >>> ((3 : Int32) &&& 31)) = (-2 : Int32) ∧ ¬ (b1 &&& (254 : Int32)) = (194 : Int32) ∧ (b2 &&& (192 : Int32)) = (128 : Int32) ∧ (b3 &&& (192 : Int32)) = (128 : Int32) ∧ (b4 &&& (192 : Int32)) = (128 : Int32) ∧ own_d4 b1 b2 b3 b4 = c
theorem own_p4 (c : Int32) (h0 : 65536 ≤ c.toInt) (h1 : c.toInt < 1114112) : own_P4 c (own_4a c) (own_t12 c) (own_t6 c) (own_t0 c) := by
  have e := own_shr c 18 18 (by decide) (by decide)
  obtain ⟨k, hk⟩ := own_ex (c >>> ((18 : Int32) &&& 31)) 8 (by omega) (by omega) (by decide)
  have t := (by decide +kernel : ∀ k : Fin 8, own_b ((240 : Int32) ||| Int32.ofNat k.val) < 0 ∧ ¬ (own_b ((240 : Int32) ||| Int32.ofNat k.val) >>> ((5 : Int32) &&& 31)) = (-2 : Int32) ∧ ¬ (own_b ((240 : Int32) ||| Int32.ofNat k.val) >>> ((4 : Int32) &&& 31)) = (-2 : Int32) ∧ (own_b ((240 : Int32) ||| Int32.ofNat k.val) >>> ((3 : Int32) &&& 31)) = (-2 : Int32) ∧ ¬ (own_b ((240 : Int32) ||| Int32.ofNat k.val) &&& (254 : Int32)) = (194 : Int32)) k
  rw [← hk] at t
  exact ⟨t.1, t.2.1, t.2.2.1, t.2.2.2.1, t.2.2.2.2, (own_ct _).1, (own_ct _).1, (own_ct _).1, own_d4e c (own_bits (by omega) (by omega))⟩


theorem own_hse (c : Int32) (h0 : 65536 ≤ c.toInt) (h1 : c.toInt < 1114112) : own_hs c = own_xh c := by
  have e : (c.toUInt32 >>> ((10 : Int32) &&& 31).toUInt32).toInt32 + (55232 : Int32) = (55296 : Int32) + ((c - (65536 : Int32)) >>> ((10 : Int32) &&& 31)) := by
    apply Int32.toInt_inj.mp
    have a1 := c_iushr c 10 10 (by decide) (by decide)
    have a2 := c_iadd (c.toUInt32 >>> ((10 : Int32) &&& 31).toUInt32).toInt32 55232
    have a3 := c_isub c 65536
    have a4 := c_ishr (c - 65536) 10 10 (by decide)
    have a5 := c_iadd 55296 ((c - (65536 : Int32)) >>> ((10 : Int32) &&& 31))
    have r1 := rng32 (c - 65536)
    have r2 := rng32 ((c.toUInt32 >>> ((10 : Int32) &&& 31).toUInt32).toInt32 + (55232 : Int32))
    have r3 := rng32 ((55296 : Int32) + ((c - (65536 : Int32)) >>> ((10 : Int32) &&& 31)))
    simp only [show (65536 : Int32).toInt = 65536 from rfl, show (55232 : Int32).toInt = 55232 from rfl, show (55296 : Int32).toInt = 55296 from rfl] at a1 a2 a3 a4 a5
    omega
  unfold own_hs own_xh
  rw [e]
theorem own_lse (c : Int32) (h0 : 65536 ≤ c.toInt) (h1 : c.toInt < 1114112) : own_ls c = own_xl c := by
  have e : (c &&& (1023 : Int32)) + (56320 : Int32) = (56320 : Int32) + ((c - (65536 : Int32)) &&& (1023 : Int32)) := by
    apply Int32.toInt_inj.mp
    have a1 := c_mask c 1023 10 (by decide) (by decide)
    have a2 := c_iadd (c &&& (1023 : Int32)) 56320
    have a3 := c_isub c 65536
    have a4 := c_mask (c - 65536) 1023 10 (by decide) (by decide)
    have a5 := c_iadd 56320 ((c - (65536 : Int32)) &&& (1023 : Int32))
    have r1 := rng32 (c - 65536)
    have r2 := rng32 ((c &&& (1023 : Int32)) + (56320 : Int32))
    have r3 := rng32 ((56320 : Int32) + ((c - (65536 : Int32)) &&& (1023 : Int32)))
    simp only [show (65536 : Int32).toInt = 65536 from rfl, show (56320 : Int32).toInt = 56320 from rfl] at a1 a2 a3 a4 a5
    omega
  unfold own_ls own_xl
  rw [e]
theorem own_k1 {c : Int32} (h0 : 0 ≤ c.toInt) (h1 : c.toInt < 65536) : own_k c = c := by
  apply Int32.toInt_inj.mp
  have := c_i2c c
  unfold own_k
  omega
theorem own_kr (c : Int32) : ¬ own_k c < 0 ∧ ¬ (65535 : Int32) < own_k c := by
  have := c_i2c c
  rw [Int32.lt_iff_toInt_lt, Int32.lt_iff_toInt_lt, show (0 : Int32).toInt = 0 from rfl, show (65535 : Int32).toInt = 65535 from rfl]
  unfold own_k
  omega
theorem own_xhv (c : Int32) (h0 : 65536 ≤ c.toInt) (h1 : c.toInt < 1114112) : (255 : Int32) < own_xh c := by
  rw [Int32.lt_iff_toInt_lt, show (255 : Int32).toInt = 255 from rfl]
  have a3 := c_isub c 65536
  have a4 := c_ishr (c - 65536) 10 10 (by decide)
  have a5 := c_iadd 55296 ((c - (65536 : Int32)) >>> ((10 : Int32) &&& 31))
  have r1 := rng32 (c - 65536)
  have r3 := rng32 ((55296 : Int32) + ((c - (65536 : Int32)) >>> ((10 : Int32) &&& 31)))
  simp only [show (65536 : Int32).toInt = 65536 from rfl, show (55296 : Int32).toInt = 55296 from rfl] at a3 a4 a5
  unfold own_xh
  rw [own_k1 (c := own_k _)] <;> rw [own_k1] <;> omega
theorem own_bb (x : Int32) : own_b x = StrChars.lo8 x := by simp [own_b, StrChars.lo8]
def own_lo (q : Int32) : Int32 := own_b (q >>> ((0 : Int32) &&& 31))
def own_hi (q : Int32) : Int32 := own_b (q >>> ((8 : Int32) &&& 31))
def own_gc (u v : Int32) : Int32 := own_k (own_k (((u &&& (255 : Int32)) <<< ((0 : Int32) &&& 31)) ||| ((v &&& (255 : Int32)) <<< ((8 : Int32) &&& 31))))
theorem own_s0 (q : Int32) : q >>> ((0 : Int32) &&& 31) = q := by
  apply Int32.toBitVec_inj.mp
  rw [Int32.toBitVec_shiftRight]
  simp
theorem own_loe (q : Int32) : own_lo q = StrChars.lo8 q := by rw [own_lo, own_s0, own_bb]
theorem own_hie (q : Int32) : own_hi q = StrChars.lo8 (q >>> ((8 : Int32) &&& 31)) := by rw [own_hi, own_bb]
theorem own_gce {c : Int32} (h0 : 0 ≤ c.toInt) (h1 : c.toInt < 65536) : own_gc (own_lo c) (own_hi c) = c := by
  have h : own_lt c 16 := own_bits h0 (by omega)
  apply Int32.toBitVec_inj.mp
  rw [own_lo, own_s0]
  unfold own_gc own_hi
  simp only [own_bvk, Int32.toBitVec_shiftLeft, own_bvb, Int32.toBitVec_or, Int32.toBitVec_and, Int32.toBitVec_shiftRight]
  unfold own_lt at h
  generalize c.toBitVec = x at *
  apply BitVec.eq_of_getLsbD_eq
  intro i hi
  have : i = 0 ∨ i = 1 ∨ i = 2 ∨ i = 3 ∨ i = 4 ∨ i = 5 ∨ i = 6 ∨ i = 7 ∨ i = 8 ∨ i = 9 ∨ i = 10 ∨ i = 11 ∨ i = 12 ∨ i = 13 ∨ i = 14 ∨ i = 15 ∨ 16 ≤ i := by omega
  rcases this with rfl | rfl | rfl | rfl | rfl | rfl | rfl | rfl | rfl | rfl | rfl | rfl | rfl | rfl | rfl | rfl | h16
  case inr.inr.inr.inr.inr.inr.inr.inr.inr.inr.inr.inr.inr.inr.inr.inr =>
    have z : ∀ y : BitVec 32, ((y.setWidth 16).setWidth 32).getLsbD i = false := fun y => by
      rw [BitVec.getLsbD_setWidth, BitVec.getLsbD_setWidth, decide_eq_false (show ¬ i < 16 by omega)]; simp
    rw [z, h i h16]
  all_goals simp [BitVec.getLsbD_sshiftRight, BitVec.getLsbD_signExtend, BitVec.getElem_signExtend, BitVec.getElem_sshiftRight, BitVec.msb_eq_getLsbD_last]


def own_S (x : Int32) : Prop := own_k x = x ∧ own_b x = x ∧ ¬ x < 0 ∧ ¬ (255 : Int32) < x ∧ (x &&& (255 : Int32)) = x ∧ StrChars.lo8 x = x ∧ ¬ (65535 : Int32) < x
instance (x : Int32) : Decidable (own_S x) := by unfold own_S; infer_instance
theorem own_S7 {x : Int32} (h0 : 0 ≤ x.toInt) (h1 : x.toInt < 128) : own_S x := by
  obtain ⟨k, hk⟩ := own_ex x 128 h0 h1 (by decide)
  rw [hk]
  exact (by decide +kernel : ∀ k : Fin 128, own_S (Int32.ofNat k.val)) k
theorem own_s7 (y : Int32) : own_S (y &&& (127 : Int32)) := own_S7 (own_mask y 7 (by decide) 127 (by decide)).1 (own_mask y 7 (by decide) 127 (by decide)).2
theorem own_tb (y : Int32) : own_b ((128 : Int32) ||| (y &&& (127 : Int32))) < 0 := by
  obtain ⟨k, hk⟩ := own_ex (y &&& (127 : Int32)) 128 (own_mask y 7 (by decide) 127 (by decide)).1 (own_mask y 7 (by decide) 127 (by decide)).2 (by decide)
  rw [hk]
  exact (by decide +kernel : ∀ k : Fin 128, own_b ((128 : Int32) ||| Int32.ofNat k.val) < 0) k
theorem own_l8 {c : Int32} (h0 : 0 ≤ c.toInt) (h1 : c.toInt < 256) : (own_b c &&& (255 : Int32)) = c := by
  obtain ⟨k, hk⟩ := own_ex c 256 h0 h1 (by decide)
  rw [hk]
  exact (by decide +kernel : ∀ k : Fin 256, (own_b (Int32.ofNat k.val) &&& (255 : Int32)) = Int32.ofNat k.val) k
theorem own_lt1 {x a : Int32} (h : x < a) : x.toInt < a.toInt := Int32.lt_iff_toInt_lt.mp h
theorem own_lt0 {x a : Int32} (h : ¬ x < a) : a.toInt ≤ x.toInt := by rw [Int32.lt_iff_toInt_lt] at h; omega
theorem own_ltI {x a : Int32} (h : x.toInt < a.toInt) : x < a := Int32.lt_iff_toInt_lt.mpr h
theorem own_ltN {x a : Int32} (h : a.toInt ≤ x.toInt) : ¬ x < a := by rw [Int32.lt_iff_toInt_lt]; omega
def own_R (c : Int32) : Prop := 0 ≤ c.toInt ∧ c.toInt < 1114112 ∧ (c.toInt < 55296 ∨ 57344 ≤ c.toInt)
theorem own_cp {b c : Int32} (h : c = (if ((b &&& (2147483647 : Int32)) - (b &&& (2147483647 : Int32)) / (1114112 : Int32) * (1114112 : Int32)) < (55296 : Int32) then ((b &&& (2147483647 : Int32)) - (b &&& (2147483647 : Int32)) / (1114112 : Int32) * (1114112 : Int32)) else (if (57343 : Int32) < ((b &&& (2147483647 : Int32)) - (b &&& (2147483647 : Int32)) / (1114112 : Int32) * (1114112 : Int32)) then ((b &&& (2147483647 : Int32)) - (b &&& (2147483647 : Int32)) / (1114112 : Int32) * (1114112 : Int32)) else (((b &&& (2147483647 : Int32)) - (b &&& (2147483647 : Int32)) / (1114112 : Int32) * (1114112 : Int32)) + (8192 : Int32))))) : own_R c := by
  have a1 := c_mask b 2147483647 31 (by decide) (by decide)
  have a2 := c_idiv (b &&& (2147483647 : Int32)) 1114112 1114112 rfl (by decide)
  have a3 := c_imul ((b &&& (2147483647 : Int32)) / (1114112 : Int32)) 1114112
  have a4 := c_isub (b &&& (2147483647 : Int32)) ((b &&& (2147483647 : Int32)) / (1114112 : Int32) * (1114112 : Int32))
  have a5 := c_iadd ((b &&& (2147483647 : Int32)) - (b &&& (2147483647 : Int32)) / (1114112 : Int32) * (1114112 : Int32)) 8192
  have r1 := rng32 ((b &&& (2147483647 : Int32)) - (b &&& (2147483647 : Int32)) / (1114112 : Int32) * (1114112 : Int32))
  have r2 := rng32 ((b &&& (2147483647 : Int32)) / (1114112 : Int32) * (1114112 : Int32))
  have r3 := rng32 ((b &&& (2147483647 : Int32)) - (b &&& (2147483647 : Int32)) / (1114112 : Int32) * (1114112 : Int32) + (8192 : Int32))
  simp only [show (1114112 : Int32).toInt = 1114112 from rfl, show (8192 : Int32).toInt = 8192 from rfl] at a1 a2 a3 a4 a5
  have a2 := a2.1 (by omega)
  simp only [Int32.lt_iff_toInt_lt, show (55296 : Int32).toInt = 55296 from rfl, show (57343 : Int32).toInt = 57343 from rfl] at h
  generalize (b &&& (2147483647 : Int32)) - (b &&& (2147483647 : Int32)) / (1114112 : Int32) * (1114112 : Int32) = d at *
  subst h
  unfold own_R
  split
  · omega
  · split
    · omega
    · omega
def own_tl (y : Int32) : Int32 := if y < (0 : Int32) then (65533 : Int32) else own_k y
theorem own_tlP {y : Int32} (h : y < (0 : Int32)) : own_tl y = (65533 : Int32) := if_pos h
theorem own_tlN {y : Int32} (h : ¬ y < (0 : Int32)) : own_tl y = own_k y := if_neg h
def own_SU (Z : State) (zc : Int32) (fm : Value) (u8 : Addr) : Prop := Sta Z Z.heap "java/lang/StringUTF16" "$assertionsDisabled" "Z" (.int 1) ∧ Sta Z Z.heap "java/lang/StringUTF16" "HI_BYTE_SHIFT" "I" (.int 0) ∧ Sta Z Z.heap "java/lang/StringUTF16" "LO_BYTE_SHIFT" "I" (.int 8) ∧ Sta Z Z.heap "java/lang/String" "COMPACT_STRINGS" "Z" (.int zc) ∧ Sta Z Z.heap "jdk/internal/util/Preconditions" "SIOOBE_FORMATTER" "Ljava/util/function/BiFunction;" fm ∧ Sta Z Z.heap "java/nio/charset/StandardCharsets" "UTF_8" "Ljava/nio/charset/Charset;" (.ref u8) ∧ Sta Z Z.heap "sun/nio/cs/UTF_8" "INSTANCE" "Lsun/nio/cs/UTF_8;" (.ref u8) ∧ ¬ zc = 0 ∧ fm.isRef = true
theorem own_c3 {x y z : Int32} (h : (255 : Int32) < x ∨ (255 : Int32) < y ∨ (255 : Int32) < z) : StrChars.Road.CodA [x, y, z] 1 (6 : Int32) [.int (own_lo x), .int (own_hi x), .int (own_lo y), .int (own_hi y), .int (own_lo z), .int (own_hi z)] := by
  refine Or.inr ⟨rfl, rfl, ?_, ?_⟩
  · simp only [own_loe, own_hie]; rfl
  · rcases h with h | h | h
    · exact ⟨x, by simp, h⟩
    · exact ⟨y, by simp, h⟩
    · exact ⟨z, by simp, h⟩
theorem own_c4 {x y z u : Int32} (h : (255 : Int32) < y) : StrChars.Road.CodA [x, y, z, u] 1 (8 : Int32) [.int (own_lo x), .int (own_hi x), .int (own_lo y), .int (own_hi y), .int (own_lo z), .int (own_hi z), .int (own_lo u), .int (own_hi u)] := by
  refine Or.inr ⟨rfl, rfl, ?_, ⟨y, by simp, h⟩⟩
  simp only [own_loe, own_hie]; rfl
theorem own_c0 {x y z a b c : Int32} (hx : a = StrChars.lo8 x) (hy : b = StrChars.lo8 y) (hz : c = StrChars.lo8 z) (h : ∀ w ∈ [x, y, z], ¬ w < 0 ∧ ¬ (255 : Int32) < w) : StrChars.Road.CodA [x, y, z] 0 (3 : Int32) [.int a, .int b, .int c] := by
  subst hx hy hz
  exact Or.inl ⟨rfl, rfl, rfl, fun w hw => (h w hw).2⟩
theorem own_h3 {x y z : Int32} {P : Int32 → Prop} (hx : P x) (hy : P y) (hz : P z) : ∀ w ∈ [x, y, z], P w := fun w hw => by
  simp only [List.mem_cons, List.not_mem_nil, or_false] at hw
  rcases hw with rfl | rfl | rfl
  · exact hx
  · exact hy
  · exact hz
theorem own_h4 {x y z u : Int32} {P : Int32 → Prop} (hx : P x) (hy : P y) (hz : P z) (hu : P u) : ∀ w ∈ [x, y, z, u], P w := fun w hw => by
  simp only [List.mem_cons, List.not_mem_nil, or_false] at hw
  rcases hw with rfl | rfl | rfl | rfl
  · exact hx
  · exact hy
  · exact hz
  · exact hu
theorem own_r1 (cs : List Int32) : some (Value.int (own_eqs cs cs &&& 1)) = some (Value.int 1) := by simp [own_eqs]

abbrev B18 := jdk_52_method_3_code
theorem d18_0 : decode B18 0 = .ok (.iload_n 0, 1) := by decide +kernel
theorem d18_1 : decode B18 1 = .ok (.ifCond .ge 11, 3) := by decide +kernel
theorem d18_12 : decode B18 12 = .ok (.iload_n 0, 1) := by decide +kernel
theorem d18_13 : decode B18 13 = .ok (.ldc 20, 2) := by decide +kernel
theorem d18_15 : decode B18 15 = .ok (.if_icmp .lt 40, 3) := by decide +kernel
theorem d18_55 : decode B18 55 = .ok (.iload_n 0, 1) := by decide +kernel
theorem d18_56 : decode B18 56 = .ok (.iconst 1, 1) := by decide +kernel
theorem d18_57 : decode B18 57 = .ok (.ishl, 1) := by decide +kernel
theorem d18_58 : decode B18 58 = .ok (.ireturn, 1) := by decide +kernel
theorem pn_java_lang_StringUTF16 : plainName "java/lang/StringUTF16" = true := by first | (simp [plainName, overriddenIn]; done) | decide +kernel
theorem rm18_3 {l : Launch} {Z : State} {a0 : Array Value} (hw : own_W a0 Z) {h0 : Heap} {n0 : Nat} (O0 : Old Z n0 h0) : own_M l own_n18 jdk_52_method_3_code 1 (some .int) (own_rm 0 0 0 0) Z h0 #[.int 3] (fun v h L => v = some (.int 6) ∧ Fr n0 L ∧ h = h0) := by
  refine own_body (L0 := #[.val (.int 3)]) (plainFor_of_name pn_java_lang_StringUTF16) rfl rfl ?_
  intro p e s m below meth c s₁ f0 Bd hx Hb hml hZ hown X0 e0 pre0
  have hby := Hb.2
  have W := own_q hw
  have N0 := Fr.nil n0
  have O := O0
  have w1 : own_Go p e below f0 s₁ m 58 #[.val (.int 3)] [.int 6] := fun t k => by
    refine pre0 t ?_
    refine zil X0 Hb d18_0 rfl <| ziy X0 Hb d18_1 ((if0 _ _).trans (flt ((by decide) : ¬ ((3 : Int32) < (0 : Int32)))).2.1) 12 (by decide) rfl <| zil X0 Hb d18_12 rfl <| X0.ldcInt hx hown (mvT hZ (W 109 rfl)) (g := (mkF m 13 #[.val (.int 3)] [.int 3])) rfl (hb hby d18_13) _ <| zcy X0 Hb d18_15 (tlt ((by decide) : (3 : Int32) < (1073741823 : Int32))).1 55 (by decide) rfl <| zil X0 Hb d18_55 rfl <| zic X0 Hb d18_56 1 rfl <| zsl' X0 Hb d18_57 6 rfl ?_
    exact k
  exact own_oI X0 Hb Bd.notSynchronized Bd.returns w1 d18_58 e0 (by decide) (by decide) ⟨rfl, N0, rfl⟩
abbrev B17 := jdk_52_method_2_code
theorem d17_0 : decode B17 0 = .ok (.iload_n 0, 1) := by decide +kernel
theorem d17_1 : decode B17 1 = .ok (.invokestatic 11, 3) := by decide +kernel
theorem pd0 : parseMethodDescriptor "(I)I" = some ⟨[.int], some .int⟩ := by decide +kernel
theorem d17_4 : decode B17 4 = .ok (.newarray .byte, 2) := by decide +kernel
theorem d17_6 : decode B17 6 = .ok (.areturn, 1) := by decide +kernel
theorem rm17_3 {l : Launch} {Z : State} {a0 : Array Value} (hw : own_W a0 Z) {h0 : Heap} {n0 : Nat} (O0 : Old Z n0 h0) : own_M l own_n17 jdk_52_method_2_code 1 (some (.array .byte)) (own_rm 1 1 6 12) Z h0 #[.int 3] (fun v h L => ∃ z : Addr, ∃ kz : ClassId, v = some (.ref z) ∧ Fr n0 L ∧ Keep h0 h [] ∧ Arv Z h z kz .byte (6 : Int32) [.int 0, .int 0, .int 0, .int 0, .int 0, .int 0] (.int 0) ∧ h0.size ≤ z ∧ n0 ≤ z) := by
  refine own_body (L0 := #[.val (.int 3)]) (plainFor_of_name pn_java_lang_StringUTF16) rfl rfl ?_
  intro p e s m below meth c s₁ f0 Bd hx Hb hml hZ hown X0 e0 pre0
  have hby := Hb.2
  have W := own_q hw
  have N0 := Fr.nil n0
  have O := O0
  have K := Keep.refl h0 []
  obtain ⟨_, T1, Lc1, X1, hQ1, st1⟩ := own_cS X0 Hb hZ hown hml (L := #[.val (.int 3)]) rfl (rm18_3 hw  O ) (W 106 rfl) (W 107 rfl) (W 21 rfl) (W 108 rfl) pd0 e0 d17_1 [.int 3] [] rfl rfl (by decide) 0 rfl (by decide)
  obtain ⟨rfl, N1q, eh1⟩ := hQ1
  have N1 := Fr.app N0 N1q
  obtain ⟨T2, h2, k2, X2, e2, E2, A2, st2⟩ := newP X1 hx hZ (W 3 rfl) eh1 (g := (mkF m 4 #[.val (.int 3)] [.int 6])) rfl (hb hby d17_4) rfl (by decide) (cap := 6) (by decide) (by decide) (by decide) (by decide)
  obtain ⟨b2, gq2⟩ : ∃ z, z = Array.size h0 := ⟨_, rfl⟩
  rw [← gq2] at A2 st2
  have g_b2 : n0 ≤ b2 := Nat.le_trans (O.1 ▸ O.2.1) (Nat.le_of_eq gq2.symm)
  have z_b2 : h0.size ≤ b2 := Nat.le_trans K.1 (Nat.le_of_eq gq2.symm)
  have O := O.ext E2
  have K := K.ext E2
  have V_b2 : Arv Z h2 b2 k2 .byte (6 : Int32) [.int 0, .int 0, .int 0, .int 0, .int 0, .int 0] (.int 0) := (Arv.new A2 (by decide)).pad (pad_rep [] (.int 0) 6)
  have w3 : own_Go p e below f0 T2 m 6 #[.val (.int 3)] [.ref b2] := fun t k => by
    refine pre0 t ?_
    refine zil X0 Hb d17_0 rfl <| st1 _ <| st2 _ ?_
    exact k
  exact own_oR X2 Hb Bd.notSynchronized Bd.returns rfl w3 d17_6 e2 (by decide) (by decide) ⟨b2, k2, rfl, N1, K, V_b2, z_b2, g_b2⟩
theorem rm18_4 {l : Launch} {Z : State} {a0 : Array Value} (hw : own_W a0 Z) {h0 : Heap} {n0 : Nat} (O0 : Old Z n0 h0) : own_M l own_n18 jdk_52_method_3_code 1 (some .int) (own_rm 0 0 0 0) Z h0 #[.int 4] (fun v h L => v = some (.int 8) ∧ Fr n0 L ∧ h = h0) := by
  refine own_body (L0 := #[.val (.int 4)]) (plainFor_of_name pn_java_lang_StringUTF16) rfl rfl ?_
  intro p e s m below meth c s₁ f0 Bd hx Hb hml hZ hown X0 e0 pre0
  have hby := Hb.2
  have W := own_q hw
  have N0 := Fr.nil n0
  have O := O0
  have w1 : own_Go p e below f0 s₁ m 58 #[.val (.int 4)] [.int 8] := fun t k => by
    refine pre0 t ?_
    refine zil X0 Hb d18_0 rfl <| ziy X0 Hb d18_1 ((if0 _ _).trans (flt ((by decide) : ¬ ((4 : Int32) < (0 : Int32)))).2.1) 12 (by decide) rfl <| zil X0 Hb d18_12 rfl <| X0.ldcInt hx hown (mvT hZ (W 109 rfl)) (g := (mkF m 13 #[.val (.int 4)] [.int 4])) rfl (hb hby d18_13) _ <| zcy X0 Hb d18_15 (tlt ((by decide) : (4 : Int32) < (1073741823 : Int32))).1 55 (by decide) rfl <| zil X0 Hb d18_55 rfl <| zic X0 Hb d18_56 1 rfl <| zsl' X0 Hb d18_57 8 rfl ?_
    exact k
  exact own_oI X0 Hb Bd.notSynchronized Bd.returns w1 d18_58 e0 (by decide) (by decide) ⟨rfl, N0, rfl⟩
theorem rm17_4 {l : Launch} {Z : State} {a0 : Array Value} (hw : own_W a0 Z) {h0 : Heap} {n0 : Nat} (O0 : Old Z n0 h0) : own_M l own_n17 jdk_52_method_2_code 1 (some (.array .byte)) (own_rm 1 1 8 12) Z h0 #[.int 4] (fun v h L => ∃ z : Addr, ∃ kz : ClassId, v = some (.ref z) ∧ Fr n0 L ∧ Keep h0 h [] ∧ Arv Z h z kz .byte (8 : Int32) [.int 0, .int 0, .int 0, .int 0, .int 0, .int 0, .int 0, .int 0] (.int 0) ∧ h0.size ≤ z ∧ n0 ≤ z) := by
  refine own_body (L0 := #[.val (.int 4)]) (plainFor_of_name pn_java_lang_StringUTF16) rfl rfl ?_
  intro p e s m below meth c s₁ f0 Bd hx Hb hml hZ hown X0 e0 pre0
  have hby := Hb.2
  have W := own_q hw
  have N0 := Fr.nil n0
  have O := O0
  have K := Keep.refl h0 []
  obtain ⟨_, T1, Lc1, X1, hQ1, st1⟩ := own_cS X0 Hb hZ hown hml (L := #[.val (.int 4)]) rfl (rm18_4 hw  O ) (W 106 rfl) (W 107 rfl) (W 21 rfl) (W 108 rfl) pd0 e0 d17_1 [.int 4] [] rfl rfl (by decide) 0 rfl (by decide)
  obtain ⟨rfl, N1q, eh1⟩ := hQ1
  have N1 := Fr.app N0 N1q
  obtain ⟨T2, h2, k2, X2, e2, E2, A2, st2⟩ := newP X1 hx hZ (W 3 rfl) eh1 (g := (mkF m 4 #[.val (.int 4)] [.int 8])) rfl (hb hby d17_4) rfl (by decide) (cap := 8) (by decide) (by decide) (by decide) (by decide)
  obtain ⟨b2, gq2⟩ : ∃ z, z = Array.size h0 := ⟨_, rfl⟩
  rw [← gq2] at A2 st2
  have g_b2 : n0 ≤ b2 := Nat.le_trans (O.1 ▸ O.2.1) (Nat.le_of_eq gq2.symm)
  have z_b2 : h0.size ≤ b2 := Nat.le_trans K.1 (Nat.le_of_eq gq2.symm)
  have O := O.ext E2
  have K := K.ext E2
  have V_b2 : Arv Z h2 b2 k2 .byte (8 : Int32) [.int 0, .int 0, .int 0, .int 0, .int 0, .int 0, .int 0, .int 0] (.int 0) := (Arv.new A2 (by decide)).pad (pad_rep [] (.int 0) 8)
  have w3 : own_Go p e below f0 T2 m 6 #[.val (.int 4)] [.ref b2] := fun t k => by
    refine pre0 t ?_
    refine zil X0 Hb d17_0 rfl <| st1 _ <| st2 _ ?_
    exact k
  exact own_oR X2 Hb Bd.notSynchronized Bd.returns rfl w3 d17_6 e2 (by decide) (by decide) ⟨b2, k2, rfl, N1, K, V_b2, z_b2, g_b2⟩
theorem rm18_5 {l : Launch} {Z : State} {a0 : Array Value} (hw : own_W a0 Z) {h0 : Heap} {n0 : Nat} (O0 : Old Z n0 h0) : own_M l own_n18 jdk_52_method_3_code 1 (some .int) (own_rm 0 0 0 0) Z h0 #[.int 5] (fun v h L => v = some (.int 10) ∧ Fr n0 L ∧ h = h0) := by
  refine own_body (L0 := #[.val (.int 5)]) (plainFor_of_name pn_java_lang_StringUTF16) rfl rfl ?_
  intro p e s m below meth c s₁ f0 Bd hx Hb hml hZ hown X0 e0 pre0
  have hby := Hb.2
  have W := own_q hw
  have N0 := Fr.nil n0
  have O := O0
  have w1 : own_Go p e below f0 s₁ m 58 #[.val (.int 5)] [.int 10] := fun t k => by
    refine pre0 t ?_
    refine zil X0 Hb d18_0 rfl <| ziy X0 Hb d18_1 ((if0 _ _).trans (flt ((by decide) : ¬ ((5 : Int32) < (0 : Int32)))).2.1) 12 (by decide) rfl <| zil X0 Hb d18_12 rfl <| X0.ldcInt hx hown (mvT hZ (W 109 rfl)) (g := (mkF m 13 #[.val (.int 5)] [.int 5])) rfl (hb hby d18_13) _ <| zcy X0 Hb d18_15 (tlt ((by decide) : (5 : Int32) < (1073741823 : Int32))).1 55 (by decide) rfl <| zil X0 Hb d18_55 rfl <| zic X0 Hb d18_56 1 rfl <| zsl' X0 Hb d18_57 10 rfl ?_
    exact k
  exact own_oI X0 Hb Bd.notSynchronized Bd.returns w1 d18_58 e0 (by decide) (by decide) ⟨rfl, N0, rfl⟩
theorem rm17_5 {l : Launch} {Z : State} {a0 : Array Value} (hw : own_W a0 Z) {h0 : Heap} {n0 : Nat} (O0 : Old Z n0 h0) : own_M l own_n17 jdk_52_method_2_code 1 (some (.array .byte)) (own_rm 1 1 10 12) Z h0 #[.int 5] (fun v h L => ∃ z : Addr, ∃ kz : ClassId, v = some (.ref z) ∧ Fr n0 L ∧ Keep h0 h [] ∧ Arv Z h z kz .byte (10 : Int32) [.int 0, .int 0, .int 0, .int 0, .int 0, .int 0, .int 0, .int 0, .int 0, .int 0] (.int 0) ∧ h0.size ≤ z ∧ n0 ≤ z) := by
  refine own_body (L0 := #[.val (.int 5)]) (plainFor_of_name pn_java_lang_StringUTF16) rfl rfl ?_
  intro p e s m below meth c s₁ f0 Bd hx Hb hml hZ hown X0 e0 pre0
  have hby := Hb.2
  have W := own_q hw
  have N0 := Fr.nil n0
  have O := O0
  have K := Keep.refl h0 []
  obtain ⟨_, T1, Lc1, X1, hQ1, st1⟩ := own_cS X0 Hb hZ hown hml (L := #[.val (.int 5)]) rfl (rm18_5 hw  O ) (W 106 rfl) (W 107 rfl) (W 21 rfl) (W 108 rfl) pd0 e0 d17_1 [.int 5] [] rfl rfl (by decide) 0 rfl (by decide)
  obtain ⟨rfl, N1q, eh1⟩ := hQ1
  have N1 := Fr.app N0 N1q
  obtain ⟨T2, h2, k2, X2, e2, E2, A2, st2⟩ := newP X1 hx hZ (W 3 rfl) eh1 (g := (mkF m 4 #[.val (.int 5)] [.int 10])) rfl (hb hby d17_4) rfl (by decide) (cap := 10) (by decide) (by decide) (by decide) (by decide)
  obtain ⟨b2, gq2⟩ : ∃ z, z = Array.size h0 := ⟨_, rfl⟩
  rw [← gq2] at A2 st2
  have g_b2 : n0 ≤ b2 := Nat.le_trans (O.1 ▸ O.2.1) (Nat.le_of_eq gq2.symm)
  have z_b2 : h0.size ≤ b2 := Nat.le_trans K.1 (Nat.le_of_eq gq2.symm)
  have O := O.ext E2
  have K := K.ext E2
  have V_b2 : Arv Z h2 b2 k2 .byte (10 : Int32) [.int 0, .int 0, .int 0, .int 0, .int 0, .int 0, .int 0, .int 0, .int 0, .int 0] (.int 0) := (Arv.new A2 (by decide)).pad (pad_rep [] (.int 0) 10)
  have w3 : own_Go p e below f0 T2 m 6 #[.val (.int 5)] [.ref b2] := fun t k => by
    refine pre0 t ?_
    refine zil X0 Hb d17_0 rfl <| st1 _ <| st2 _ ?_
    exact k
  exact own_oR X2 Hb Bd.notSynchronized Bd.returns rfl w3 d17_6 e2 (by decide) (by decide) ⟨b2, k2, rfl, N1, K, V_b2, z_b2, g_b2⟩
theorem rm18_6 {l : Launch} {Z : State} {a0 : Array Value} (hw : own_W a0 Z) {h0 : Heap} {n0 : Nat} (O0 : Old Z n0 h0) : own_M l own_n18 jdk_52_method_3_code 1 (some .int) (own_rm 0 0 0 0) Z h0 #[.int 6] (fun v h L => v = some (.int 12) ∧ Fr n0 L ∧ h = h0) := by
  refine own_body (L0 := #[.val (.int 6)]) (plainFor_of_name pn_java_lang_StringUTF16) rfl rfl ?_
  intro p e s m below meth c s₁ f0 Bd hx Hb hml hZ hown X0 e0 pre0
  have hby := Hb.2
  have W := own_q hw
  have N0 := Fr.nil n0
  have O := O0
  have w1 : own_Go p e below f0 s₁ m 58 #[.val (.int 6)] [.int 12] := fun t k => by
    refine pre0 t ?_
    refine zil X0 Hb d18_0 rfl <| ziy X0 Hb d18_1 ((if0 _ _).trans (flt ((by decide) : ¬ ((6 : Int32) < (0 : Int32)))).2.1) 12 (by decide) rfl <| zil X0 Hb d18_12 rfl <| X0.ldcInt hx hown (mvT hZ (W 109 rfl)) (g := (mkF m 13 #[.val (.int 6)] [.int 6])) rfl (hb hby d18_13) _ <| zcy X0 Hb d18_15 (tlt ((by decide) : (6 : Int32) < (1073741823 : Int32))).1 55 (by decide) rfl <| zil X0 Hb d18_55 rfl <| zic X0 Hb d18_56 1 rfl <| zsl' X0 Hb d18_57 12 rfl ?_
    exact k
  exact own_oI X0 Hb Bd.notSynchronized Bd.returns w1 d18_58 e0 (by decide) (by decide) ⟨rfl, N0, rfl⟩
theorem rm17_6 {l : Launch} {Z : State} {a0 : Array Value} (hw : own_W a0 Z) {h0 : Heap} {n0 : Nat} (O0 : Old Z n0 h0) : own_M l own_n17 jdk_52_method_2_code 1 (some (.array .byte)) (own_rm 1 1 12 12) Z h0 #[.int 6] (fun v h L => ∃ z : Addr, ∃ kz : ClassId, v = some (.ref z) ∧ Fr n0 L ∧ Keep h0 h [] ∧ Arv Z h z kz .byte (12 : Int32) [.int 0, .int 0, .int 0, .int 0, .int 0, .int 0, .int 0, .int 0, .int 0, .int 0, .int 0, .int 0] (.int 0) ∧ h0.size ≤ z ∧ n0 ≤ z) := by
  refine own_body (L0 := #[.val (.int 6)]) (plainFor_of_name pn_java_lang_StringUTF16) rfl rfl ?_
  intro p e s m below meth c s₁ f0 Bd hx Hb hml hZ hown X0 e0 pre0
  have hby := Hb.2
  have W := own_q hw
  have N0 := Fr.nil n0
  have O := O0
  have K := Keep.refl h0 []
  obtain ⟨_, T1, Lc1, X1, hQ1, st1⟩ := own_cS X0 Hb hZ hown hml (L := #[.val (.int 6)]) rfl (rm18_6 hw  O ) (W 106 rfl) (W 107 rfl) (W 21 rfl) (W 108 rfl) pd0 e0 d17_1 [.int 6] [] rfl rfl (by decide) 0 rfl (by decide)
  obtain ⟨rfl, N1q, eh1⟩ := hQ1
  have N1 := Fr.app N0 N1q
  obtain ⟨T2, h2, k2, X2, e2, E2, A2, st2⟩ := newP X1 hx hZ (W 3 rfl) eh1 (g := (mkF m 4 #[.val (.int 6)] [.int 12])) rfl (hb hby d17_4) rfl (by decide) (cap := 12) (by decide) (by decide) (by decide) (by decide)
  obtain ⟨b2, gq2⟩ : ∃ z, z = Array.size h0 := ⟨_, rfl⟩
  rw [← gq2] at A2 st2
  have g_b2 : n0 ≤ b2 := Nat.le_trans (O.1 ▸ O.2.1) (Nat.le_of_eq gq2.symm)
  have z_b2 : h0.size ≤ b2 := Nat.le_trans K.1 (Nat.le_of_eq gq2.symm)
  have O := O.ext E2
  have K := K.ext E2
  have V_b2 : Arv Z h2 b2 k2 .byte (12 : Int32) [.int 0, .int 0, .int 0, .int 0, .int 0, .int 0, .int 0, .int 0, .int 0, .int 0, .int 0, .int 0] (.int 0) := (Arv.new A2 (by decide)).pad (pad_rep [] (.int 0) 12)
  have w3 : own_Go p e below f0 T2 m 6 #[.val (.int 6)] [.ref b2] := fun t k => by
    refine pre0 t ?_
    refine zil X0 Hb d17_0 rfl <| st1 _ <| st2 _ ?_
    exact k
  exact own_oR X2 Hb Bd.notSynchronized Bd.returns rfl w3 d17_6 e2 (by decide) (by decide) ⟨b2, k2, rfl, N1, K, V_b2, z_b2, g_b2⟩
abbrev B19 := jdk_52_method_4_code
theorem d19_0 : decode B19 0 = .ok (.getstatic 44, 3) := by decide +kernel
theorem d19_3 : decode B19 3 = .ok (.ifCond .ne 25, 3) := by decide +kernel
theorem d19_28 : decode B19 28 = .ok (.iload_n 1, 1) := by decide +kernel
theorem d19_29 : decode B19 29 = .ok (.iconst 1, 1) := by decide +kernel
theorem d19_30 : decode B19 30 = .ok (.ishl, 1) := by decide +kernel
theorem d19_31 : decode B19 31 = .ok (.istore_n 1, 1) := by decide +kernel
theorem d19_32 : decode B19 32 = .ok (.aload_n 0, 1) := by decide +kernel
theorem d19_33 : decode B19 33 = .ok (.iload_n 1, 1) := by decide +kernel
theorem d19_34 : decode B19 34 = .ok (.iinc 1 1, 3) := by decide +kernel
theorem d19_37 : decode B19 37 = .ok (.iload_n 2, 1) := by decide +kernel
theorem d19_38 : decode B19 38 = .ok (.getstatic 59, 3) := by decide +kernel
theorem d19_41 : decode B19 41 = .ok (.ishr, 1) := by decide +kernel
theorem d19_42 : decode B19 42 = .ok (.i2b, 1) := by decide +kernel
theorem d19_43 : decode B19 43 = .ok (.bastore, 1) := by decide +kernel
theorem d19_44 : decode B19 44 = .ok (.aload_n 0, 1) := by decide +kernel
theorem d19_45 : decode B19 45 = .ok (.iload_n 1, 1) := by decide +kernel
theorem d19_46 : decode B19 46 = .ok (.iload_n 2, 1) := by decide +kernel
theorem d19_47 : decode B19 47 = .ok (.getstatic 63, 3) := by decide +kernel
theorem d19_50 : decode B19 50 = .ok (.ishr, 1) := by decide +kernel
theorem d19_51 : decode B19 51 = .ok (.i2b, 1) := by decide +kernel
theorem d19_52 : decode B19 52 = .ok (.bastore, 1) := by decide +kernel
theorem d19_53 : decode B19 53 = .ok (.return_, 1) := by decide +kernel
theorem rm19_0 {l : Launch} {Z : State} {a0 : Array Value} (hw : own_W a0 Z) (d : Addr) (q : Int32) (kd : ClassId) (nn ua ub : Int32) (rr : List Value) {zc : Int32} {fm : Value} {u8 : Addr} {h0 : Heap} {n0 : Nat} (O0 : Old Z n0 h0) (SU : own_SU Z zc fm u8) (V_d : Arv Z h0 d kd .byte nn ((.int ua) :: (.int ub) :: rr) (.int 0)) (hj1 : (0 : Int32) < nn) (hj2 : (1 : Int32) < nn) (g_d : n0 ≤ d) : own_M l own_n19 jdk_52_method_4_code 3 none (own_rm 0 0 0 0) Z h0 #[.ref d, .int 0, .int q] (fun v h L => v = none ∧ Fr n0 L ∧ Keep h0 h [d] ∧ Arv Z h d kd .byte nn ((.int (own_lo q)) :: (.int (own_hi q)) :: rr) (.int 0)) := by
  refine own_body (L0 := #[.val (.ref d), .val (.int 0), .val (.int q)]) (plainFor_of_name pn_java_lang_StringUTF16) rfl rfl ?_
  intro p e s m below meth c s₁ f0 Bd hx Hb hml hZ hown X0 e0 pre0
  have hby := Hb.2
  have W := own_q hw
  have N0 := Fr.nil n0
  have O := O0
  have K := Keep.refl h0 [d]
  obtain ⟨T1, X1, e1, st1⟩ := getS2 X0 hx hZ hown (host := "") (Or.inl (W 113 rfl)) Via.refl e0 (SU.1.ext O.2) (g := (mkF m 0 #[.val (.ref d), .val (.int 0), .val (.int q)] [])) rfl (hb hby d19_0)
  obtain ⟨T2, X2, e2, st2⟩ := getS2 X1 hx hZ hown (host := "") (Or.inl (W 114 rfl)) Via.refl e1 (SU.2.1.ext O.2) (g := (mkF m 38 #[.val (.ref d), .val (.int 1), .val (.int q)] [.int q, .int 0, .ref d])) rfl (hb hby d19_38)
  obtain ⟨T3, h3, X3, e3, W3, V_d, st3⟩ := own_sB X2 Hb hZ e2 V_d (j := 0) (x := ((q >>> ((0 : Int32) &&& 31)).toInt8.toInt32)) (L := #[.val (.ref d), .val (.int 1), .val (.int q)]) (S := []) (vs' := ((.int (((q >>> ((0 : Int32) &&& 31)).toInt8.toInt32).toInt8.toInt32)) :: (.int ub) :: rr)) ⟨by decide, hj1⟩ rfl (Nat.le_of_ble_eq_true rfl) d19_43 rfl
  have O := O.wr W3 g_d
  have K := K.wr W3 (Or.inl (List.mem_of_getElem? (i := 0) rfl))
  have N3 := Fr.snoc X3 N0 g_d
  obtain ⟨T4, X4, e4, st4⟩ := getS2 X3 hx hZ hown (host := "") (Or.inl (W 115 rfl)) Via.refl e3 (SU.2.2.1.ext O.2) (g := (mkF m 47 #[.val (.ref d), .val (.int 1), .val (.int q)] [.int q, .int 1, .ref d])) rfl (hb hby d19_47)
  obtain ⟨T5, h5, X5, e5, W5, V_d, st5⟩ := own_sB X4 Hb hZ e4 V_d (j := 1) (x := ((q >>> ((8 : Int32) &&& 31)).toInt8.toInt32)) (L := #[.val (.ref d), .val (.int 1), .val (.int q)]) (S := []) (vs' := ((.int (((q >>> ((0 : Int32) &&& 31)).toInt8.toInt32).toInt8.toInt32)) :: (.int (((q >>> ((8 : Int32) &&& 31)).toInt8.toInt32).toInt8.toInt32)) :: rr)) ⟨by decide, hj2⟩ rfl (Nat.le_of_ble_eq_true rfl) d19_52 rfl
  have O := O.wr W5 g_d
  have K := K.wr W5 (Or.inl (List.mem_of_getElem? (i := 0) rfl))
  have N5 := Fr.snoc X5 N3 g_d
  have w6 : own_Go p e below f0 T5 m 53 #[.val (.ref d), .val (.int 1), .val (.int q)] [] := fun t k => by
    refine pre0 t ?_
    refine st1 _ <| ziy X1 Hb d19_3 ((if0 _ _).trans (feq ((by decide) : ¬ ((1 : Int32) = (0 : Int32)))).2) 28 (by decide) rfl <| zil X1 Hb d19_28 rfl <| zic X1 Hb d19_29 1 rfl <| zsl' X1 Hb d19_30 0 rfl <| zis X1 Hb (L' := #[.val (.ref d), .val (.int 0), .val (.int q)]) d19_31 rfl <| zal X1 Hb d19_32 rfl rfl <| zil X1 Hb d19_33 rfl ?_
    refine zii X1 Hb (L' := #[.val (.ref d), .val (.int 1), .val (.int q)]) d19_34 rfl 1 rfl rfl <| zil X1 Hb d19_37 rfl <| st2 _ <| zsr X2 Hb d19_41 <| zib X2 Hb d19_42 <| st3 _ <| zal X3 Hb d19_44 rfl rfl <| zil X3 Hb d19_45 rfl ?_
    refine zil X3 Hb d19_46 rfl <| st4 _ <| zsr X4 Hb d19_50 <| zib X4 Hb d19_51 <| st5 _ ?_
    exact k
  exact own_oV X5 Hb Bd.notSynchronized Bd.returns w6 d19_53 e5 (by decide) (by decide) ⟨rfl, N5, K, V_d⟩
theorem rm19_1 {l : Launch} {Z : State} {a0 : Array Value} (hw : own_W a0 Z) (d : Addr) (q : Int32) (kd : ClassId) (nn ua ub uc ud : Int32) (rr : List Value) {zc : Int32} {fm : Value} {u8 : Addr} {h0 : Heap} {n0 : Nat} (O0 : Old Z n0 h0) (SU : own_SU Z zc fm u8) (V_d : Arv Z h0 d kd .byte nn ((.int ua) :: (.int ub) :: (.int uc) :: (.int ud) :: rr) (.int 0)) (hj1 : (2 : Int32) < nn) (hj2 : (3 : Int32) < nn) (g_d : n0 ≤ d) : own_M l own_n19 jdk_52_method_4_code 3 none (own_rm 0 0 0 0) Z h0 #[.ref d, .int 1, .int q] (fun v h L => v = none ∧ Fr n0 L ∧ Keep h0 h [d] ∧ Arv Z h d kd .byte nn ((.int ua) :: (.int ub) :: (.int (own_lo q)) :: (.int (own_hi q)) :: rr) (.int 0)) := by
  refine own_body (L0 := #[.val (.ref d), .val (.int 1), .val (.int q)]) (plainFor_of_name pn_java_lang_StringUTF16) rfl rfl ?_
  intro p e s m below meth c s₁ f0 Bd hx Hb hml hZ hown X0 e0 pre0
  have hby := Hb.2
  have W := own_q hw
  have N0 := Fr.nil n0
  have O := O0
  have K := Keep.refl h0 [d]
  obtain ⟨T1, X1, e1, st1⟩ := getS2 X0 hx hZ hown (host := "") (Or.inl (W 113 rfl)) Via.refl e0 (SU.1.ext O.2) (g := (mkF m 0 #[.val (.ref d), .val (.int 1), .val (.int q)] [])) rfl (hb hby d19_0)
  obtain ⟨T2, X2, e2, st2⟩ := getS2 X1 hx hZ hown (host := "") (Or.inl (W 114 rfl)) Via.refl e1 (SU.2.1.ext O.2) (g := (mkF m 38 #[.val (.ref d), .val (.int 3), .val (.int q)] [.int q, .int 2, .ref d])) rfl (hb hby d19_38)
  obtain ⟨T3, h3, X3, e3, W3, V_d, st3⟩ := own_sB X2 Hb hZ e2 V_d (j := 2) (x := ((q >>> ((0 : Int32) &&& 31)).toInt8.toInt32)) (L := #[.val (.ref d), .val (.int 3), .val (.int q)]) (S := []) (vs' := ((.int ua) :: (.int ub) :: (.int (((q >>> ((0 : Int32) &&& 31)).toInt8.toInt32).toInt8.toInt32)) :: (.int ud) :: rr)) ⟨by decide, hj1⟩ rfl (Nat.le_of_ble_eq_true rfl) d19_43 rfl
  have O := O.wr W3 g_d
  have K := K.wr W3 (Or.inl (List.mem_of_getElem? (i := 0) rfl))
  have N3 := Fr.snoc X3 N0 g_d
  obtain ⟨T4, X4, e4, st4⟩ := getS2 X3 hx hZ hown (host := "") (Or.inl (W 115 rfl)) Via.refl e3 (SU.2.2.1.ext O.2) (g := (mkF m 47 #[.val (.ref d), .val (.int 3), .val (.int q)] [.int q, .int 3, .ref d])) rfl (hb hby d19_47)
  obtain ⟨T5, h5, X5, e5, W5, V_d, st5⟩ := own_sB X4 Hb hZ e4 V_d (j := 3) (x := ((q >>> ((8 : Int32) &&& 31)).toInt8.toInt32)) (L := #[.val (.ref d), .val (.int 3), .val (.int q)]) (S := []) (vs' := ((.int ua) :: (.int ub) :: (.int (((q >>> ((0 : Int32) &&& 31)).toInt8.toInt32).toInt8.toInt32)) :: (.int (((q >>> ((8 : Int32) &&& 31)).toInt8.toInt32).toInt8.toInt32)) :: rr)) ⟨by decide, hj2⟩ rfl (Nat.le_of_ble_eq_true rfl) d19_52 rfl
  have O := O.wr W5 g_d
  have K := K.wr W5 (Or.inl (List.mem_of_getElem? (i := 0) rfl))
  have N5 := Fr.snoc X5 N3 g_d
  have w6 : own_Go p e below f0 T5 m 53 #[.val (.ref d), .val (.int 3), .val (.int q)] [] := fun t k => by
    refine pre0 t ?_
    refine st1 _ <| ziy X1 Hb d19_3 ((if0 _ _).trans (feq ((by decide) : ¬ ((1 : Int32) = (0 : Int32)))).2) 28 (by decide) rfl <| zil X1 Hb d19_28 rfl <| zic X1 Hb d19_29 1 rfl <| zsl' X1 Hb d19_30 2 rfl <| zis X1 Hb (L' := #[.val (.ref d), .val (.int 2), .val (.int q)]) d19_31 rfl <| zal X1 Hb d19_32 rfl rfl <| zil X1 Hb d19_33 rfl ?_
    refine zii X1 Hb (L' := #[.val (.ref d), .val (.int 3), .val (.int q)]) d19_34 rfl 3 rfl rfl <| zil X1 Hb d19_37 rfl <| st2 _ <| zsr X2 Hb d19_41 <| zib X2 Hb d19_42 <| st3 _ <| zal X3 Hb d19_44 rfl rfl <| zil X3 Hb d19_45 rfl ?_
    refine zil X3 Hb d19_46 rfl <| st4 _ <| zsr X4 Hb d19_50 <| zib X4 Hb d19_51 <| st5 _ ?_
    exact k
  exact own_oV X5 Hb Bd.notSynchronized Bd.returns w6 d19_53 e5 (by decide) (by decide) ⟨rfl, N5, K, V_d⟩
theorem rm19_2 {l : Launch} {Z : State} {a0 : Array Value} (hw : own_W a0 Z) (d : Addr) (q : Int32) (kd : ClassId) (nn ua ub uc ud ue uf : Int32) (rr : List Value) {zc : Int32} {fm : Value} {u8 : Addr} {h0 : Heap} {n0 : Nat} (O0 : Old Z n0 h0) (SU : own_SU Z zc fm u8) (V_d : Arv Z h0 d kd .byte nn ((.int ua) :: (.int ub) :: (.int uc) :: (.int ud) :: (.int ue) :: (.int uf) :: rr) (.int 0)) (hj1 : (4 : Int32) < nn) (hj2 : (5 : Int32) < nn) (g_d : n0 ≤ d) : own_M l own_n19 jdk_52_method_4_code 3 none (own_rm 0 0 0 0) Z h0 #[.ref d, .int 2, .int q] (fun v h L => v = none ∧ Fr n0 L ∧ Keep h0 h [d] ∧ Arv Z h d kd .byte nn ((.int ua) :: (.int ub) :: (.int uc) :: (.int ud) :: (.int (own_lo q)) :: (.int (own_hi q)) :: rr) (.int 0)) := by
  refine own_body (L0 := #[.val (.ref d), .val (.int 2), .val (.int q)]) (plainFor_of_name pn_java_lang_StringUTF16) rfl rfl ?_
  intro p e s m below meth c s₁ f0 Bd hx Hb hml hZ hown X0 e0 pre0
  have hby := Hb.2
  have W := own_q hw
  have N0 := Fr.nil n0
  have O := O0
  have K := Keep.refl h0 [d]
  obtain ⟨T1, X1, e1, st1⟩ := getS2 X0 hx hZ hown (host := "") (Or.inl (W 113 rfl)) Via.refl e0 (SU.1.ext O.2) (g := (mkF m 0 #[.val (.ref d), .val (.int 2), .val (.int q)] [])) rfl (hb hby d19_0)
  obtain ⟨T2, X2, e2, st2⟩ := getS2 X1 hx hZ hown (host := "") (Or.inl (W 114 rfl)) Via.refl e1 (SU.2.1.ext O.2) (g := (mkF m 38 #[.val (.ref d), .val (.int 5), .val (.int q)] [.int q, .int 4, .ref d])) rfl (hb hby d19_38)
  obtain ⟨T3, h3, X3, e3, W3, V_d, st3⟩ := own_sB X2 Hb hZ e2 V_d (j := 4) (x := ((q >>> ((0 : Int32) &&& 31)).toInt8.toInt32)) (L := #[.val (.ref d), .val (.int 5), .val (.int q)]) (S := []) (vs' := ((.int ua) :: (.int ub) :: (.int uc) :: (.int ud) :: (.int (((q >>> ((0 : Int32) &&& 31)).toInt8.toInt32).toInt8.toInt32)) :: (.int uf) :: rr)) ⟨by decide, hj1⟩ rfl (Nat.le_of_ble_eq_true rfl) d19_43 rfl
  have O := O.wr W3 g_d
  have K := K.wr W3 (Or.inl (List.mem_of_getElem? (i := 0) rfl))
  have N3 := Fr.snoc X3 N0 g_d
  obtain ⟨T4, X4, e4, st4⟩ := getS2 X3 hx hZ hown (host := "") (Or.inl (W 115 rfl)) Via.refl e3 (SU.2.2.1.ext O.2) (g := (mkF m 47 #[.val (.ref d), .val (.int 5), .val (.int q)] [.int q, .int 5, .ref d])) rfl (hb hby d19_47)
  obtain ⟨T5, h5, X5, e5, W5, V_d, st5⟩ := own_sB X4 Hb hZ e4 V_d (j := 5) (x := ((q >>> ((8 : Int32) &&& 31)).toInt8.toInt32)) (L := #[.val (.ref d), .val (.int 5), .val (.int q)]) (S := []) (vs' := ((.int ua) :: (.int ub) :: (.int uc) :: (.int ud) :: (.int (((q >>> ((0 : Int32) &&& 31)).toInt8.toInt32).toInt8.toInt32)) :: (.int (((q >>> ((8 : Int32) &&& 31)).toInt8.toInt32).toInt8.toInt32)) :: rr)) ⟨by decide, hj2⟩ rfl (Nat.le_of_ble_eq_true rfl) d19_52 rfl
  have O := O.wr W5 g_d
  have K := K.wr W5 (Or.inl (List.mem_of_getElem? (i := 0) rfl))
  have N5 := Fr.snoc X5 N3 g_d
  have w6 : own_Go p e below f0 T5 m 53 #[.val (.ref d), .val (.int 5), .val (.int q)] [] := fun t k => by
    refine pre0 t ?_
    refine st1 _ <| ziy X1 Hb d19_3 ((if0 _ _).trans (feq ((by decide) : ¬ ((1 : Int32) = (0 : Int32)))).2) 28 (by decide) rfl <| zil X1 Hb d19_28 rfl <| zic X1 Hb d19_29 1 rfl <| zsl' X1 Hb d19_30 4 rfl <| zis X1 Hb (L' := #[.val (.ref d), .val (.int 4), .val (.int q)]) d19_31 rfl <| zal X1 Hb d19_32 rfl rfl <| zil X1 Hb d19_33 rfl ?_
    refine zii X1 Hb (L' := #[.val (.ref d), .val (.int 5), .val (.int q)]) d19_34 rfl 5 rfl rfl <| zil X1 Hb d19_37 rfl <| st2 _ <| zsr X2 Hb d19_41 <| zib X2 Hb d19_42 <| st3 _ <| zal X3 Hb d19_44 rfl rfl <| zil X3 Hb d19_45 rfl ?_
    refine zil X3 Hb d19_46 rfl <| st4 _ <| zsr X4 Hb d19_50 <| zib X4 Hb d19_51 <| st5 _ ?_
    exact k
  exact own_oV X5 Hb Bd.notSynchronized Bd.returns w6 d19_53 e5 (by decide) (by decide) ⟨rfl, N5, K, V_d⟩
theorem rm19_3 {l : Launch} {Z : State} {a0 : Array Value} (hw : own_W a0 Z) (d : Addr) (q : Int32) (kd : ClassId) (nn ua ub uc ud ue uf ug uh : Int32) (rr : List Value) {zc : Int32} {fm : Value} {u8 : Addr} {h0 : Heap} {n0 : Nat} (O0 : Old Z n0 h0) (SU : own_SU Z zc fm u8) (V_d : Arv Z h0 d kd .byte nn ((.int ua) :: (.int ub) :: (.int uc) :: (.int ud) :: (.int ue) :: (.int uf) :: (.int ug) :: (.int uh) :: rr) (.int 0)) (hj1 : (6 : Int32) < nn) (hj2 : (7 : Int32) < nn) (g_d : n0 ≤ d) : own_M l own_n19 jdk_52_method_4_code 3 none (own_rm 0 0 0 0) Z h0 #[.ref d, .int 3, .int q] (fun v h L => v = none ∧ Fr n0 L ∧ Keep h0 h [d] ∧ Arv Z h d kd .byte nn ((.int ua) :: (.int ub) :: (.int uc) :: (.int ud) :: (.int ue) :: (.int uf) :: (.int (own_lo q)) :: (.int (own_hi q)) :: rr) (.int 0)) := by
  refine own_body (L0 := #[.val (.ref d), .val (.int 3), .val (.int q)]) (plainFor_of_name pn_java_lang_StringUTF16) rfl rfl ?_
  intro p e s m below meth c s₁ f0 Bd hx Hb hml hZ hown X0 e0 pre0
  have hby := Hb.2
  have W := own_q hw
  have N0 := Fr.nil n0
  have O := O0
  have K := Keep.refl h0 [d]
  obtain ⟨T1, X1, e1, st1⟩ := getS2 X0 hx hZ hown (host := "") (Or.inl (W 113 rfl)) Via.refl e0 (SU.1.ext O.2) (g := (mkF m 0 #[.val (.ref d), .val (.int 3), .val (.int q)] [])) rfl (hb hby d19_0)
  obtain ⟨T2, X2, e2, st2⟩ := getS2 X1 hx hZ hown (host := "") (Or.inl (W 114 rfl)) Via.refl e1 (SU.2.1.ext O.2) (g := (mkF m 38 #[.val (.ref d), .val (.int 7), .val (.int q)] [.int q, .int 6, .ref d])) rfl (hb hby d19_38)
  obtain ⟨T3, h3, X3, e3, W3, V_d, st3⟩ := own_sB X2 Hb hZ e2 V_d (j := 6) (x := ((q >>> ((0 : Int32) &&& 31)).toInt8.toInt32)) (L := #[.val (.ref d), .val (.int 7), .val (.int q)]) (S := []) (vs' := ((.int ua) :: (.int ub) :: (.int uc) :: (.int ud) :: (.int ue) :: (.int uf) :: (.int (((q >>> ((0 : Int32) &&& 31)).toInt8.toInt32).toInt8.toInt32)) :: (.int uh) :: rr)) ⟨by decide, hj1⟩ rfl (Nat.le_of_ble_eq_true rfl) d19_43 rfl
  have O := O.wr W3 g_d
  have K := K.wr W3 (Or.inl (List.mem_of_getElem? (i := 0) rfl))
  have N3 := Fr.snoc X3 N0 g_d
  obtain ⟨T4, X4, e4, st4⟩ := getS2 X3 hx hZ hown (host := "") (Or.inl (W 115 rfl)) Via.refl e3 (SU.2.2.1.ext O.2) (g := (mkF m 47 #[.val (.ref d), .val (.int 7), .val (.int q)] [.int q, .int 7, .ref d])) rfl (hb hby d19_47)
  obtain ⟨T5, h5, X5, e5, W5, V_d, st5⟩ := own_sB X4 Hb hZ e4 V_d (j := 7) (x := ((q >>> ((8 : Int32) &&& 31)).toInt8.toInt32)) (L := #[.val (.ref d), .val (.int 7), .val (.int q)]) (S := []) (vs' := ((.int ua) :: (.int ub) :: (.int uc) :: (.int ud) :: (.int ue) :: (.int uf) :: (.int (((q >>> ((0 : Int32) &&& 31)).toInt8.toInt32).toInt8.toInt32)) :: (.int (((q >>> ((8 : Int32) &&& 31)).toInt8.toInt32).toInt8.toInt32)) :: rr)) ⟨by decide, hj2⟩ rfl (Nat.le_of_ble_eq_true rfl) d19_52 rfl
  have O := O.wr W5 g_d
  have K := K.wr W5 (Or.inl (List.mem_of_getElem? (i := 0) rfl))
  have N5 := Fr.snoc X5 N3 g_d
  have w6 : own_Go p e below f0 T5 m 53 #[.val (.ref d), .val (.int 7), .val (.int q)] [] := fun t k => by
    refine pre0 t ?_
    refine st1 _ <| ziy X1 Hb d19_3 ((if0 _ _).trans (feq ((by decide) : ¬ ((1 : Int32) = (0 : Int32)))).2) 28 (by decide) rfl <| zil X1 Hb d19_28 rfl <| zic X1 Hb d19_29 1 rfl <| zsl' X1 Hb d19_30 6 rfl <| zis X1 Hb (L' := #[.val (.ref d), .val (.int 6), .val (.int q)]) d19_31 rfl <| zal X1 Hb d19_32 rfl rfl <| zil X1 Hb d19_33 rfl ?_
    refine zii X1 Hb (L' := #[.val (.ref d), .val (.int 7), .val (.int q)]) d19_34 rfl 7 rfl rfl <| zil X1 Hb d19_37 rfl <| st2 _ <| zsr X2 Hb d19_41 <| zib X2 Hb d19_42 <| st3 _ <| zal X3 Hb d19_44 rfl rfl <| zil X3 Hb d19_45 rfl ?_
    refine zil X3 Hb d19_46 rfl <| st4 _ <| zsr X4 Hb d19_50 <| zib X4 Hb d19_51 <| st5 _ ?_
    exact k
  exact own_oV X5 Hb Bd.notSynchronized Bd.returns w6 d19_53 e5 (by decide) (by decide) ⟨rfl, N5, K, V_d⟩
abbrev B16 := jdk_52_method_14_code
theorem d16_0 : decode B16 0 = .ok (.iload_n 2, 1) := by decide +kernel
theorem d16_1 : decode B16 1 = .ok (.invokestatic 107, 3) := by decide +kernel
theorem pd1 : parseMethodDescriptor "(I)[B" = some ⟨[.int], some (.array .byte)⟩ := by decide +kernel
theorem d16_4 : decode B16 4 = .ok (.astore_n 3, 1) := by decide +kernel
theorem d16_5 : decode B16 5 = .ok (.iconst 0, 1) := by decide +kernel
theorem d16_6 : decode B16 6 = .ok (.istore 4, 2) := by decide +kernel
theorem d16_8 : decode B16 8 = .ok (.iload 4, 2) := by decide +kernel
theorem d16_10 : decode B16 10 = .ok (.iload_n 2, 1) := by decide +kernel
theorem d16_11 : decode B16 11 = .ok (.if_icmp .ge 21, 3) := by decide +kernel
theorem d16_14 : decode B16 14 = .ok (.aload_n 3, 1) := by decide +kernel
theorem d16_15 : decode B16 15 = .ok (.iload 4, 2) := by decide +kernel
theorem d16_17 : decode B16 17 = .ok (.aload_n 0, 1) := by decide +kernel
theorem d16_18 : decode B16 18 = .ok (.iload_n 1, 1) := by decide +kernel
theorem d16_19 : decode B16 19 = .ok (.caload, 1) := by decide +kernel
theorem d16_20 : decode B16 20 = .ok (.invokestatic 111, 3) := by decide +kernel
theorem pd2 : parseMethodDescriptor "([BII)V" = some ⟨[(.array .byte), .int, .int], none⟩ := by decide +kernel
theorem d16_23 : decode B16 23 = .ok (.iinc 1 1, 3) := by decide +kernel
theorem d16_26 : decode B16 26 = .ok (.iinc 4 1, 3) := by decide +kernel
theorem d16_29 : decode B16 29 = .ok (.goto (-21), 3) := by decide +kernel
theorem d16_32 : decode B16 32 = .ok (.aload_n 3, 1) := by decide +kernel
theorem d16_33 : decode B16 33 = .ok (.areturn, 1) := by decide +kernel
theorem rm16_3 {l : Launch} {Z : State} {a0 : Array Value} (hw : own_W a0 Z) (b : Addr) (kc : ClassId) (xa xb xc : Int32) {zc : Int32} {fm : Value} {u8 : Addr} {h0 : Heap} {n0 : Nat} (O0 : Old Z n0 h0) (SU : own_SU Z zc fm u8) (V_b : Arv Z h0 b kc .char (3 : Int32) [.int xa, .int xb, .int xc] (.int 0)) : own_M l own_n16 jdk_52_method_14_code 5 (some (.array .byte)) (own_rm 2 1 6 24) Z h0 #[.ref b, .int 0, .int 3] (fun v h L => ∃ z : Addr, ∃ kz : ClassId, v = some (.ref z) ∧ Fr n0 L ∧ Keep h0 h [] ∧ Arv Z h z kz .byte (6 : Int32) [.int (own_lo xa), .int (own_hi xa), .int (own_lo xb), .int (own_hi xb), .int (own_lo xc), .int (own_hi xc)] (.int 0) ∧ h0.size ≤ z ∧ n0 ≤ z) := by
  refine own_body (L0 := #[.val (.ref b), .val (.int 0), .val (.int 3), .unset, .unset]) (plainFor_of_name pn_java_lang_StringUTF16) rfl rfl ?_
  intro p e s m below meth c s₁ f0 Bd hx Hb hml hZ hown X0 e0 pre0
  have W := own_q hw
  have N0 := Fr.nil n0
  have O := O0
  have K := Keep.refl h0 []
  have lt1_b := V_b.lt
  obtain ⟨_, T1, Lc1, X1, hQ1, st1⟩ := own_cS X0 Hb hZ hown hml (L := #[.val (.ref b), .val (.int 0), .val (.int 3), .unset, .unset]) rfl (rm17_3 hw  O ) (W 103 rfl) (W 104 rfl) (W 21 rfl) (W 105 rfl) pd1 e0 d16_1 [.int 3] [] rfl rfl (by decide) 0 rfl (by decide)
  obtain ⟨z_1, kz_1, rfl, N1q, K1, V_z_c1, gz_1, gn_1⟩ := hQ1
  have N1 := Fr.app N0 N1q
  have V_b := V_b.keep K1 nin0
  have ne_b_z_1 : b ≠ z_1 := Nat.ne_of_lt (Nat.lt_of_lt_of_le lt1_b gz_1)
  have g_z_1 := gn_1
  have z_z_1 : h0.size ≤ z_1 := Nat.le_trans K.1 gz_1
  have O := O.keep K1 all0
  have K := K.trans K1 all0
  have B2 : own_El Z (T1.heap) b .char (0 : Int32) (.int xa) := own_el V_b ⟨by decide, by decide⟩ rfl
  obtain ⟨_, T3, Lc3, X3, hQ3, st3⟩ := own_cS X1 Hb hZ hown hml (L := #[.val (.ref b), .val (.int 0), .val (.int 3), .val (.ref z_1), .val (.int 0)]) rfl (rm19_0 hw z_1 xa kz_1 (6 : Int32) (0 : Int32) (0 : Int32) [.int 0, .int 0, .int 0, .int 0] O SU V_z_c1 (by decide) (by decide) g_z_1) (W 110 rfl) (W 111 rfl) (W 21 rfl) (W 112 rfl) pd2 rfl d16_20 [.ref z_1, .int 0, .int xa] [] rfl rfl (by decide) 0 rfl (by decide)
  obtain ⟨rfl, N3q, K3, V_d_c3⟩ := hQ3
  have N3 := Fr.app N1 N3q
  have V_b := V_b.keep K3 (ninS ne_b_z_1 nin0)
  have O := O.keep K3 (allS g_z_1 all0)
  have K := K.trans K3 (allS (Or.inr z_z_1) all0)
  have B4 : own_El Z (T3.heap) b .char (1 : Int32) (.int xb) := own_el V_b ⟨by decide, by decide⟩ rfl
  obtain ⟨_, T5, Lc5, X5, hQ5, st5⟩ := own_cS X3 Hb hZ hown hml (L := #[.val (.ref b), .val (.int 1), .val (.int 3), .val (.ref z_1), .val (.int 1)]) rfl (rm19_1 hw z_1 xb kz_1 (6 : Int32) (own_lo xa) (own_hi xa) (0 : Int32) (0 : Int32) [.int 0, .int 0] O SU V_d_c3 (by decide) (by decide) g_z_1) (W 110 rfl) (W 111 rfl) (W 21 rfl) (W 112 rfl) pd2 rfl d16_20 [.ref z_1, .int 1, .int xb] [] rfl rfl (by decide) 0 rfl (by decide)
  obtain ⟨rfl, N5q, K5, V_d_c5⟩ := hQ5
  have N5 := Fr.app N3 N5q
  have V_b := V_b.keep K5 (ninS ne_b_z_1 nin0)
  have O := O.keep K5 (allS g_z_1 all0)
  have K := K.trans K5 (allS (Or.inr z_z_1) all0)
  have B6 : own_El Z (T5.heap) b .char (2 : Int32) (.int xc) := own_el V_b ⟨by decide, by decide⟩ rfl
  obtain ⟨_, T7, Lc7, X7, hQ7, st7⟩ := own_cS X5 Hb hZ hown hml (L := #[.val (.ref b), .val (.int 2), .val (.int 3), .val (.ref z_1), .val (.int 2)]) rfl (rm19_2 hw z_1 xc kz_1 (6 : Int32) (own_lo xa) (own_hi xa) (own_lo xb) (own_hi xb) (0 : Int32) (0 : Int32) [] O SU V_d_c5 (by decide) (by decide) g_z_1) (W 110 rfl) (W 111 rfl) (W 21 rfl) (W 112 rfl) pd2 rfl d16_20 [.ref z_1, .int 2, .int xc] [] rfl rfl (by decide) 0 rfl (by decide)
  obtain ⟨rfl, N7q, K7, V_d_c7⟩ := hQ7
  have N7 := Fr.app N5 N7q
  have V_b := V_b.keep K7 (ninS ne_b_z_1 nin0)
  have O := O.keep K7 (allS g_z_1 all0)
  have K := K.trans K7 (allS (Or.inr z_z_1) all0)
  have w8 : own_Go p e below f0 T7 m 33 #[.val (.ref b), .val (.int 3), .val (.int 3), .val (.ref z_1), .val (.int 3)] [.ref z_1] := fun t k => by
    refine pre0 t ?_
    refine zil X0 Hb d16_0 rfl <| st1 _ <| zas X1 Hb (L' := #[.val (.ref b), .val (.int 0), .val (.int 3), .val (.ref z_1), .unset]) d16_4 rfl rfl <| zic X1 Hb d16_5 0 rfl <| ziS X1 Hb d16_6 rfl <| ziL X1 Hb d16_8 rfl <| zil X1 Hb d16_10 rfl <| zcn X1 Hb d16_11 (tlt ((by decide) : (0 : Int32) < (3 : Int32))).2.1 ?_
    refine zal X1 Hb d16_14 rfl rfl <| ziL X1 Hb d16_15 rfl <| zal X1 Hb d16_17 rfl rfl <| zil X1 Hb d16_18 rfl <| zca X1 Hb hZ rfl B2 d16_19 <| st3 _ <| zii X3 Hb d16_23 rfl 1 rfl rfl <| zii X3 Hb d16_26 rfl 1 rfl rfl ?_
    refine zgo X3 Hb d16_29 8 (by decide) rfl <| ziL X3 Hb d16_8 rfl <| zil X3 Hb d16_10 rfl <| zcn X3 Hb d16_11 (tlt ((by decide) : (1 : Int32) < (3 : Int32))).2.1 <| zal X3 Hb d16_14 rfl rfl <| ziL X3 Hb d16_15 rfl <| zal X3 Hb d16_17 rfl rfl <| zil X3 Hb d16_18 rfl ?_
    refine zca X3 Hb hZ rfl B4 d16_19 <| st5 _ <| zii X5 Hb d16_23 rfl 2 rfl rfl <| zii X5 Hb d16_26 rfl 2 rfl rfl <| zgo X5 Hb d16_29 8 (by decide) rfl <| ziL X5 Hb d16_8 rfl <| zil X5 Hb d16_10 rfl <| zcn X5 Hb d16_11 (tlt ((by decide) : (2 : Int32) < (3 : Int32))).2.1 ?_
    refine zal X5 Hb d16_14 rfl rfl <| ziL X5 Hb d16_15 rfl <| zal X5 Hb d16_17 rfl rfl <| zil X5 Hb d16_18 rfl <| zca X5 Hb hZ rfl B6 d16_19 <| st7 _ <| zii X7 Hb d16_23 rfl 3 rfl rfl <| zii X7 Hb d16_26 rfl 3 rfl rfl ?_
    refine zgo X7 Hb d16_29 8 (by decide) rfl <| ziL X7 Hb d16_8 rfl <| zil X7 Hb d16_10 rfl <| zcy X7 Hb d16_11 (flt ((by decide) : ¬ ((3 : Int32) < (3 : Int32)))).2.1 32 (by decide) rfl <| zal X7 Hb d16_32 rfl rfl ?_
    exact k
  exact own_oR X7 Hb Bd.notSynchronized Bd.returns rfl w8 d16_33 rfl (by decide) (by decide) ⟨z_1, kz_1, rfl, N7, K, V_d_c7, z_z_1, g_z_1⟩
theorem rm16_4 {l : Launch} {Z : State} {a0 : Array Value} (hw : own_W a0 Z) (b : Addr) (kc : ClassId) (xa xb xc xd : Int32) {zc : Int32} {fm : Value} {u8 : Addr} {h0 : Heap} {n0 : Nat} (O0 : Old Z n0 h0) (SU : own_SU Z zc fm u8) (V_b : Arv Z h0 b kc .char (4 : Int32) [.int xa, .int xb, .int xc, .int xd] (.int 0)) : own_M l own_n16 jdk_52_method_14_code 5 (some (.array .byte)) (own_rm 2 1 8 24) Z h0 #[.ref b, .int 0, .int 4] (fun v h L => ∃ z : Addr, ∃ kz : ClassId, v = some (.ref z) ∧ Fr n0 L ∧ Keep h0 h [] ∧ Arv Z h z kz .byte (8 : Int32) [.int (own_lo xa), .int (own_hi xa), .int (own_lo xb), .int (own_hi xb), .int (own_lo xc), .int (own_hi xc), .int (own_lo xd), .int (own_hi xd)] (.int 0) ∧ h0.size ≤ z ∧ n0 ≤ z) := by
  refine own_body (L0 := #[.val (.ref b), .val (.int 0), .val (.int 4), .unset, .unset]) (plainFor_of_name pn_java_lang_StringUTF16) rfl rfl ?_
  intro p e s m below meth c s₁ f0 Bd hx Hb hml hZ hown X0 e0 pre0
  have W := own_q hw
  have N0 := Fr.nil n0
  have O := O0
  have K := Keep.refl h0 []
  have lt1_b := V_b.lt
  obtain ⟨_, T1, Lc1, X1, hQ1, st1⟩ := own_cS X0 Hb hZ hown hml (L := #[.val (.ref b), .val (.int 0), .val (.int 4), .unset, .unset]) rfl (rm17_4 hw  O ) (W 103 rfl) (W 104 rfl) (W 21 rfl) (W 105 rfl) pd1 e0 d16_1 [.int 4] [] rfl rfl (by decide) 0 rfl (by decide)
  obtain ⟨z_1, kz_1, rfl, N1q, K1, V_z_c1, gz_1, gn_1⟩ := hQ1
  have N1 := Fr.app N0 N1q
  have V_b := V_b.keep K1 nin0
  have ne_b_z_1 : b ≠ z_1 := Nat.ne_of_lt (Nat.lt_of_lt_of_le lt1_b gz_1)
  have g_z_1 := gn_1
  have z_z_1 : h0.size ≤ z_1 := Nat.le_trans K.1 gz_1
  have O := O.keep K1 all0
  have K := K.trans K1 all0
  have B2 : own_El Z (T1.heap) b .char (0 : Int32) (.int xa) := own_el V_b ⟨by decide, by decide⟩ rfl
  obtain ⟨_, T3, Lc3, X3, hQ3, st3⟩ := own_cS X1 Hb hZ hown hml (L := #[.val (.ref b), .val (.int 0), .val (.int 4), .val (.ref z_1), .val (.int 0)]) rfl (rm19_0 hw z_1 xa kz_1 (8 : Int32) (0 : Int32) (0 : Int32) [.int 0, .int 0, .int 0, .int 0, .int 0, .int 0] O SU V_z_c1 (by decide) (by decide) g_z_1) (W 110 rfl) (W 111 rfl) (W 21 rfl) (W 112 rfl) pd2 rfl d16_20 [.ref z_1, .int 0, .int xa] [] rfl rfl (by decide) 0 rfl (by decide)
  obtain ⟨rfl, N3q, K3, V_d_c3⟩ := hQ3
  have N3 := Fr.app N1 N3q
  have V_b := V_b.keep K3 (ninS ne_b_z_1 nin0)
  have O := O.keep K3 (allS g_z_1 all0)
  have K := K.trans K3 (allS (Or.inr z_z_1) all0)
  have B4 : own_El Z (T3.heap) b .char (1 : Int32) (.int xb) := own_el V_b ⟨by decide, by decide⟩ rfl
  obtain ⟨_, T5, Lc5, X5, hQ5, st5⟩ := own_cS X3 Hb hZ hown hml (L := #[.val (.ref b), .val (.int 1), .val (.int 4), .val (.ref z_1), .val (.int 1)]) rfl (rm19_1 hw z_1 xb kz_1 (8 : Int32) (own_lo xa) (own_hi xa) (0 : Int32) (0 : Int32) [.int 0, .int 0, .int 0, .int 0] O SU V_d_c3 (by decide) (by decide) g_z_1) (W 110 rfl) (W 111 rfl) (W 21 rfl) (W 112 rfl) pd2 rfl d16_20 [.ref z_1, .int 1, .int xb] [] rfl rfl (by decide) 0 rfl (by decide)
  obtain ⟨rfl, N5q, K5, V_d_c5⟩ := hQ5
  have N5 := Fr.app N3 N5q
  have V_b := V_b.keep K5 (ninS ne_b_z_1 nin0)
  have O := O.keep K5 (allS g_z_1 all0)
  have K := K.trans K5 (allS (Or.inr z_z_1) all0)
  have B6 : own_El Z (T5.heap) b .char (2 : Int32) (.int xc) := own_el V_b ⟨by decide, by decide⟩ rfl
  obtain ⟨_, T7, Lc7, X7, hQ7, st7⟩ := own_cS X5 Hb hZ hown hml (L := #[.val (.ref b), .val (.int 2), .val (.int 4), .val (.ref z_1), .val (.int 2)]) rfl (rm19_2 hw z_1 xc kz_1 (8 : Int32) (own_lo xa) (own_hi xa) (own_lo xb) (own_hi xb) (0 : Int32) (0 : Int32) [.int 0, .int 0] O SU V_d_c5 (by decide) (by decide) g_z_1) (W 110 rfl) (W 111 rfl) (W 21 rfl) (W 112 rfl) pd2 rfl d16_20 [.ref z_1, .int 2, .int xc] [] rfl rfl (by decide) 0 rfl (by decide)
  obtain ⟨rfl, N7q, K7, V_d_c7⟩ := hQ7
  have N7 := Fr.app N5 N7q
  have V_b := V_b.keep K7 (ninS ne_b_z_1 nin0)
  have O := O.keep K7 (allS g_z_1 all0)
  have K := K.trans K7 (allS (Or.inr z_z_1) all0)
  have B8 : own_El Z (T7.heap) b .char (3 : Int32) (.int xd) := own_el V_b ⟨by decide, by decide⟩ rfl
  obtain ⟨_, T9, Lc9, X9, hQ9, st9⟩ := own_cS X7 Hb hZ hown hml (L := #[.val (.ref b), .val (.int 3), .val (.int 4), .val (.ref z_1), .val (.int 3)]) rfl (rm19_3 hw z_1 xd kz_1 (8 : Int32) (own_lo xa) (own_hi xa) (own_lo xb) (own_hi xb) (own_lo xc) (own_hi xc) (0 : Int32) (0 : Int32) [] O SU V_d_c7 (by decide) (by decide) g_z_1) (W 110 rfl) (W 111 rfl) (W 21 rfl) (W 112 rfl) pd2 rfl d16_20 [.ref z_1, .int 3, .int xd] [] rfl rfl (by decide) 0 rfl (by decide)
  obtain ⟨rfl, N9q, K9, V_d_c9⟩ := hQ9
  have N9 := Fr.app N7 N9q
  have V_b := V_b.keep K9 (ninS ne_b_z_1 nin0)
  have O := O.keep K9 (allS g_z_1 all0)
  have K := K.trans K9 (allS (Or.inr z_z_1) all0)
  have w10 : own_Go p e below f0 T9 m 33 #[.val (.ref b), .val (.int 4), .val (.int 4), .val (.ref z_1), .val (.int 4)] [.ref z_1] := fun t k => by
    refine pre0 t ?_
    refine zil X0 Hb d16_0 rfl <| st1 _ <| zas X1 Hb (L' := #[.val (.ref b), .val (.int 0), .val (.int 4), .val (.ref z_1), .unset]) d16_4 rfl rfl <| zic X1 Hb d16_5 0 rfl <| ziS X1 Hb d16_6 rfl <| ziL X1 Hb d16_8 rfl <| zil X1 Hb d16_10 rfl <| zcn X1 Hb d16_11 (tlt ((by decide) : (0 : Int32) < (4 : Int32))).2.1 ?_
    refine zal X1 Hb d16_14 rfl rfl <| ziL X1 Hb d16_15 rfl <| zal X1 Hb d16_17 rfl rfl <| zil X1 Hb d16_18 rfl <| zca X1 Hb hZ rfl B2 d16_19 <| st3 _ <| zii X3 Hb d16_23 rfl 1 rfl rfl <| zii X3 Hb d16_26 rfl 1 rfl rfl ?_
    refine zgo X3 Hb d16_29 8 (by decide) rfl <| ziL X3 Hb d16_8 rfl <| zil X3 Hb d16_10 rfl <| zcn X3 Hb d16_11 (tlt ((by decide) : (1 : Int32) < (4 : Int32))).2.1 <| zal X3 Hb d16_14 rfl rfl <| ziL X3 Hb d16_15 rfl <| zal X3 Hb d16_17 rfl rfl <| zil X3 Hb d16_18 rfl ?_
    refine zca X3 Hb hZ rfl B4 d16_19 <| st5 _ <| zii X5 Hb d16_23 rfl 2 rfl rfl <| zii X5 Hb d16_26 rfl 2 rfl rfl <| zgo X5 Hb d16_29 8 (by decide) rfl <| ziL X5 Hb d16_8 rfl <| zil X5 Hb d16_10 rfl <| zcn X5 Hb d16_11 (tlt ((by decide) : (2 : Int32) < (4 : Int32))).2.1 ?_
    refine zal X5 Hb d16_14 rfl rfl <| ziL X5 Hb d16_15 rfl <| zal X5 Hb d16_17 rfl rfl <| zil X5 Hb d16_18 rfl <| zca X5 Hb hZ rfl B6 d16_19 <| st7 _ <| zii X7 Hb d16_23 rfl 3 rfl rfl <| zii X7 Hb d16_26 rfl 3 rfl rfl ?_
    refine zgo X7 Hb d16_29 8 (by decide) rfl <| ziL X7 Hb d16_8 rfl <| zil X7 Hb d16_10 rfl <| zcn X7 Hb d16_11 (tlt ((by decide) : (3 : Int32) < (4 : Int32))).2.1 <| zal X7 Hb d16_14 rfl rfl <| ziL X7 Hb d16_15 rfl <| zal X7 Hb d16_17 rfl rfl <| zil X7 Hb d16_18 rfl ?_
    refine zca X7 Hb hZ rfl B8 d16_19 <| st9 _ <| zii X9 Hb d16_23 rfl 4 rfl rfl <| zii X9 Hb d16_26 rfl 4 rfl rfl <| zgo X9 Hb d16_29 8 (by decide) rfl <| ziL X9 Hb d16_8 rfl <| zil X9 Hb d16_10 rfl <| zcy X9 Hb d16_11 (flt ((by decide) : ¬ ((4 : Int32) < (4 : Int32)))).2.1 32 (by decide) rfl ?_
    refine zal X9 Hb d16_32 rfl rfl ?_
    exact k
  exact own_oR X9 Hb Bd.notSynchronized Bd.returns rfl w10 d16_33 rfl (by decide) (by decide) ⟨z_1, kz_1, rfl, N9, K, V_d_c9, z_z_1, g_z_1⟩
abbrev B20 := jdk_52_method_5_code
theorem d20_0 : decode B20 0 = .ok (.getstatic 44, 3) := by decide +kernel
theorem d20_3 : decode B20 3 = .ok (.ifCond .ne 25, 3) := by decide +kernel
theorem d20_28 : decode B20 28 = .ok (.iload_n 1, 1) := by decide +kernel
theorem d20_29 : decode B20 29 = .ok (.iconst 1, 1) := by decide +kernel
theorem d20_30 : decode B20 30 = .ok (.ishl, 1) := by decide +kernel
theorem d20_31 : decode B20 31 = .ok (.istore_n 1, 1) := by decide +kernel
theorem d20_32 : decode B20 32 = .ok (.aload_n 0, 1) := by decide +kernel
theorem d20_33 : decode B20 33 = .ok (.iload_n 1, 1) := by decide +kernel
theorem d20_34 : decode B20 34 = .ok (.iinc 1 1, 3) := by decide +kernel
theorem d20_37 : decode B20 37 = .ok (.baload, 1) := by decide +kernel
theorem d20_38 : decode B20 38 = .ok (.sipush 255, 3) := by decide +kernel
theorem d20_41 : decode B20 41 = .ok (.iand, 1) := by decide +kernel
theorem d20_42 : decode B20 42 = .ok (.getstatic 59, 3) := by decide +kernel
theorem d20_45 : decode B20 45 = .ok (.ishl, 1) := by decide +kernel
theorem d20_46 : decode B20 46 = .ok (.aload_n 0, 1) := by decide +kernel
theorem d20_47 : decode B20 47 = .ok (.iload_n 1, 1) := by decide +kernel
theorem d20_48 : decode B20 48 = .ok (.baload, 1) := by decide +kernel
theorem d20_49 : decode B20 49 = .ok (.sipush 255, 3) := by decide +kernel
theorem d20_52 : decode B20 52 = .ok (.iand, 1) := by decide +kernel
theorem d20_53 : decode B20 53 = .ok (.getstatic 63, 3) := by decide +kernel
theorem d20_56 : decode B20 56 = .ok (.ishl, 1) := by decide +kernel
theorem d20_57 : decode B20 57 = .ok (.ior, 1) := by decide +kernel
theorem d20_58 : decode B20 58 = .ok (.i2c, 1) := by decide +kernel
theorem d20_59 : decode B20 59 = .ok (.ireturn, 1) := by decide +kernel
theorem rm20_6_2 {l : Launch} {Z : State} {a0 : Array Value} (hw : own_W a0 Z) (b : Addr) (kc : ClassId) (ua ub uc ud ue uf : Int32) {zc : Int32} {fm : Value} {u8 : Addr} {h0 : Heap} {n0 : Nat} (O0 : Old Z n0 h0) (SU : own_SU Z zc fm u8) (V_b : Arv Z h0 b kc .byte (6 : Int32) [.int ua, .int ub, .int uc, .int ud, .int ue, .int uf] (.int 0)) : own_M l own_n20 jdk_52_method_5_code 2 (some .char) (own_rm 0 0 0 0) Z h0 #[.ref b, .int 2] (fun v h L => v = some (.int (own_gc ue uf)) ∧ Fr n0 L ∧ h = h0) := by
  refine own_body (L0 := #[.val (.ref b), .val (.int 2)]) (plainFor_of_name pn_java_lang_StringUTF16) rfl rfl ?_
  intro p e s m below meth c s₁ f0 Bd hx Hb hml hZ hown X0 e0 pre0
  have hby := Hb.2
  have W := own_q hw
  have N0 := Fr.nil n0
  have O := O0
  obtain ⟨T1, X1, e1, st1⟩ := getS2 X0 hx hZ hown (host := "") (Or.inl (W 113 rfl)) Via.refl e0 (SU.1.ext O.2) (g := (mkF m 0 #[.val (.ref b), .val (.int 2)] [])) rfl (hb hby d20_0)
  have B2 : own_El Z h0 b .byte (4 : Int32) (.int ue) := own_el V_b ⟨by decide, by decide⟩ rfl
  obtain ⟨T3, X3, e3, st3⟩ := getS2 X1 hx hZ hown (host := "") (Or.inl (W 114 rfl)) Via.refl e1 (SU.2.1.ext O.2) (g := (mkF m 42 #[.val (.ref b), .val (.int 5)] [(.int (ue &&& (255 : Int32)))])) rfl (hb hby d20_42)
  have B4 : own_El Z h0 b .byte (5 : Int32) (.int uf) := own_el V_b ⟨by decide, by decide⟩ rfl
  obtain ⟨T5, X5, e5, st5⟩ := getS2 X3 hx hZ hown (host := "") (Or.inl (W 115 rfl)) Via.refl e3 (SU.2.2.1.ext O.2) (g := (mkF m 53 #[.val (.ref b), .val (.int 5)] [(.int (uf &&& (255 : Int32))), (.int ((ue &&& (255 : Int32)) <<< ((0 : Int32) &&& 31)))])) rfl (hb hby d20_53)
  have w6 : own_Go p e below f0 T5 m 59 #[.val (.ref b), .val (.int 5)] [(.int ((((ue &&& (255 : Int32)) <<< ((0 : Int32) &&& 31)) ||| ((uf &&& (255 : Int32)) <<< ((8 : Int32) &&& 31))).toUInt32.toUInt16.toUInt32.toInt32))] := fun t k => by
    refine pre0 t ?_
    refine st1 _ <| ziy X1 Hb d20_3 ((if0 _ _).trans (feq ((by decide) : ¬ ((1 : Int32) = (0 : Int32)))).2) 28 (by decide) rfl <| zil X1 Hb d20_28 rfl <| zic X1 Hb d20_29 1 rfl <| zsl' X1 Hb d20_30 4 rfl <| zis X1 Hb (L' := #[.val (.ref b), .val (.int 4)]) d20_31 rfl <| zal X1 Hb d20_32 rfl rfl <| zil X1 Hb d20_33 rfl ?_
    refine zii X1 Hb (L' := #[.val (.ref b), .val (.int 5)]) d20_34 rfl 5 rfl rfl <| zba X1 Hb hZ e1 B2 d20_37 <| zsp X1 Hb d20_38 255 rfl <| zan X1 Hb d20_41 <| st3 _ <| zsl X3 Hb d20_45 <| zal X3 Hb d20_46 rfl rfl <| zil X3 Hb d20_47 rfl ?_
    refine zba X3 Hb hZ e3 B4 d20_48 <| zsp X3 Hb d20_49 255 rfl <| zan X3 Hb d20_52 <| st5 _ <| zsl X5 Hb d20_56 <| zor X5 Hb d20_57 <| zik X5 Hb d20_58 ?_
    exact k
  exact own_oN X5 Hb Bd.notSynchronized Bd.returns (by simp) w6 d20_59 e5 (by decide) (by decide) ⟨rfl, N0, rfl⟩
theorem rm20_6_1 {l : Launch} {Z : State} {a0 : Array Value} (hw : own_W a0 Z) (b : Addr) (kc : ClassId) (ua ub uc ud ue uf : Int32) {zc : Int32} {fm : Value} {u8 : Addr} {h0 : Heap} {n0 : Nat} (O0 : Old Z n0 h0) (SU : own_SU Z zc fm u8) (V_b : Arv Z h0 b kc .byte (6 : Int32) [.int ua, .int ub, .int uc, .int ud, .int ue, .int uf] (.int 0)) : own_M l own_n20 jdk_52_method_5_code 2 (some .char) (own_rm 0 0 0 0) Z h0 #[.ref b, .int 1] (fun v h L => v = some (.int (own_gc uc ud)) ∧ Fr n0 L ∧ h = h0) := by
  refine own_body (L0 := #[.val (.ref b), .val (.int 1)]) (plainFor_of_name pn_java_lang_StringUTF16) rfl rfl ?_
  intro p e s m below meth c s₁ f0 Bd hx Hb hml hZ hown X0 e0 pre0
  have hby := Hb.2
  have W := own_q hw
  have N0 := Fr.nil n0
  have O := O0
  obtain ⟨T1, X1, e1, st1⟩ := getS2 X0 hx hZ hown (host := "") (Or.inl (W 113 rfl)) Via.refl e0 (SU.1.ext O.2) (g := (mkF m 0 #[.val (.ref b), .val (.int 1)] [])) rfl (hb hby d20_0)
  have B2 : own_El Z h0 b .byte (2 : Int32) (.int uc) := own_el V_b ⟨by decide, by decide⟩ rfl
  obtain ⟨T3, X3, e3, st3⟩ := getS2 X1 hx hZ hown (host := "") (Or.inl (W 114 rfl)) Via.refl e1 (SU.2.1.ext O.2) (g := (mkF m 42 #[.val (.ref b), .val (.int 3)] [(.int (uc &&& (255 : Int32)))])) rfl (hb hby d20_42)
  have B4 : own_El Z h0 b .byte (3 : Int32) (.int ud) := own_el V_b ⟨by decide, by decide⟩ rfl
  obtain ⟨T5, X5, e5, st5⟩ := getS2 X3 hx hZ hown (host := "") (Or.inl (W 115 rfl)) Via.refl e3 (SU.2.2.1.ext O.2) (g := (mkF m 53 #[.val (.ref b), .val (.int 3)] [(.int (ud &&& (255 : Int32))), (.int ((uc &&& (255 : Int32)) <<< ((0 : Int32) &&& 31)))])) rfl (hb hby d20_53)
  have w6 : own_Go p e below f0 T5 m 59 #[.val (.ref b), .val (.int 3)] [(.int ((((uc &&& (255 : Int32)) <<< ((0 : Int32) &&& 31)) ||| ((ud &&& (255 : Int32)) <<< ((8 : Int32) &&& 31))).toUInt32.toUInt16.toUInt32.toInt32))] := fun t k => by
    refine pre0 t ?_
    refine st1 _ <| ziy X1 Hb d20_3 ((if0 _ _).trans (feq ((by decide) : ¬ ((1 : Int32) = (0 : Int32)))).2) 28 (by decide) rfl <| zil X1 Hb d20_28 rfl <| zic X1 Hb d20_29 1 rfl <| zsl' X1 Hb d20_30 2 rfl <| zis X1 Hb (L' := #[.val (.ref b), .val (.int 2)]) d20_31 rfl <| zal X1 Hb d20_32 rfl rfl <| zil X1 Hb d20_33 rfl ?_
    refine zii X1 Hb (L' := #[.val (.ref b), .val (.int 3)]) d20_34 rfl 3 rfl rfl <| zba X1 Hb hZ e1 B2 d20_37 <| zsp X1 Hb d20_38 255 rfl <| zan X1 Hb d20_41 <| st3 _ <| zsl X3 Hb d20_45 <| zal X3 Hb d20_46 rfl rfl <| zil X3 Hb d20_47 rfl ?_
    refine zba X3 Hb hZ e3 B4 d20_48 <| zsp X3 Hb d20_49 255 rfl <| zan X3 Hb d20_52 <| st5 _ <| zsl X5 Hb d20_56 <| zor X5 Hb d20_57 <| zik X5 Hb d20_58 ?_
    exact k
  exact own_oN X5 Hb Bd.notSynchronized Bd.returns (by simp) w6 d20_59 e5 (by decide) (by decide) ⟨rfl, N0, rfl⟩
theorem rm20_8_1 {l : Launch} {Z : State} {a0 : Array Value} (hw : own_W a0 Z) (b : Addr) (kc : ClassId) (ua ub uc ud ue uf ug uh : Int32) {zc : Int32} {fm : Value} {u8 : Addr} {h0 : Heap} {n0 : Nat} (O0 : Old Z n0 h0) (SU : own_SU Z zc fm u8) (V_b : Arv Z h0 b kc .byte (8 : Int32) [.int ua, .int ub, .int uc, .int ud, .int ue, .int uf, .int ug, .int uh] (.int 0)) : own_M l own_n20 jdk_52_method_5_code 2 (some .char) (own_rm 0 0 0 0) Z h0 #[.ref b, .int 1] (fun v h L => v = some (.int (own_gc uc ud)) ∧ Fr n0 L ∧ h = h0) := by
  refine own_body (L0 := #[.val (.ref b), .val (.int 1)]) (plainFor_of_name pn_java_lang_StringUTF16) rfl rfl ?_
  intro p e s m below meth c s₁ f0 Bd hx Hb hml hZ hown X0 e0 pre0
  have hby := Hb.2
  have W := own_q hw
  have N0 := Fr.nil n0
  have O := O0
  obtain ⟨T1, X1, e1, st1⟩ := getS2 X0 hx hZ hown (host := "") (Or.inl (W 113 rfl)) Via.refl e0 (SU.1.ext O.2) (g := (mkF m 0 #[.val (.ref b), .val (.int 1)] [])) rfl (hb hby d20_0)
  have B2 : own_El Z h0 b .byte (2 : Int32) (.int uc) := own_el V_b ⟨by decide, by decide⟩ rfl
  obtain ⟨T3, X3, e3, st3⟩ := getS2 X1 hx hZ hown (host := "") (Or.inl (W 114 rfl)) Via.refl e1 (SU.2.1.ext O.2) (g := (mkF m 42 #[.val (.ref b), .val (.int 3)] [(.int (uc &&& (255 : Int32)))])) rfl (hb hby d20_42)
  have B4 : own_El Z h0 b .byte (3 : Int32) (.int ud) := own_el V_b ⟨by decide, by decide⟩ rfl
  obtain ⟨T5, X5, e5, st5⟩ := getS2 X3 hx hZ hown (host := "") (Or.inl (W 115 rfl)) Via.refl e3 (SU.2.2.1.ext O.2) (g := (mkF m 53 #[.val (.ref b), .val (.int 3)] [(.int (ud &&& (255 : Int32))), (.int ((uc &&& (255 : Int32)) <<< ((0 : Int32) &&& 31)))])) rfl (hb hby d20_53)
  have w6 : own_Go p e below f0 T5 m 59 #[.val (.ref b), .val (.int 3)] [(.int ((((uc &&& (255 : Int32)) <<< ((0 : Int32) &&& 31)) ||| ((ud &&& (255 : Int32)) <<< ((8 : Int32) &&& 31))).toUInt32.toUInt16.toUInt32.toInt32))] := fun t k => by
    refine pre0 t ?_
    refine st1 _ <| ziy X1 Hb d20_3 ((if0 _ _).trans (feq ((by decide) : ¬ ((1 : Int32) = (0 : Int32)))).2) 28 (by decide) rfl <| zil X1 Hb d20_28 rfl <| zic X1 Hb d20_29 1 rfl <| zsl' X1 Hb d20_30 2 rfl <| zis X1 Hb (L' := #[.val (.ref b), .val (.int 2)]) d20_31 rfl <| zal X1 Hb d20_32 rfl rfl <| zil X1 Hb d20_33 rfl ?_
    refine zii X1 Hb (L' := #[.val (.ref b), .val (.int 3)]) d20_34 rfl 3 rfl rfl <| zba X1 Hb hZ e1 B2 d20_37 <| zsp X1 Hb d20_38 255 rfl <| zan X1 Hb d20_41 <| st3 _ <| zsl X3 Hb d20_45 <| zal X3 Hb d20_46 rfl rfl <| zil X3 Hb d20_47 rfl ?_
    refine zba X3 Hb hZ e3 B4 d20_48 <| zsp X3 Hb d20_49 255 rfl <| zan X3 Hb d20_52 <| st5 _ <| zsl X5 Hb d20_56 <| zor X5 Hb d20_57 <| zik X5 Hb d20_58 ?_
    exact k
  exact own_oN X5 Hb Bd.notSynchronized Bd.returns (by simp) w6 d20_59 e5 (by decide) (by decide) ⟨rfl, N0, rfl⟩
abbrev B6 := jdk_52_method_15_code
theorem d6_0 : decode B6 0 = .ok (.iload_n 1, 1) := by decide +kernel
theorem d6_1 : decode B6 1 = .ok (.aload_n 0, 1) := by decide +kernel
theorem d6_2 : decode B6 2 = .ok (.arraylength, 1) := by decide +kernel
theorem d6_3 : decode B6 3 = .ok (.isub, 1) := by decide +kernel
theorem d6_4 : decode B6 4 = .ok (.bipush 31, 2) := by decide +kernel
theorem d6_6 : decode B6 6 = .ok (.iushr, 1) := by decide +kernel
theorem d6_7 : decode B6 7 = .ok (.i2b, 1) := by decide +kernel
theorem d6_8 : decode B6 8 = .ok (.ireturn, 1) := by decide +kernel
theorem rm6_3_6 {l : Launch} {Z : State} {a0 : Array Value} (hw : own_W a0 Z) (b : Addr) (kc : ClassId) (vv : List Value) {h0 : Heap} {n0 : Nat} (O0 : Old Z n0 h0) (V_b : Arv Z h0 b kc .byte (6 : Int32) vv (.int 0)) : own_M l own_n6 jdk_52_method_15_code 2 (some .byte) (own_rm 0 0 0 0) Z h0 #[.ref b, .int 3] (fun v h L => v = some (.int 1) ∧ Fr n0 L ∧ h = h0) := by
  refine own_body (L0 := #[.val (.ref b), .val (.int 3)]) (plainFor_of_name pn_java_lang_StringUTF16) rfl rfl ?_
  intro p e s m below meth c s₁ f0 Bd hx Hb hml hZ hown X0 e0 pre0
  have N0 := Fr.nil n0
  have O := O0
  have B1 := own_ln V_b
  have w2 : own_Go p e below f0 s₁ m 8 #[.val (.ref b), .val (.int 3)] [.int 1] := fun t k => by
    refine pre0 t ?_
    refine zil X0 Hb d6_0 rfl <| zal X0 Hb d6_1 rfl rfl <| zal_ X0 Hb hZ e0 B1 d6_2 <| zsu' X0 Hb d6_3 (-3) rfl <| zbp X0 Hb d6_4 31 rfl <| zus' X0 Hb d6_6 1 rfl <| zib' X0 Hb d6_7 1 rfl ?_
    exact k
  exact own_oN X0 Hb Bd.notSynchronized Bd.returns (by simp) w2 d6_8 e0 (by decide) (by decide) ⟨rfl, N0, rfl⟩
theorem rm6_4_8 {l : Launch} {Z : State} {a0 : Array Value} (hw : own_W a0 Z) (b : Addr) (kc : ClassId) (vv : List Value) {h0 : Heap} {n0 : Nat} (O0 : Old Z n0 h0) (V_b : Arv Z h0 b kc .byte (8 : Int32) vv (.int 0)) : own_M l own_n6 jdk_52_method_15_code 2 (some .byte) (own_rm 0 0 0 0) Z h0 #[.ref b, .int 4] (fun v h L => v = some (.int 1) ∧ Fr n0 L ∧ h = h0) := by
  refine own_body (L0 := #[.val (.ref b), .val (.int 4)]) (plainFor_of_name pn_java_lang_StringUTF16) rfl rfl ?_
  intro p e s m below meth c s₁ f0 Bd hx Hb hml hZ hown X0 e0 pre0
  have N0 := Fr.nil n0
  have O := O0
  have B1 := own_ln V_b
  have w2 : own_Go p e below f0 s₁ m 8 #[.val (.ref b), .val (.int 4)] [.int 1] := fun t k => by
    refine pre0 t ?_
    refine zil X0 Hb d6_0 rfl <| zal X0 Hb d6_1 rfl rfl <| zal_ X0 Hb hZ e0 B1 d6_2 <| zsu' X0 Hb d6_3 (-4) rfl <| zbp X0 Hb d6_4 31 rfl <| zus' X0 Hb d6_6 1 rfl <| zib' X0 Hb d6_7 1 rfl ?_
    exact k
  exact own_oN X0 Hb Bd.notSynchronized Bd.returns (by simp) w2 d6_8 e0 (by decide) (by decide) ⟨rfl, N0, rfl⟩
theorem rm6_3_3 {l : Launch} {Z : State} {a0 : Array Value} (hw : own_W a0 Z) (b : Addr) (kc : ClassId) (vv : List Value) {h0 : Heap} {n0 : Nat} (O0 : Old Z n0 h0) (V_b : Arv Z h0 b kc .byte (3 : Int32) vv (.int 0)) : own_M l own_n6 jdk_52_method_15_code 2 (some .byte) (own_rm 0 0 0 0) Z h0 #[.ref b, .int 3] (fun v h L => v = some (.int 0) ∧ Fr n0 L ∧ h = h0) := by
  refine own_body (L0 := #[.val (.ref b), .val (.int 3)]) (plainFor_of_name pn_java_lang_StringUTF16) rfl rfl ?_
  intro p e s m below meth c s₁ f0 Bd hx Hb hml hZ hown X0 e0 pre0
  have N0 := Fr.nil n0
  have O := O0
  have B1 := own_ln V_b
  have w2 : own_Go p e below f0 s₁ m 8 #[.val (.ref b), .val (.int 3)] [.int 0] := fun t k => by
    refine pre0 t ?_
    refine zil X0 Hb d6_0 rfl <| zal X0 Hb d6_1 rfl rfl <| zal_ X0 Hb hZ e0 B1 d6_2 <| zsu' X0 Hb d6_3 0 rfl <| zbp X0 Hb d6_4 31 rfl <| zus' X0 Hb d6_6 0 rfl <| zib' X0 Hb d6_7 0 rfl ?_
    exact k
  exact own_oN X0 Hb Bd.notSynchronized Bd.returns (by simp) w2 d6_8 e0 (by decide) (by decide) ⟨rfl, N0, rfl⟩
abbrev B5 := jdk_52_method_21_code
theorem d5_0 : decode B5 0 = .ok (.iconst 0, 1) := by decide +kernel
theorem d5_1 : decode B5 1 = .ok (.istore 5, 2) := by decide +kernel
def own_F0 (x0 : Addr) (x1 : Int32) (x2 : Addr) (x3 : Int32) (x4 : Int32) (x5 : Int32) : Array Slot := #[.val (.ref x0), .val (.int x1), .val (.ref x2), .val (.int x3), .val (.int x4), .val (.int x5), .unset]
theorem d5_3 : decode B5 3 = .ok (.iload 5, 2) := by decide +kernel
theorem d5_5 : decode B5 5 = .ok (.iload 4, 2) := by decide +kernel
theorem d5_7 : decode B5 7 = .ok (.if_icmp .ge 37, 3) := by decide +kernel
theorem d5_10 : decode B5 10 = .ok (.aload_n 0, 1) := by decide +kernel
theorem d5_11 : decode B5 11 = .ok (.iload_n 1, 1) := by decide +kernel
theorem d5_12 : decode B5 12 = .ok (.caload, 1) := by decide +kernel
theorem d5_13 : decode B5 13 = .ok (.istore 6, 2) := by decide +kernel
def own_F1 (x0 : Addr) (x1 : Int32) (x2 : Addr) (x3 : Int32) (x4 : Int32) (x5 : Int32) (x6 : Int32) : Array Slot := #[.val (.ref x0), .val (.int x1), .val (.ref x2), .val (.int x3), .val (.int x4), .val (.int x5), .val (.int x6)]
theorem d5_15 : decode B5 15 = .ok (.iload 6, 2) := by decide +kernel
theorem d5_17 : decode B5 17 = .ok (.sipush 255, 3) := by decide +kernel
theorem d5_20 : decode B5 20 = .ok (.if_icmp .le 6, 3) := by decide +kernel
theorem d5_26 : decode B5 26 = .ok (.aload_n 2, 1) := by decide +kernel
theorem d5_27 : decode B5 27 = .ok (.iload_n 3, 1) := by decide +kernel
theorem d5_28 : decode B5 28 = .ok (.iload 6, 2) := by decide +kernel
theorem d5_30 : decode B5 30 = .ok (.i2b, 1) := by decide +kernel
theorem d5_31 : decode B5 31 = .ok (.bastore, 1) := by decide +kernel
theorem d5_32 : decode B5 32 = .ok (.iinc 1 1, 3) := by decide +kernel
theorem d5_35 : decode B5 35 = .ok (.iinc 3 1, 3) := by decide +kernel
theorem d5_38 : decode B5 38 = .ok (.iinc 5 1, 3) := by decide +kernel
theorem d5_41 : decode B5 41 = .ok (.goto (-38), 3) := by decide +kernel
theorem d5_23 : decode B5 23 = .ok (.iload 5, 2) := by decide +kernel
theorem d5_25 : decode B5 25 = .ok (.ireturn, 1) := by decide +kernel
theorem rm5_3_2 {l : Launch} {Z : State} {a0 : Array Value} (hw : own_W a0 Z) (b d : Addr) (kc : ClassId) (xa xb xc : Int32) (kd : ClassId) {h0 : Heap} {n0 : Nat} (O0 : Old Z n0 h0) (V_b : Arv Z h0 b kc .char (3 : Int32) [.int xa, .int xb, .int xc] (.int 0)) (V_d : Arv Z h0 d kd .byte (3 : Int32) [.int 0, .int 0, .int 0] (.int 0)) (nbd : b ≠ d) (nxa : ¬ (255 : Int32) < xa) (nxb : ¬ (255 : Int32) < xb) (hw_ : (255 : Int32) < xc) (hl_ : own_gc (own_lo xc) (own_hi xc) = xc) (g_d : n0 ≤ d) : own_M l own_n5 jdk_52_method_21_code 7 (some .int) (own_rm 0 0 0 0) Z h0 #[.ref b, .int 0, .ref d, .int 0, .int 3] (fun v h L => v = some (.int 2) ∧ Fr n0 L ∧ Keep h0 h [d]) := by
  refine own_body (L0 := #[.val (.ref b), .val (.int 0), .val (.ref d), .val (.int 0), .val (.int 3), .unset, .unset]) (plainFor_of_name pn_java_lang_StringUTF16) rfl rfl ?_
  intro p e s m below meth c s₁ f0 Bd hx Hb hml hZ hown X0 e0 pre0
  have N0 := Fr.nil n0
  have O := O0
  have K := Keep.refl h0 [d]
  have B1 : own_El Z h0 b .char (0 : Int32) (.int xa) := own_el V_b ⟨by decide, by decide⟩ rfl
  obtain ⟨T2, h2, X2, e2, W2, V_d, st2⟩ := own_sB X0 Hb hZ e0 V_d (j := 0) (x := (xa.toInt8.toInt32)) (L := (own_F1 b (0 : Int32) d (0 : Int32) (3 : Int32) (0 : Int32) xa)) (S := []) (vs' := [(.int ((xa.toInt8.toInt32).toInt8.toInt32)), .int 0, .int 0]) ⟨by decide, by decide⟩ rfl (Nat.le_of_ble_eq_true rfl) d5_31 rfl
  have V_b := V_b.other W2 nbd
  have O := O.wr W2 g_d
  have K := K.wr W2 (Or.inl (List.mem_of_getElem? (i := 0) rfl))
  have N2 := Fr.snoc X2 N0 g_d
  have B3 : own_El Z h2 b .char (1 : Int32) (.int xb) := own_el V_b ⟨by decide, by decide⟩ rfl
  obtain ⟨T4, h4, X4, e4, W4, V_d, st4⟩ := own_sB X2 Hb hZ e2 V_d (j := 1) (x := (xb.toInt8.toInt32)) (L := (own_F1 b (1 : Int32) d (1 : Int32) (3 : Int32) (1 : Int32) xb)) (S := []) (vs' := [(.int ((xa.toInt8.toInt32).toInt8.toInt32)), (.int ((xb.toInt8.toInt32).toInt8.toInt32)), .int 0]) ⟨by decide, by decide⟩ rfl (Nat.le_of_ble_eq_true rfl) d5_31 rfl
  have V_b := V_b.other W4 nbd
  have O := O.wr W4 g_d
  have K := K.wr W4 (Or.inl (List.mem_of_getElem? (i := 0) rfl))
  have N4 := Fr.snoc X4 N2 g_d
  have B5 : own_El Z h4 b .char (2 : Int32) (.int xc) := own_el V_b ⟨by decide, by decide⟩ rfl
  have w6 : own_Go p e below f0 T4 m 25 (own_F1 b (2 : Int32) d (2 : Int32) (3 : Int32) (2 : Int32) xc) [.int 2] := fun t k => by
    refine pre0 t ?_
    refine zic X0 Hb d5_0 0 rfl <| ziS X0 Hb (L' := (own_F0 b (0 : Int32) d (0 : Int32) (3 : Int32) (0 : Int32))) d5_1 rfl <| ziL X0 Hb d5_3 rfl <| ziL X0 Hb d5_5 rfl <| zcn X0 Hb d5_7 (tlt ((by decide) : (0 : Int32) < (3 : Int32))).2.1 <| zal X0 Hb d5_10 rfl rfl <| zil X0 Hb d5_11 rfl <| zca X0 Hb hZ e0 B1 d5_12 ?_
    refine ziS X0 Hb (L' := (own_F1 b (0 : Int32) d (0 : Int32) (3 : Int32) (0 : Int32) xa)) d5_13 rfl <| ziL X0 Hb d5_15 rfl <| zsp X0 Hb d5_17 255 rfl <| zcy X0 Hb d5_20 (flt (nxa : ¬ ((255 : Int32) < xa))).2.2.2 26 (by decide) rfl <| zal X0 Hb d5_26 rfl rfl <| zil X0 Hb d5_27 rfl <| ziL X0 Hb d5_28 rfl <| zib X0 Hb d5_30 ?_
    refine st2 _ <| zii X2 Hb (L' := (own_F1 b (1 : Int32) d (0 : Int32) (3 : Int32) (0 : Int32) xa)) d5_32 rfl 1 rfl rfl <| zii X2 Hb (L' := (own_F1 b (1 : Int32) d (1 : Int32) (3 : Int32) (0 : Int32) xa)) d5_35 rfl 1 rfl rfl <| zii X2 Hb (L' := (own_F1 b (1 : Int32) d (1 : Int32) (3 : Int32) (1 : Int32) xa)) d5_38 rfl 1 rfl rfl <| zgo X2 Hb d5_41 3 (by decide) rfl <| ziL X2 Hb d5_3 rfl <| ziL X2 Hb d5_5 rfl <| zcn X2 Hb d5_7 (tlt ((by decide) : (1 : Int32) < (3 : Int32))).2.1 ?_
    refine zal X2 Hb d5_10 rfl rfl <| zil X2 Hb d5_11 rfl <| zca X2 Hb hZ e2 B3 d5_12 <| ziS X2 Hb (L' := (own_F1 b (1 : Int32) d (1 : Int32) (3 : Int32) (1 : Int32) xb)) d5_13 rfl <| ziL X2 Hb d5_15 rfl <| zsp X2 Hb d5_17 255 rfl <| zcy X2 Hb d5_20 (flt (nxb : ¬ ((255 : Int32) < xb))).2.2.2 26 (by decide) rfl <| zal X2 Hb d5_26 rfl rfl ?_
    refine zil X2 Hb d5_27 rfl <| ziL X2 Hb d5_28 rfl <| zib X2 Hb d5_30 <| st4 _ <| zii X4 Hb (L' := (own_F1 b (2 : Int32) d (1 : Int32) (3 : Int32) (1 : Int32) xb)) d5_32 rfl 2 rfl rfl <| zii X4 Hb (L' := (own_F1 b (2 : Int32) d (2 : Int32) (3 : Int32) (1 : Int32) xb)) d5_35 rfl 2 rfl rfl <| zii X4 Hb (L' := (own_F1 b (2 : Int32) d (2 : Int32) (3 : Int32) (2 : Int32) xb)) d5_38 rfl 2 rfl rfl <| zgo X4 Hb d5_41 3 (by decide) rfl ?_
    refine ziL X4 Hb d5_3 rfl <| ziL X4 Hb d5_5 rfl <| zcn X4 Hb d5_7 (tlt ((by decide) : (2 : Int32) < (3 : Int32))).2.1 <| zal X4 Hb d5_10 rfl rfl <| zil X4 Hb d5_11 rfl <| zca X4 Hb hZ e4 B5 d5_12 <| ziS X4 Hb (L' := (own_F1 b (2 : Int32) d (2 : Int32) (3 : Int32) (2 : Int32) xc)) d5_13 rfl <| ziL X4 Hb d5_15 rfl ?_
    refine zsp X4 Hb d5_17 255 rfl <| zcn X4 Hb d5_20 (tlt (hw_ : (255 : Int32) < xc)).2.2.2 <| ziL X4 Hb d5_23 rfl ?_
    exact k
  exact own_oI X4 Hb Bd.notSynchronized Bd.returns w6 d5_25 e4 (by decide) (by decide) ⟨rfl, N4, K⟩
abbrev B4 := jdk_52_method_16_code
theorem d4_0 : decode B4 0 = .ok (.iload_n 2, 1) := by decide +kernel
theorem d4_1 : decode B4 1 = .ok (.newarray .byte, 2) := by decide +kernel
theorem d4_3 : decode B4 3 = .ok (.astore_n 3, 1) := by decide +kernel
theorem d4_4 : decode B4 4 = .ok (.aload_n 0, 1) := by decide +kernel
theorem d4_5 : decode B4 5 = .ok (.iload_n 1, 1) := by decide +kernel
theorem d4_6 : decode B4 6 = .ok (.aload_n 3, 1) := by decide +kernel
theorem d4_7 : decode B4 7 = .ok (.iconst 0, 1) := by decide +kernel
theorem d4_8 : decode B4 8 = .ok (.iload_n 2, 1) := by decide +kernel
theorem d4_9 : decode B4 9 = .ok (.invokestatic 115, 3) := by decide +kernel
theorem pd3 : parseMethodDescriptor "([CI[BII)I" = some ⟨[(.array .char), .int, (.array .byte), .int, .int], some .int⟩ := by decide +kernel
theorem d4_12 : decode B4 12 = .ok (.istore 4, 2) := by decide +kernel
theorem d4_14 : decode B4 14 = .ok (.iload 4, 2) := by decide +kernel
theorem d4_16 : decode B4 16 = .ok (.iload_n 2, 1) := by decide +kernel
theorem d4_17 : decode B4 17 = .ok (.if_icmp .eq 40, 3) := by decide +kernel
theorem d4_20 : decode B4 20 = .ok (.aload_n 0, 1) := by decide +kernel
theorem d4_21 : decode B4 21 = .ok (.iload_n 1, 1) := by decide +kernel
theorem d4_22 : decode B4 22 = .ok (.iload_n 2, 1) := by decide +kernel
theorem d4_23 : decode B4 23 = .ok (.invokestatic 119, 3) := by decide +kernel
theorem pd4 : parseMethodDescriptor "([CII)[B" = some ⟨[(.array .char), .int, .int], some (.array .byte)⟩ := by decide +kernel
theorem d4_26 : decode B4 26 = .ok (.astore 5, 2) := by decide +kernel
theorem d4_28 : decode B4 28 = .ok (.aload 5, 2) := by decide +kernel
theorem d4_30 : decode B4 30 = .ok (.iload 4, 2) := by decide +kernel
theorem d4_32 : decode B4 32 = .ok (.invokestatic 71, 3) := by decide +kernel
theorem pd5 : parseMethodDescriptor "([BI)C" = some ⟨[(.array .byte), .int], some .char⟩ := by decide +kernel
theorem d4_35 : decode B4 35 = .ok (.sipush 255, 3) := by decide +kernel
theorem d4_38 : decode B4 38 = .ok (.if_icmp .gt 16, 3) := by decide +kernel
theorem d4_54 : decode B4 54 = .ok (.aload 5, 2) := by decide +kernel
theorem d4_56 : decode B4 56 = .ok (.areturn, 1) := by decide +kernel
theorem rm4_3_2 {l : Launch} {Z : State} {a0 : Array Value} (hw : own_W a0 Z) (b : Addr) (kc : ClassId) (xa xb xc : Int32) {zc : Int32} {fm : Value} {u8 : Addr} {h0 : Heap} {n0 : Nat} (O0 : Old Z n0 h0) (SU : own_SU Z zc fm u8) (V_b : Arv Z h0 b kc .char (3 : Int32) [.int xa, .int xb, .int xc] (.int 0)) (nxa : ¬ (255 : Int32) < xa) (nxb : ¬ (255 : Int32) < xb) (hw_ : (255 : Int32) < xc) (hl_ : own_gc (own_lo xc) (own_hi xc) = xc) : own_M l own_n4 jdk_52_method_16_code 6 (some (.array .byte)) (own_rm 3 2 9 40) Z h0 #[.ref b, .int 0, .int 3] (fun v h L => ∃ z : Addr, ∃ kz : ClassId, v = some (.ref z) ∧ Fr n0 L ∧ Keep h0 h [] ∧ Arv Z h z kz .byte (6 : Int32) [.int (own_lo xa), .int (own_hi xa), .int (own_lo xb), .int (own_hi xb), .int (own_lo xc), .int (own_hi xc)] (.int 0) ∧ h0.size ≤ z ∧ n0 ≤ z) := by
  refine own_body (L0 := #[.val (.ref b), .val (.int 0), .val (.int 3), .unset, .unset, .unset]) (plainFor_of_name pn_java_lang_StringUTF16) rfl rfl ?_
  intro p e s m below meth c s₁ f0 Bd hx Hb hml hZ hown X0 e0 pre0
  have hby := Hb.2
  have W := own_q hw
  have N0 := Fr.nil n0
  have O := O0
  have K := Keep.refl h0 []
  obtain ⟨T1, h1, k1, X1, e1, E1, A1, st1⟩ := newP X0 hx hZ (W 3 rfl) e0 (g := (mkF m 1 #[.val (.ref b), .val (.int 0), .val (.int 3), .unset, .unset, .unset] [.int 3])) rfl (hb hby d4_1) rfl (by decide) (cap := 3) (by decide) (by decide) (by decide) (by decide)
  obtain ⟨b1, gq1⟩ : ∃ z, z = Array.size h0 := ⟨_, rfl⟩
  rw [← gq1] at A1 st1
  have ne_b_b1 : b ≠ b1 := Nat.ne_of_lt (Nat.lt_of_lt_of_le V_b.lt (Nat.le_of_eq gq1.symm))
  have g_b1 : n0 ≤ b1 := Nat.le_trans (O.1 ▸ O.2.1) (Nat.le_of_eq gq1.symm)
  have z_b1 : h0.size ≤ b1 := Nat.le_trans K.1 (Nat.le_of_eq gq1.symm)
  have V_b := V_b.ext E1
  have O := O.ext E1
  have K := K.ext E1
  have V_b1 : Arv Z h1 b1 k1 .byte (3 : Int32) [.int 0, .int 0, .int 0] (.int 0) := (Arv.new A1 (by decide)).pad (pad_rep [] (.int 0) 3)
  obtain ⟨_, T2, Lc2, X2, hQ2, st2⟩ := own_cS X1 Hb hZ hown hml (L := #[.val (.ref b), .val (.int 0), .val (.int 3), .val (.ref b1), .unset, .unset]) rfl (rm5_3_2 hw b b1 kc xa xb xc k1 O V_b V_b1 ne_b_b1 nxa nxb hw_ hl_ g_b1) (W 23 rfl) (W 24 rfl) (W 21 rfl) (W 25 rfl) pd3 e1 d4_9 [.ref b, .int 0, .ref b1, .int 0, .int 3] [] rfl rfl (by decide) 0 rfl (by decide)
  obtain ⟨rfl, N2q, K2⟩ := hQ2
  have N2 := Fr.app N0 N2q
  have V_b := V_b.keep K2 (ninS ne_b_b1 nin0)
  have O := O.keep K2 (allS g_b1 all0)
  have K := K.trans K2 (allS (Or.inr z_b1) all0)
  have lt3_b := V_b.lt
  obtain ⟨_, T3, Lc3, X3, hQ3, st3⟩ := own_cS X2 Hb hZ hown hml (L := #[.val (.ref b), .val (.int 0), .val (.int 3), .val (.ref b1), .val (.int 2), .unset]) rfl (rm16_3 hw b kc xa xb xc O SU V_b) (W 100 rfl) (W 101 rfl) (W 21 rfl) (W 102 rfl) pd4 rfl d4_23 [.ref b, .int 0, .int 3] [] rfl rfl (by decide) 0 rfl (by decide)
  obtain ⟨z_3, kz_3, rfl, N3q, K3, V_z_c3, gz_3, gn_3⟩ := hQ3
  have N3 := Fr.app N2 N3q
  have V_b := V_b.keep K3 nin0
  have ne_b_z_3 : b ≠ z_3 := Nat.ne_of_lt (Nat.lt_of_lt_of_le lt3_b gz_3)
  have g_z_3 := gn_3
  have z_z_3 : h0.size ≤ z_3 := Nat.le_trans K.1 gz_3
  have O := O.keep K3 all0
  have K := K.trans K3 all0
  obtain ⟨_, T4, Lc4, X4, hQ4, st4⟩ := own_cS X3 Hb hZ hown hml (L := #[.val (.ref b), .val (.int 0), .val (.int 3), .val (.ref b1), .val (.int 2), .val (.ref z_3)]) rfl (rm20_6_2 hw z_3 kz_3 (own_lo xa) (own_hi xa) (own_lo xb) (own_hi xb) (own_lo xc) (own_hi xc) O SU V_z_c3) (W 116 rfl) (W 117 rfl) (W 21 rfl) (W 118 rfl) pd5 rfl d4_32 [.ref z_3, .int 2] [] rfl rfl (by decide) 0 rfl (by decide)
  obtain ⟨rfl, N4q, eh4⟩ := hQ4
  have N4 := Fr.app N3 N4q
  have w5 : own_Go p e below f0 T4 m 56 #[.val (.ref b), .val (.int 0), .val (.int 3), .val (.ref b1), .val (.int 2), .val (.ref z_3)] [.ref z_3] := fun t k => by
    refine pre0 t ?_
    refine zil X0 Hb d4_0 rfl <| st1 _ <| zas X1 Hb (L' := #[.val (.ref b), .val (.int 0), .val (.int 3), .val (.ref b1), .unset, .unset]) d4_3 rfl rfl <| zal X1 Hb d4_4 rfl rfl <| zil X1 Hb d4_5 rfl <| zal X1 Hb d4_6 rfl rfl <| zic X1 Hb d4_7 0 rfl <| zil X1 Hb d4_8 rfl ?_
    refine st2 _ <| ziS X2 Hb d4_12 rfl <| ziL X2 Hb d4_14 rfl <| zil X2 Hb d4_16 rfl <| zcn X2 Hb d4_17 (feq ((by decide) : ¬ ((2 : Int32) = (3 : Int32)))).1 <| zal X2 Hb d4_20 rfl rfl <| zil X2 Hb d4_21 rfl <| zil X2 Hb d4_22 rfl ?_
    refine st3 _ <| zaS X3 Hb d4_26 rfl rfl <| zaL X3 Hb d4_28 rfl rfl <| ziL X3 Hb d4_30 rfl <| st4 _ <| zsp X4 Hb d4_35 255 rfl <| zcy X4 Hb d4_38 (tlt ((by rw [hl_]; exact hw_) : (255 : Int32) < (own_gc (own_lo xc) (own_hi xc)))).2.2.1 54 (by decide) rfl <| zaL X4 Hb d4_54 rfl rfl ?_
    exact k
  exact own_oR X4 Hb Bd.notSynchronized Bd.returns rfl w5 d4_56 eh4 (by decide) (by decide) ⟨z_3, kz_3, rfl, N4, K, V_z_c3, z_z_3, g_z_3⟩
abbrev B2 := jdk_42_method_149_code
theorem d2_0 : decode B2 0 = .ok (.aload_n 0, 1) := by decide +kernel
theorem d2_1 : decode B2 1 = .ok (.invokespecial 1, 3) := by decide +kernel
theorem d2_4 : decode B2 4 = .ok (.iload_n 3, 1) := by decide +kernel
theorem d2_5 : decode B2 5 = .ok (.ifCond .ne 22, 3) := by decide +kernel
theorem d2_27 : decode B2 27 = .ok (.getstatic 38, 3) := by decide +kernel
theorem d2_30 : decode B2 30 = .ok (.ifCond .eq 28, 3) := by decide +kernel
theorem d2_33 : decode B2 33 = .ok (.aload_n 1, 1) := by decide +kernel
theorem d2_34 : decode B2 34 = .ok (.iload_n 2, 1) := by decide +kernel
theorem d2_35 : decode B2 35 = .ok (.iload_n 3, 1) := by decide +kernel
theorem d2_36 : decode B2 36 = .ok (.invokestatic 177, 3) := by decide +kernel
theorem d2_39 : decode B2 39 = .ok (.astore 5, 2) := by decide +kernel
theorem d2_41 : decode B2 41 = .ok (.aload_n 0, 1) := by decide +kernel
theorem d2_42 : decode B2 42 = .ok (.aload 5, 2) := by decide +kernel
theorem d2_44 : decode B2 44 = .ok (.iload_n 3, 1) := by decide +kernel
theorem d2_45 : decode B2 45 = .ok (.invokestatic 47, 3) := by decide +kernel
theorem pd6 : parseMethodDescriptor "([BI)B" = some ⟨[(.array .byte), .int], some .byte⟩ := by decide +kernel
theorem d2_48 : decode B2 48 = .ok (.putfield 15, 3) := by decide +kernel
theorem d2_51 : decode B2 51 = .ok (.aload_n 0, 1) := by decide +kernel
theorem d2_52 : decode B2 52 = .ok (.aload 5, 2) := by decide +kernel
theorem d2_54 : decode B2 54 = .ok (.putfield 9, 3) := by decide +kernel
theorem d2_57 : decode B2 57 = .ok (.return_, 1) := by decide +kernel
theorem pn_java_lang_String : plainName "java/lang/String" = true := by first | (simp [plainName, overriddenIn]; done) | decide +kernel
theorem rm2_3_2 {l : Launch} {Z : State} {a0 : Array Value} (hw : own_W a0 Z) (a b : Addr) (kc : ClassId) (xa xb xc : Int32) {zc : Int32} {fm : Value} {u8 : Addr} {h0 : Heap} {n0 : Nat} (O0 : Old Z n0 h0) (SU : own_SU Z zc fm u8) (E_a : Exa Z h0 a "java/lang/String") (F_v_a : Fld Z h0 a "java/lang/String" "value" "[B" .null) (F_c_a : Fld Z h0 a "java/lang/String" "coder" "B" (.int 0)) (V_b : Arv Z h0 b kc .char (3 : Int32) [.int xa, .int xb, .int xc] (.int 0)) (nxa : ¬ (255 : Int32) < xa) (nxb : ¬ (255 : Int32) < xb) (hw_ : (255 : Int32) < xc) (hl_ : own_gc (own_lo xc) (own_hi xc) = xc) (g_a : n0 ≤ a) : own_M l own_n2 jdk_42_method_149_code 6 none (own_rm 4 2 9 57) Z h0 #[.ref a, .ref b, .int 0, .int 3, .null] (fun v h L => ∃ t1 : Addr, ∃ kb : ClassId, v = none ∧ Fr n0 L ∧ Keep h0 h [a] ∧ Fld Z h a "java/lang/String" "value" "[B" (.ref t1) ∧ Fld Z h a "java/lang/String" "coder" "B" (.int 1) ∧ Arv Z h t1 kb .byte (6 : Int32) [.int (own_lo xa), .int (own_hi xa), .int (own_lo xb), .int (own_hi xb), .int (own_lo xc), .int (own_hi xc)] (.int 0)) := by
  refine own_body (L0 := #[.val (.ref a), .val (.ref b), .val (.int 0), .val (.int 3), .val .null, .unset]) (plainFor_of_name pn_java_lang_String) rfl rfl ?_
  intro p e s m below meth c s₁ f0 Bd hx Hb hml hZ hown X0 e0 pre0
  have hby := Hb.2
  have hnm := (name_of_methodNamed Bd.named Bd.method).1
  have W := own_q hw
  have N0 := Fr.nil n0
  have O := O0
  have K := Keep.refl h0 [a]
  obtain ⟨T1, X1, e1, st1⟩ := initO X0 hx hZ hown (W 15 rfl) (W 16 rfl) (W 17 rfl) e0 (g := (mkF m 1 #[.val (.ref a), .val (.ref b), .val (.int 0), .val (.int 3), .val .null, .unset] [.ref a])) rfl (by rw [hml]; rfl) rfl (hb hby d2_1) (by decide) (W := 0) (by show 2 * 0 + _ ≤ _; exact Nat.le_of_eq rfl) (by decide)
  obtain ⟨T2, X2, e2, st2⟩ := getS2 X1 hx hZ hown (host := "") (Or.inl (W 18 rfl)) Via.refl e1 (SU.2.2.2.1.ext O.2) (g := (mkF m 27 #[.val (.ref a), .val (.ref b), .val (.int 0), .val (.int 3), .val .null, .unset] [])) rfl (hb hby d2_27)
  have lt3_a := E_a.lt
  have lt3_b := V_b.lt
  obtain ⟨_, T3, Lc3, X3, hQ3, st3⟩ := own_cS X2 Hb hZ hown hml (L := #[.val (.ref a), .val (.ref b), .val (.int 0), .val (.int 3), .val .null, .unset]) rfl (rm4_3_2 hw b kc xa xb xc O SU V_b nxa nxb hw_ hl_) (W 19 rfl) (W 20 rfl) (W 21 rfl) (W 22 rfl) pd4 e2 d2_36 [.ref b, .int 0, .int 3] [] rfl rfl (by decide) 0 rfl (by decide)
  obtain ⟨z_3, kz_3, rfl, N3q, K3, V_z_c3, gz_3, gn_3⟩ := hQ3
  have N3 := Fr.app N0 N3q
  have E_a := E_a.keep K3
  have F_v_a := F_v_a.keep K3 nin0
  have F_c_a := F_c_a.keep K3 nin0
  have V_b := V_b.keep K3 nin0
  have ne_a_z_3 : a ≠ z_3 := Nat.ne_of_lt (Nat.lt_of_lt_of_le lt3_a gz_3)
  have ne_b_z_3 : b ≠ z_3 := Nat.ne_of_lt (Nat.lt_of_lt_of_le lt3_b gz_3)
  have g_z_3 := gn_3
  have z_z_3 : h0.size ≤ z_3 := Nat.le_trans K.1 gz_3
  have O := O.keep K3 all0
  have K := K.trans K3 all0
  obtain ⟨_, T4, Lc4, X4, hQ4, st4⟩ := own_cS X3 Hb hZ hown hml (L := #[.val (.ref a), .val (.ref b), .val (.int 0), .val (.int 3), .val .null, .val (.ref z_3)]) rfl (rm6_3_6 hw z_3 kz_3 [.int (own_lo xa), .int (own_hi xa), .int (own_lo xb), .int (own_hi xb), .int (own_lo xc), .int (own_hi xc)] O V_z_c3) (W 26 rfl) (W 27 rfl) (W 21 rfl) (W 28 rfl) pd6 rfl d2_45 [.ref z_3, .int 3] [.ref a] rfl rfl (by decide) 1 rfl (by decide)
  obtain ⟨rfl, N4q, eh4⟩ := hQ4
  have N4 := Fr.app N3 N4q
  have ne_b_a : b ≠ a := (Ne.symm (Exa.neArv E_a V_b (W 6 rfl)))
  obtain ⟨T5, h5, X5, e5, W5, st5⟩ := putFN X4 hx hZ hown (W 29 rfl) Via.refl eh4 F_c_a E_a (Or.inr ⟨(W 30 rfl), rfl, hnm⟩) (W 6 rfl) (ty := .byte) (v' := (.int 1)) (by decide) rfl rfl (g := (mkF m 48 #[.val (.ref a), .val (.ref b), .val (.int 0), .val (.int 3), .val .null, .val (.ref z_3)] [.int 1, .ref a])) rfl rfl (hb hby d2_48)
  have F_c_a := F_c_a.same W5
  have E_a := E_a.wr W5
  have F_v_a := F_v_a.other W5 (Or.inr (slot_ne (Or.inr (W 32 rfl)) (Or.inr (W 30 rfl)) (by decide) (t := (.array .byte)) (t' := .byte) (by decide) (by decide)))
  have V_b := V_b.other W5 ne_b_a
  have V_z_c3 := V_z_c3.other W5 (Ne.symm ne_a_z_3)
  have O := O.wr W5 g_a
  have K := K.wr W5 (Or.inl (List.mem_of_getElem? (i := 0) rfl))
  have N5 := Fr.snoc X5 N4 g_a
  obtain ⟨T6, h6, X6, e6, W6, st6⟩ := putF X5 hx hZ hown (host := "") (Or.inl (W 31 rfl)) Via.refl e5 F_v_a E_a (Or.inr ⟨(W 32 rfl), rfl, hnm⟩) (W 6 rfl) (ty := (.array .byte)) (by decide) rfl rfl (g := (mkF m 54 #[.val (.ref a), .val (.ref b), .val (.int 0), .val (.int 3), .val .null, .val (.ref z_3)] [.ref z_3, .ref a])) rfl rfl (hb hby d2_54)
  have F_v_a := F_v_a.same W6
  have E_a := E_a.wr W6
  have F_c_a := F_c_a.other W6 (Or.inr (slot_ne (Or.inr (W 30 rfl)) (Or.inr (W 32 rfl)) (by decide) (t := .byte) (t' := (.array .byte)) (by decide) (by decide)))
  have V_b := V_b.other W6 ne_b_a
  have V_z_c3 := V_z_c3.other W6 (Ne.symm ne_a_z_3)
  have O := O.wr W6 g_a
  have K := K.wr W6 (Or.inl (List.mem_of_getElem? (i := 0) rfl))
  have N6 := Fr.snoc X6 N5 g_a
  have w7 : own_Go p e below f0 T6 m 57 #[.val (.ref a), .val (.ref b), .val (.int 0), .val (.int 3), .val .null, .val (.ref z_3)] [] := fun t k => by
    refine pre0 t ?_
    refine zal X0 Hb d2_0 rfl rfl <| st1 _ <| zil X1 Hb d2_4 rfl <| ziy X1 Hb d2_5 ((if0 _ _).trans (feq ((by decide) : ¬ ((3 : Int32) = (0 : Int32)))).2) 27 (by decide) rfl <| st2 _ <| zin X2 Hb d2_30 ((if0 _ _).trans (feq (SU.2.2.2.2.2.2.2.1 : ¬ (zc = (0 : Int32)))).1) <| zal X2 Hb d2_33 rfl rfl <| zil X2 Hb d2_34 rfl ?_
    refine zil X2 Hb d2_35 rfl <| st3 _ <| zaS X3 Hb d2_39 rfl rfl <| zal X3 Hb d2_41 rfl rfl <| zaL X3 Hb d2_42 rfl rfl <| zil X3 Hb d2_44 rfl <| st4 _ <| st5 _ ?_
    refine zal X5 Hb d2_51 rfl rfl <| zaL X5 Hb d2_52 rfl rfl <| st6 _ ?_
    exact k
  exact own_oV X6 Hb Bd.notSynchronized Bd.returns w7 d2_57 e6 (by decide) (by decide) ⟨z_3, kz_3, rfl, N6, K, F_v_a, F_c_a, V_z_c3⟩
abbrev B1 := jdk_42_method_3_code
theorem d1_0 : decode B1 0 = .ok (.aload_n 0, 1) := by decide +kernel
theorem d1_1 : decode B1 1 = .ok (.aload_n 1, 1) := by decide +kernel
theorem d1_2 : decode B1 2 = .ok (.iconst 0, 1) := by decide +kernel
theorem d1_3 : decode B1 3 = .ok (.aload_n 1, 1) := by decide +kernel
theorem d1_4 : decode B1 4 = .ok (.arraylength, 1) := by decide +kernel
theorem d1_5 : decode B1 5 = .ok (.aconst_null, 1) := by decide +kernel
theorem d1_6 : decode B1 6 = .ok (.invokespecial 27, 3) := by decide +kernel
theorem pd7 : parseMethodDescriptor "([CIILjava/lang/Void;)V" = some ⟨[(.array .char), .int, .int, (.object "java/lang/Void")], none⟩ := by decide +kernel
theorem d1_9 : decode B1 9 = .ok (.return_, 1) := by decide +kernel
theorem rm1_3_2 {l : Launch} {Z : State} {a0 : Array Value} (hw : own_W a0 Z) (a b : Addr) (kc : ClassId) (xa xb xc : Int32) {zc : Int32} {fm : Value} {u8 : Addr} {h0 : Heap} {n0 : Nat} (O0 : Old Z n0 h0) (SU : own_SU Z zc fm u8) (E_a : Exa Z h0 a "java/lang/String") (F_v_a : Fld Z h0 a "java/lang/String" "value" "[B" .null) (F_c_a : Fld Z h0 a "java/lang/String" "coder" "B" (.int 0)) (V_b : Arv Z h0 b kc .char (3 : Int32) [.int xa, .int xb, .int xc] (.int 0)) (nxa : ¬ (255 : Int32) < xa) (nxb : ¬ (255 : Int32) < xb) (hw_ : (255 : Int32) < xc) (hl_ : own_gc (own_lo xc) (own_hi xc) = xc) (g_a : n0 ≤ a) : own_M l own_n1 jdk_42_method_3_code 2 none (own_rm 5 2 9 74) Z h0 #[.ref a, .ref b] (fun v h L => ∃ t1 : Addr, ∃ kb : ClassId, v = none ∧ Fr n0 L ∧ Keep h0 h [a] ∧ Fld Z h a "java/lang/String" "value" "[B" (.ref t1) ∧ Fld Z h a "java/lang/String" "coder" "B" (.int 1) ∧ Arv Z h t1 kb .byte (6 : Int32) [.int (own_lo xa), .int (own_hi xa), .int (own_lo xb), .int (own_hi xb), .int (own_lo xc), .int (own_hi xc)] (.int 0)) := by
  refine own_body (L0 := #[.val (.ref a), .val (.ref b)]) (plainFor_of_name pn_java_lang_String) rfl rfl ?_
  intro p e s m below meth c s₁ f0 Bd hx Hb hml hZ hown X0 e0 pre0
  have W := own_q hw
  have N0 := Fr.nil n0
  have O := O0
  have K := Keep.refl h0 [a]
  have B1 := own_ln V_b
  have ne_b_a : b ≠ a := (Ne.symm (Exa.neArv E_a V_b (W 6 rfl)))
  obtain ⟨_, T2, Lc2, X2, hQ2, st2⟩ := own_cI X0 Hb hZ hown hml (L := #[.val (.ref a), .val (.ref b)]) rfl (rm2_3_2 hw a b kc xa xb xc O SU E_a F_v_a F_c_a V_b nxa nxb hw_ hl_ g_a) (W 11 rfl) (W 12 rfl) (W 7 rfl) (W 14 rfl) pd7 e0 d1_6 a [.ref b, .int 0, .int 3, .null] [] rfl rfl (by decide) 0 rfl (by decide)
  obtain ⟨t1_2, kb_2, rfl, N2q, K2, F_v_a_c2, F_c_a_c2, V_t1_c2⟩ := hQ2
  have N2 := Fr.app N0 N2q
  have E_a := E_a.keep K2
  have V_b := V_b.keep K2 (ninS ne_b_a nin0)
  have O := O.keep K2 (allS g_a all0)
  have K := K.trans K2 (allS (Or.inl (List.mem_of_getElem? (i := 0) rfl)) all0)
  have w3 : own_Go p e below f0 T2 m 9 #[.val (.ref a), .val (.ref b)] [] := fun t k => by
    refine pre0 t ?_
    refine zal X0 Hb d1_0 rfl rfl <| zal X0 Hb d1_1 rfl rfl <| zic X0 Hb d1_2 0 rfl <| zal X0 Hb d1_3 rfl rfl <| zal_ X0 Hb hZ e0 B1 d1_4 <| znu X0 Hb d1_5 <| st2 _ ?_
    exact k
  exact own_oV X2 Hb Bd.notSynchronized Bd.returns w3 d1_9 rfl (by decide) (by decide) ⟨t1_2, kb_2, rfl, N2, K, F_v_a_c2, F_c_a_c2, V_t1_c2⟩
theorem rm5_3_1 {l : Launch} {Z : State} {a0 : Array Value} (hw : own_W a0 Z) (b d : Addr) (kc : ClassId) (xa xb xc : Int32) (kd : ClassId) {h0 : Heap} {n0 : Nat} (O0 : Old Z n0 h0) (V_b : Arv Z h0 b kc .char (3 : Int32) [.int xa, .int xb, .int xc] (.int 0)) (V_d : Arv Z h0 d kd .byte (3 : Int32) [.int 0, .int 0, .int 0] (.int 0)) (nbd : b ≠ d) (nxa : ¬ (255 : Int32) < xa) (hw_ : (255 : Int32) < xb) (hl_ : own_gc (own_lo xb) (own_hi xb) = xb) (g_d : n0 ≤ d) : own_M l own_n5 jdk_52_method_21_code 7 (some .int) (own_rm 0 0 0 0) Z h0 #[.ref b, .int 0, .ref d, .int 0, .int 3] (fun v h L => v = some (.int 1) ∧ Fr n0 L ∧ Keep h0 h [d]) := by
  refine own_body (L0 := #[.val (.ref b), .val (.int 0), .val (.ref d), .val (.int 0), .val (.int 3), .unset, .unset]) (plainFor_of_name pn_java_lang_StringUTF16) rfl rfl ?_
  intro p e s m below meth c s₁ f0 Bd hx Hb hml hZ hown X0 e0 pre0
  have N0 := Fr.nil n0
  have O := O0
  have K := Keep.refl h0 [d]
  have B1 : own_El Z h0 b .char (0 : Int32) (.int xa) := own_el V_b ⟨by decide, by decide⟩ rfl
  obtain ⟨T2, h2, X2, e2, W2, V_d, st2⟩ := own_sB X0 Hb hZ e0 V_d (j := 0) (x := (xa.toInt8.toInt32)) (L := (own_F1 b (0 : Int32) d (0 : Int32) (3 : Int32) (0 : Int32) xa)) (S := []) (vs' := [(.int ((xa.toInt8.toInt32).toInt8.toInt32)), .int 0, .int 0]) ⟨by decide, by decide⟩ rfl (Nat.le_of_ble_eq_true rfl) d5_31 rfl
  have V_b := V_b.other W2 nbd
  have O := O.wr W2 g_d
  have K := K.wr W2 (Or.inl (List.mem_of_getElem? (i := 0) rfl))
  have N2 := Fr.snoc X2 N0 g_d
  have B3 : own_El Z h2 b .char (1 : Int32) (.int xb) := own_el V_b ⟨by decide, by decide⟩ rfl
  have w4 : own_Go p e below f0 T2 m 25 (own_F1 b (1 : Int32) d (1 : Int32) (3 : Int32) (1 : Int32) xb) [.int 1] := fun t k => by
    refine pre0 t ?_
    refine zic X0 Hb d5_0 0 rfl <| ziS X0 Hb (L' := (own_F0 b (0 : Int32) d (0 : Int32) (3 : Int32) (0 : Int32))) d5_1 rfl <| ziL X0 Hb d5_3 rfl <| ziL X0 Hb d5_5 rfl <| zcn X0 Hb d5_7 (tlt ((by decide) : (0 : Int32) < (3 : Int32))).2.1 <| zal X0 Hb d5_10 rfl rfl <| zil X0 Hb d5_11 rfl <| zca X0 Hb hZ e0 B1 d5_12 ?_
    refine ziS X0 Hb (L' := (own_F1 b (0 : Int32) d (0 : Int32) (3 : Int32) (0 : Int32) xa)) d5_13 rfl <| ziL X0 Hb d5_15 rfl <| zsp X0 Hb d5_17 255 rfl <| zcy X0 Hb d5_20 (flt (nxa : ¬ ((255 : Int32) < xa))).2.2.2 26 (by decide) rfl <| zal X0 Hb d5_26 rfl rfl <| zil X0 Hb d5_27 rfl <| ziL X0 Hb d5_28 rfl <| zib X0 Hb d5_30 ?_
    refine st2 _ <| zii X2 Hb (L' := (own_F1 b (1 : Int32) d (0 : Int32) (3 : Int32) (0 : Int32) xa)) d5_32 rfl 1 rfl rfl <| zii X2 Hb (L' := (own_F1 b (1 : Int32) d (1 : Int32) (3 : Int32) (0 : Int32) xa)) d5_35 rfl 1 rfl rfl <| zii X2 Hb (L' := (own_F1 b (1 : Int32) d (1 : Int32) (3 : Int32) (1 : Int32) xa)) d5_38 rfl 1 rfl rfl <| zgo X2 Hb d5_41 3 (by decide) rfl <| ziL X2 Hb d5_3 rfl <| ziL X2 Hb d5_5 rfl <| zcn X2 Hb d5_7 (tlt ((by decide) : (1 : Int32) < (3 : Int32))).2.1 ?_
    refine zal X2 Hb d5_10 rfl rfl <| zil X2 Hb d5_11 rfl <| zca X2 Hb hZ e2 B3 d5_12 <| ziS X2 Hb (L' := (own_F1 b (1 : Int32) d (1 : Int32) (3 : Int32) (1 : Int32) xb)) d5_13 rfl <| ziL X2 Hb d5_15 rfl <| zsp X2 Hb d5_17 255 rfl <| zcn X2 Hb d5_20 (tlt (hw_ : (255 : Int32) < xb)).2.2.2 <| ziL X2 Hb d5_23 rfl ?_
    exact k
  exact own_oI X2 Hb Bd.notSynchronized Bd.returns w4 d5_25 e2 (by decide) (by decide) ⟨rfl, N2, K⟩
theorem rm4_3_1 {l : Launch} {Z : State} {a0 : Array Value} (hw : own_W a0 Z) (b : Addr) (kc : ClassId) (xa xb xc : Int32) {zc : Int32} {fm : Value} {u8 : Addr} {h0 : Heap} {n0 : Nat} (O0 : Old Z n0 h0) (SU : own_SU Z zc fm u8) (V_b : Arv Z h0 b kc .char (3 : Int32) [.int xa, .int xb, .int xc] (.int 0)) (nxa : ¬ (255 : Int32) < xa) (hw_ : (255 : Int32) < xb) (hl_ : own_gc (own_lo xb) (own_hi xb) = xb) : own_M l own_n4 jdk_52_method_16_code 6 (some (.array .byte)) (own_rm 3 2 9 40) Z h0 #[.ref b, .int 0, .int 3] (fun v h L => ∃ z : Addr, ∃ kz : ClassId, v = some (.ref z) ∧ Fr n0 L ∧ Keep h0 h [] ∧ Arv Z h z kz .byte (6 : Int32) [.int (own_lo xa), .int (own_hi xa), .int (own_lo xb), .int (own_hi xb), .int (own_lo xc), .int (own_hi xc)] (.int 0) ∧ h0.size ≤ z ∧ n0 ≤ z) := by
  refine own_body (L0 := #[.val (.ref b), .val (.int 0), .val (.int 3), .unset, .unset, .unset]) (plainFor_of_name pn_java_lang_StringUTF16) rfl rfl ?_
  intro p e s m below meth c s₁ f0 Bd hx Hb hml hZ hown X0 e0 pre0
  have hby := Hb.2
  have W := own_q hw
  have N0 := Fr.nil n0
  have O := O0
  have K := Keep.refl h0 []
  obtain ⟨T1, h1, k1, X1, e1, E1, A1, st1⟩ := newP X0 hx hZ (W 3 rfl) e0 (g := (mkF m 1 #[.val (.ref b), .val (.int 0), .val (.int 3), .unset, .unset, .unset] [.int 3])) rfl (hb hby d4_1) rfl (by decide) (cap := 3) (by decide) (by decide) (by decide) (by decide)
  obtain ⟨b1, gq1⟩ : ∃ z, z = Array.size h0 := ⟨_, rfl⟩
  rw [← gq1] at A1 st1
  have ne_b_b1 : b ≠ b1 := Nat.ne_of_lt (Nat.lt_of_lt_of_le V_b.lt (Nat.le_of_eq gq1.symm))
  have g_b1 : n0 ≤ b1 := Nat.le_trans (O.1 ▸ O.2.1) (Nat.le_of_eq gq1.symm)
  have z_b1 : h0.size ≤ b1 := Nat.le_trans K.1 (Nat.le_of_eq gq1.symm)
  have V_b := V_b.ext E1
  have O := O.ext E1
  have K := K.ext E1
  have V_b1 : Arv Z h1 b1 k1 .byte (3 : Int32) [.int 0, .int 0, .int 0] (.int 0) := (Arv.new A1 (by decide)).pad (pad_rep [] (.int 0) 3)
  obtain ⟨_, T2, Lc2, X2, hQ2, st2⟩ := own_cS X1 Hb hZ hown hml (L := #[.val (.ref b), .val (.int 0), .val (.int 3), .val (.ref b1), .unset, .unset]) rfl (rm5_3_1 hw b b1 kc xa xb xc k1 O V_b V_b1 ne_b_b1 nxa hw_ hl_ g_b1) (W 23 rfl) (W 24 rfl) (W 21 rfl) (W 25 rfl) pd3 e1 d4_9 [.ref b, .int 0, .ref b1, .int 0, .int 3] [] rfl rfl (by decide) 0 rfl (by decide)
  obtain ⟨rfl, N2q, K2⟩ := hQ2
  have N2 := Fr.app N0 N2q
  have V_b := V_b.keep K2 (ninS ne_b_b1 nin0)
  have O := O.keep K2 (allS g_b1 all0)
  have K := K.trans K2 (allS (Or.inr z_b1) all0)
  have lt3_b := V_b.lt
  obtain ⟨_, T3, Lc3, X3, hQ3, st3⟩ := own_cS X2 Hb hZ hown hml (L := #[.val (.ref b), .val (.int 0), .val (.int 3), .val (.ref b1), .val (.int 1), .unset]) rfl (rm16_3 hw b kc xa xb xc O SU V_b) (W 100 rfl) (W 101 rfl) (W 21 rfl) (W 102 rfl) pd4 rfl d4_23 [.ref b, .int 0, .int 3] [] rfl rfl (by decide) 0 rfl (by decide)
  obtain ⟨z_3, kz_3, rfl, N3q, K3, V_z_c3, gz_3, gn_3⟩ := hQ3
  have N3 := Fr.app N2 N3q
  have V_b := V_b.keep K3 nin0
  have ne_b_z_3 : b ≠ z_3 := Nat.ne_of_lt (Nat.lt_of_lt_of_le lt3_b gz_3)
  have g_z_3 := gn_3
  have z_z_3 : h0.size ≤ z_3 := Nat.le_trans K.1 gz_3
  have O := O.keep K3 all0
  have K := K.trans K3 all0
  obtain ⟨_, T4, Lc4, X4, hQ4, st4⟩ := own_cS X3 Hb hZ hown hml (L := #[.val (.ref b), .val (.int 0), .val (.int 3), .val (.ref b1), .val (.int 1), .val (.ref z_3)]) rfl (rm20_6_1 hw z_3 kz_3 (own_lo xa) (own_hi xa) (own_lo xb) (own_hi xb) (own_lo xc) (own_hi xc) O SU V_z_c3) (W 116 rfl) (W 117 rfl) (W 21 rfl) (W 118 rfl) pd5 rfl d4_32 [.ref z_3, .int 1] [] rfl rfl (by decide) 0 rfl (by decide)
  obtain ⟨rfl, N4q, eh4⟩ := hQ4
  have N4 := Fr.app N3 N4q
  have w5 : own_Go p e below f0 T4 m 56 #[.val (.ref b), .val (.int 0), .val (.int 3), .val (.ref b1), .val (.int 1), .val (.ref z_3)] [.ref z_3] := fun t k => by
    refine pre0 t ?_
    refine zil X0 Hb d4_0 rfl <| st1 _ <| zas X1 Hb (L' := #[.val (.ref b), .val (.int 0), .val (.int 3), .val (.ref b1), .unset, .unset]) d4_3 rfl rfl <| zal X1 Hb d4_4 rfl rfl <| zil X1 Hb d4_5 rfl <| zal X1 Hb d4_6 rfl rfl <| zic X1 Hb d4_7 0 rfl <| zil X1 Hb d4_8 rfl ?_
    refine st2 _ <| ziS X2 Hb d4_12 rfl <| ziL X2 Hb d4_14 rfl <| zil X2 Hb d4_16 rfl <| zcn X2 Hb d4_17 (feq ((by decide) : ¬ ((1 : Int32) = (3 : Int32)))).1 <| zal X2 Hb d4_20 rfl rfl <| zil X2 Hb d4_21 rfl <| zil X2 Hb d4_22 rfl ?_
    refine st3 _ <| zaS X3 Hb d4_26 rfl rfl <| zaL X3 Hb d4_28 rfl rfl <| ziL X3 Hb d4_30 rfl <| st4 _ <| zsp X4 Hb d4_35 255 rfl <| zcy X4 Hb d4_38 (tlt ((by rw [hl_]; exact hw_) : (255 : Int32) < (own_gc (own_lo xb) (own_hi xb)))).2.2.1 54 (by decide) rfl <| zaL X4 Hb d4_54 rfl rfl ?_
    exact k
  exact own_oR X4 Hb Bd.notSynchronized Bd.returns rfl w5 d4_56 eh4 (by decide) (by decide) ⟨z_3, kz_3, rfl, N4, K, V_z_c3, z_z_3, g_z_3⟩
theorem rm2_3_1 {l : Launch} {Z : State} {a0 : Array Value} (hw : own_W a0 Z) (a b : Addr) (kc : ClassId) (xa xb xc : Int32) {zc : Int32} {fm : Value} {u8 : Addr} {h0 : Heap} {n0 : Nat} (O0 : Old Z n0 h0) (SU : own_SU Z zc fm u8) (E_a : Exa Z h0 a "java/lang/String") (F_v_a : Fld Z h0 a "java/lang/String" "value" "[B" .null) (F_c_a : Fld Z h0 a "java/lang/String" "coder" "B" (.int 0)) (V_b : Arv Z h0 b kc .char (3 : Int32) [.int xa, .int xb, .int xc] (.int 0)) (nxa : ¬ (255 : Int32) < xa) (hw_ : (255 : Int32) < xb) (hl_ : own_gc (own_lo xb) (own_hi xb) = xb) (g_a : n0 ≤ a) : own_M l own_n2 jdk_42_method_149_code 6 none (own_rm 4 2 9 57) Z h0 #[.ref a, .ref b, .int 0, .int 3, .null] (fun v h L => ∃ t1 : Addr, ∃ kb : ClassId, v = none ∧ Fr n0 L ∧ Keep h0 h [a] ∧ Fld Z h a "java/lang/String" "value" "[B" (.ref t1) ∧ Fld Z h a "java/lang/String" "coder" "B" (.int 1) ∧ Arv Z h t1 kb .byte (6 : Int32) [.int (own_lo xa), .int (own_hi xa), .int (own_lo xb), .int (own_hi xb), .int (own_lo xc), .int (own_hi xc)] (.int 0)) := by
  refine own_body (L0 := #[.val (.ref a), .val (.ref b), .val (.int 0), .val (.int 3), .val .null, .unset]) (plainFor_of_name pn_java_lang_String) rfl rfl ?_
  intro p e s m below meth c s₁ f0 Bd hx Hb hml hZ hown X0 e0 pre0
  have hby := Hb.2
  have hnm := (name_of_methodNamed Bd.named Bd.method).1
  have W := own_q hw
  have N0 := Fr.nil n0
  have O := O0
  have K := Keep.refl h0 [a]
  obtain ⟨T1, X1, e1, st1⟩ := initO X0 hx hZ hown (W 15 rfl) (W 16 rfl) (W 17 rfl) e0 (g := (mkF m 1 #[.val (.ref a), .val (.ref b), .val (.int 0), .val (.int 3), .val .null, .unset] [.ref a])) rfl (by rw [hml]; rfl) rfl (hb hby d2_1) (by decide) (W := 0) (by show 2 * 0 + _ ≤ _; exact Nat.le_of_eq rfl) (by decide)
  obtain ⟨T2, X2, e2, st2⟩ := getS2 X1 hx hZ hown (host := "") (Or.inl (W 18 rfl)) Via.refl e1 (SU.2.2.2.1.ext O.2) (g := (mkF m 27 #[.val (.ref a), .val (.ref b), .val (.int 0), .val (.int 3), .val .null, .unset] [])) rfl (hb hby d2_27)
  have lt3_a := E_a.lt
  have lt3_b := V_b.lt
  obtain ⟨_, T3, Lc3, X3, hQ3, st3⟩ := own_cS X2 Hb hZ hown hml (L := #[.val (.ref a), .val (.ref b), .val (.int 0), .val (.int 3), .val .null, .unset]) rfl (rm4_3_1 hw b kc xa xb xc O SU V_b nxa hw_ hl_) (W 19 rfl) (W 20 rfl) (W 21 rfl) (W 22 rfl) pd4 e2 d2_36 [.ref b, .int 0, .int 3] [] rfl rfl (by decide) 0 rfl (by decide)
  obtain ⟨z_3, kz_3, rfl, N3q, K3, V_z_c3, gz_3, gn_3⟩ := hQ3
  have N3 := Fr.app N0 N3q
  have E_a := E_a.keep K3
  have F_v_a := F_v_a.keep K3 nin0
  have F_c_a := F_c_a.keep K3 nin0
  have V_b := V_b.keep K3 nin0
  have ne_a_z_3 : a ≠ z_3 := Nat.ne_of_lt (Nat.lt_of_lt_of_le lt3_a gz_3)
  have ne_b_z_3 : b ≠ z_3 := Nat.ne_of_lt (Nat.lt_of_lt_of_le lt3_b gz_3)
  have g_z_3 := gn_3
  have z_z_3 : h0.size ≤ z_3 := Nat.le_trans K.1 gz_3
  have O := O.keep K3 all0
  have K := K.trans K3 all0
  obtain ⟨_, T4, Lc4, X4, hQ4, st4⟩ := own_cS X3 Hb hZ hown hml (L := #[.val (.ref a), .val (.ref b), .val (.int 0), .val (.int 3), .val .null, .val (.ref z_3)]) rfl (rm6_3_6 hw z_3 kz_3 [.int (own_lo xa), .int (own_hi xa), .int (own_lo xb), .int (own_hi xb), .int (own_lo xc), .int (own_hi xc)] O V_z_c3) (W 26 rfl) (W 27 rfl) (W 21 rfl) (W 28 rfl) pd6 rfl d2_45 [.ref z_3, .int 3] [.ref a] rfl rfl (by decide) 1 rfl (by decide)
  obtain ⟨rfl, N4q, eh4⟩ := hQ4
  have N4 := Fr.app N3 N4q
  have ne_b_a : b ≠ a := (Ne.symm (Exa.neArv E_a V_b (W 6 rfl)))
  obtain ⟨T5, h5, X5, e5, W5, st5⟩ := putFN X4 hx hZ hown (W 29 rfl) Via.refl eh4 F_c_a E_a (Or.inr ⟨(W 30 rfl), rfl, hnm⟩) (W 6 rfl) (ty := .byte) (v' := (.int 1)) (by decide) rfl rfl (g := (mkF m 48 #[.val (.ref a), .val (.ref b), .val (.int 0), .val (.int 3), .val .null, .val (.ref z_3)] [.int 1, .ref a])) rfl rfl (hb hby d2_48)
  have F_c_a := F_c_a.same W5
  have E_a := E_a.wr W5
  have F_v_a := F_v_a.other W5 (Or.inr (slot_ne (Or.inr (W 32 rfl)) (Or.inr (W 30 rfl)) (by decide) (t := (.array .byte)) (t' := .byte) (by decide) (by decide)))
  have V_b := V_b.other W5 ne_b_a
  have V_z_c3 := V_z_c3.other W5 (Ne.symm ne_a_z_3)
  have O := O.wr W5 g_a
  have K := K.wr W5 (Or.inl (List.mem_of_getElem? (i := 0) rfl))
  have N5 := Fr.snoc X5 N4 g_a
  obtain ⟨T6, h6, X6, e6, W6, st6⟩ := putF X5 hx hZ hown (host := "") (Or.inl (W 31 rfl)) Via.refl e5 F_v_a E_a (Or.inr ⟨(W 32 rfl), rfl, hnm⟩) (W 6 rfl) (ty := (.array .byte)) (by decide) rfl rfl (g := (mkF m 54 #[.val (.ref a), .val (.ref b), .val (.int 0), .val (.int 3), .val .null, .val (.ref z_3)] [.ref z_3, .ref a])) rfl rfl (hb hby d2_54)
  have F_v_a := F_v_a.same W6
  have E_a := E_a.wr W6
  have F_c_a := F_c_a.other W6 (Or.inr (slot_ne (Or.inr (W 30 rfl)) (Or.inr (W 32 rfl)) (by decide) (t := .byte) (t' := (.array .byte)) (by decide) (by decide)))
  have V_b := V_b.other W6 ne_b_a
  have V_z_c3 := V_z_c3.other W6 (Ne.symm ne_a_z_3)
  have O := O.wr W6 g_a
  have K := K.wr W6 (Or.inl (List.mem_of_getElem? (i := 0) rfl))
  have N6 := Fr.snoc X6 N5 g_a
  have w7 : own_Go p e below f0 T6 m 57 #[.val (.ref a), .val (.ref b), .val (.int 0), .val (.int 3), .val .null, .val (.ref z_3)] [] := fun t k => by
    refine pre0 t ?_
    refine zal X0 Hb d2_0 rfl rfl <| st1 _ <| zil X1 Hb d2_4 rfl <| ziy X1 Hb d2_5 ((if0 _ _).trans (feq ((by decide) : ¬ ((3 : Int32) = (0 : Int32)))).2) 27 (by decide) rfl <| st2 _ <| zin X2 Hb d2_30 ((if0 _ _).trans (feq (SU.2.2.2.2.2.2.2.1 : ¬ (zc = (0 : Int32)))).1) <| zal X2 Hb d2_33 rfl rfl <| zil X2 Hb d2_34 rfl ?_
    refine zil X2 Hb d2_35 rfl <| st3 _ <| zaS X3 Hb d2_39 rfl rfl <| zal X3 Hb d2_41 rfl rfl <| zaL X3 Hb d2_42 rfl rfl <| zil X3 Hb d2_44 rfl <| st4 _ <| st5 _ ?_
    refine zal X5 Hb d2_51 rfl rfl <| zaL X5 Hb d2_52 rfl rfl <| st6 _ ?_
    exact k
  exact own_oV X6 Hb Bd.notSynchronized Bd.returns w7 d2_57 e6 (by decide) (by decide) ⟨z_3, kz_3, rfl, N6, K, F_v_a, F_c_a, V_z_c3⟩
theorem rm1_3_1 {l : Launch} {Z : State} {a0 : Array Value} (hw : own_W a0 Z) (a b : Addr) (kc : ClassId) (xa xb xc : Int32) {zc : Int32} {fm : Value} {u8 : Addr} {h0 : Heap} {n0 : Nat} (O0 : Old Z n0 h0) (SU : own_SU Z zc fm u8) (E_a : Exa Z h0 a "java/lang/String") (F_v_a : Fld Z h0 a "java/lang/String" "value" "[B" .null) (F_c_a : Fld Z h0 a "java/lang/String" "coder" "B" (.int 0)) (V_b : Arv Z h0 b kc .char (3 : Int32) [.int xa, .int xb, .int xc] (.int 0)) (nxa : ¬ (255 : Int32) < xa) (hw_ : (255 : Int32) < xb) (hl_ : own_gc (own_lo xb) (own_hi xb) = xb) (g_a : n0 ≤ a) : own_M l own_n1 jdk_42_method_3_code 2 none (own_rm 5 2 9 74) Z h0 #[.ref a, .ref b] (fun v h L => ∃ t1 : Addr, ∃ kb : ClassId, v = none ∧ Fr n0 L ∧ Keep h0 h [a] ∧ Fld Z h a "java/lang/String" "value" "[B" (.ref t1) ∧ Fld Z h a "java/lang/String" "coder" "B" (.int 1) ∧ Arv Z h t1 kb .byte (6 : Int32) [.int (own_lo xa), .int (own_hi xa), .int (own_lo xb), .int (own_hi xb), .int (own_lo xc), .int (own_hi xc)] (.int 0)) := by
  refine own_body (L0 := #[.val (.ref a), .val (.ref b)]) (plainFor_of_name pn_java_lang_String) rfl rfl ?_
  intro p e s m below meth c s₁ f0 Bd hx Hb hml hZ hown X0 e0 pre0
  have W := own_q hw
  have N0 := Fr.nil n0
  have O := O0
  have K := Keep.refl h0 [a]
  have B1 := own_ln V_b
  have ne_b_a : b ≠ a := (Ne.symm (Exa.neArv E_a V_b (W 6 rfl)))
  obtain ⟨_, T2, Lc2, X2, hQ2, st2⟩ := own_cI X0 Hb hZ hown hml (L := #[.val (.ref a), .val (.ref b)]) rfl (rm2_3_1 hw a b kc xa xb xc O SU E_a F_v_a F_c_a V_b nxa hw_ hl_ g_a) (W 11 rfl) (W 12 rfl) (W 7 rfl) (W 14 rfl) pd7 e0 d1_6 a [.ref b, .int 0, .int 3, .null] [] rfl rfl (by decide) 0 rfl (by decide)
  obtain ⟨t1_2, kb_2, rfl, N2q, K2, F_v_a_c2, F_c_a_c2, V_t1_c2⟩ := hQ2
  have N2 := Fr.app N0 N2q
  have E_a := E_a.keep K2
  have V_b := V_b.keep K2 (ninS ne_b_a nin0)
  have O := O.keep K2 (allS g_a all0)
  have K := K.trans K2 (allS (Or.inl (List.mem_of_getElem? (i := 0) rfl)) all0)
  have w3 : own_Go p e below f0 T2 m 9 #[.val (.ref a), .val (.ref b)] [] := fun t k => by
    refine pre0 t ?_
    refine zal X0 Hb d1_0 rfl rfl <| zal X0 Hb d1_1 rfl rfl <| zic X0 Hb d1_2 0 rfl <| zal X0 Hb d1_3 rfl rfl <| zal_ X0 Hb hZ e0 B1 d1_4 <| znu X0 Hb d1_5 <| st2 _ ?_
    exact k
  exact own_oV X2 Hb Bd.notSynchronized Bd.returns w3 d1_9 rfl (by decide) (by decide) ⟨t1_2, kb_2, rfl, N2, K, F_v_a_c2, F_c_a_c2, V_t1_c2⟩
theorem rm5_4_1 {l : Launch} {Z : State} {a0 : Array Value} (hw : own_W a0 Z) (b d : Addr) (kc : ClassId) (xa xb xc xd : Int32) (kd : ClassId) {h0 : Heap} {n0 : Nat} (O0 : Old Z n0 h0) (V_b : Arv Z h0 b kc .char (4 : Int32) [.int xa, .int xb, .int xc, .int xd] (.int 0)) (V_d : Arv Z h0 d kd .byte (4 : Int32) [.int 0, .int 0, .int 0, .int 0] (.int 0)) (nbd : b ≠ d) (nxa : ¬ (255 : Int32) < xa) (hw_ : (255 : Int32) < xb) (hl_ : own_gc (own_lo xb) (own_hi xb) = xb) (g_d : n0 ≤ d) : own_M l own_n5 jdk_52_method_21_code 7 (some .int) (own_rm 0 0 0 0) Z h0 #[.ref b, .int 0, .ref d, .int 0, .int 4] (fun v h L => v = some (.int 1) ∧ Fr n0 L ∧ Keep h0 h [d]) := by
  refine own_body (L0 := #[.val (.ref b), .val (.int 0), .val (.ref d), .val (.int 0), .val (.int 4), .unset, .unset]) (plainFor_of_name pn_java_lang_StringUTF16) rfl rfl ?_
  intro p e s m below meth c s₁ f0 Bd hx Hb hml hZ hown X0 e0 pre0
  have N0 := Fr.nil n0
  have O := O0
  have K := Keep.refl h0 [d]
  have B1 : own_El Z h0 b .char (0 : Int32) (.int xa) := own_el V_b ⟨by decide, by decide⟩ rfl
  obtain ⟨T2, h2, X2, e2, W2, V_d, st2⟩ := own_sB X0 Hb hZ e0 V_d (j := 0) (x := (xa.toInt8.toInt32)) (L := (own_F1 b (0 : Int32) d (0 : Int32) (4 : Int32) (0 : Int32) xa)) (S := []) (vs' := [(.int ((xa.toInt8.toInt32).toInt8.toInt32)), .int 0, .int 0, .int 0]) ⟨by decide, by decide⟩ rfl (Nat.le_of_ble_eq_true rfl) d5_31 rfl
  have V_b := V_b.other W2 nbd
  have O := O.wr W2 g_d
  have K := K.wr W2 (Or.inl (List.mem_of_getElem? (i := 0) rfl))
  have N2 := Fr.snoc X2 N0 g_d
  have B3 : own_El Z h2 b .char (1 : Int32) (.int xb) := own_el V_b ⟨by decide, by decide⟩ rfl
  have w4 : own_Go p e below f0 T2 m 25 (own_F1 b (1 : Int32) d (1 : Int32) (4 : Int32) (1 : Int32) xb) [.int 1] := fun t k => by
    refine pre0 t ?_
    refine zic X0 Hb d5_0 0 rfl <| ziS X0 Hb (L' := (own_F0 b (0 : Int32) d (0 : Int32) (4 : Int32) (0 : Int32))) d5_1 rfl <| ziL X0 Hb d5_3 rfl <| ziL X0 Hb d5_5 rfl <| zcn X0 Hb d5_7 (tlt ((by decide) : (0 : Int32) < (4 : Int32))).2.1 <| zal X0 Hb d5_10 rfl rfl <| zil X0 Hb d5_11 rfl <| zca X0 Hb hZ e0 B1 d5_12 ?_
    refine ziS X0 Hb (L' := (own_F1 b (0 : Int32) d (0 : Int32) (4 : Int32) (0 : Int32) xa)) d5_13 rfl <| ziL X0 Hb d5_15 rfl <| zsp X0 Hb d5_17 255 rfl <| zcy X0 Hb d5_20 (flt (nxa : ¬ ((255 : Int32) < xa))).2.2.2 26 (by decide) rfl <| zal X0 Hb d5_26 rfl rfl <| zil X0 Hb d5_27 rfl <| ziL X0 Hb d5_28 rfl <| zib X0 Hb d5_30 ?_
    refine st2 _ <| zii X2 Hb (L' := (own_F1 b (1 : Int32) d (0 : Int32) (4 : Int32) (0 : Int32) xa)) d5_32 rfl 1 rfl rfl <| zii X2 Hb (L' := (own_F1 b (1 : Int32) d (1 : Int32) (4 : Int32) (0 : Int32) xa)) d5_35 rfl 1 rfl rfl <| zii X2 Hb (L' := (own_F1 b (1 : Int32) d (1 : Int32) (4 : Int32) (1 : Int32) xa)) d5_38 rfl 1 rfl rfl <| zgo X2 Hb d5_41 3 (by decide) rfl <| ziL X2 Hb d5_3 rfl <| ziL X2 Hb d5_5 rfl <| zcn X2 Hb d5_7 (tlt ((by decide) : (1 : Int32) < (4 : Int32))).2.1 ?_
    refine zal X2 Hb d5_10 rfl rfl <| zil X2 Hb d5_11 rfl <| zca X2 Hb hZ e2 B3 d5_12 <| ziS X2 Hb (L' := (own_F1 b (1 : Int32) d (1 : Int32) (4 : Int32) (1 : Int32) xb)) d5_13 rfl <| ziL X2 Hb d5_15 rfl <| zsp X2 Hb d5_17 255 rfl <| zcn X2 Hb d5_20 (tlt (hw_ : (255 : Int32) < xb)).2.2.2 <| ziL X2 Hb d5_23 rfl ?_
    exact k
  exact own_oI X2 Hb Bd.notSynchronized Bd.returns w4 d5_25 e2 (by decide) (by decide) ⟨rfl, N2, K⟩
theorem rm4_4_1 {l : Launch} {Z : State} {a0 : Array Value} (hw : own_W a0 Z) (b : Addr) (kc : ClassId) (xa xb xc xd : Int32) {zc : Int32} {fm : Value} {u8 : Addr} {h0 : Heap} {n0 : Nat} (O0 : Old Z n0 h0) (SU : own_SU Z zc fm u8) (V_b : Arv Z h0 b kc .char (4 : Int32) [.int xa, .int xb, .int xc, .int xd] (.int 0)) (nxa : ¬ (255 : Int32) < xa) (hw_ : (255 : Int32) < xb) (hl_ : own_gc (own_lo xb) (own_hi xb) = xb) : own_M l own_n4 jdk_52_method_16_code 6 (some (.array .byte)) (own_rm 3 2 12 40) Z h0 #[.ref b, .int 0, .int 4] (fun v h L => ∃ z : Addr, ∃ kz : ClassId, v = some (.ref z) ∧ Fr n0 L ∧ Keep h0 h [] ∧ Arv Z h z kz .byte (8 : Int32) [.int (own_lo xa), .int (own_hi xa), .int (own_lo xb), .int (own_hi xb), .int (own_lo xc), .int (own_hi xc), .int (own_lo xd), .int (own_hi xd)] (.int 0) ∧ h0.size ≤ z ∧ n0 ≤ z) := by
  refine own_body (L0 := #[.val (.ref b), .val (.int 0), .val (.int 4), .unset, .unset, .unset]) (plainFor_of_name pn_java_lang_StringUTF16) rfl rfl ?_
  intro p e s m below meth c s₁ f0 Bd hx Hb hml hZ hown X0 e0 pre0
  have hby := Hb.2
  have W := own_q hw
  have N0 := Fr.nil n0
  have O := O0
  have K := Keep.refl h0 []
  obtain ⟨T1, h1, k1, X1, e1, E1, A1, st1⟩ := newP X0 hx hZ (W 3 rfl) e0 (g := (mkF m 1 #[.val (.ref b), .val (.int 0), .val (.int 4), .unset, .unset, .unset] [.int 4])) rfl (hb hby d4_1) rfl (by decide) (cap := 4) (by decide) (by decide) (by decide) (by decide)
  obtain ⟨b1, gq1⟩ : ∃ z, z = Array.size h0 := ⟨_, rfl⟩
  rw [← gq1] at A1 st1
  have ne_b_b1 : b ≠ b1 := Nat.ne_of_lt (Nat.lt_of_lt_of_le V_b.lt (Nat.le_of_eq gq1.symm))
  have g_b1 : n0 ≤ b1 := Nat.le_trans (O.1 ▸ O.2.1) (Nat.le_of_eq gq1.symm)
  have z_b1 : h0.size ≤ b1 := Nat.le_trans K.1 (Nat.le_of_eq gq1.symm)
  have V_b := V_b.ext E1
  have O := O.ext E1
  have K := K.ext E1
  have V_b1 : Arv Z h1 b1 k1 .byte (4 : Int32) [.int 0, .int 0, .int 0, .int 0] (.int 0) := (Arv.new A1 (by decide)).pad (pad_rep [] (.int 0) 4)
  obtain ⟨_, T2, Lc2, X2, hQ2, st2⟩ := own_cS X1 Hb hZ hown hml (L := #[.val (.ref b), .val (.int 0), .val (.int 4), .val (.ref b1), .unset, .unset]) rfl (rm5_4_1 hw b b1 kc xa xb xc xd k1 O V_b V_b1 ne_b_b1 nxa hw_ hl_ g_b1) (W 23 rfl) (W 24 rfl) (W 21 rfl) (W 25 rfl) pd3 e1 d4_9 [.ref b, .int 0, .ref b1, .int 0, .int 4] [] rfl rfl (by decide) 0 rfl (by decide)
  obtain ⟨rfl, N2q, K2⟩ := hQ2
  have N2 := Fr.app N0 N2q
  have V_b := V_b.keep K2 (ninS ne_b_b1 nin0)
  have O := O.keep K2 (allS g_b1 all0)
  have K := K.trans K2 (allS (Or.inr z_b1) all0)
  have lt3_b := V_b.lt
  obtain ⟨_, T3, Lc3, X3, hQ3, st3⟩ := own_cS X2 Hb hZ hown hml (L := #[.val (.ref b), .val (.int 0), .val (.int 4), .val (.ref b1), .val (.int 1), .unset]) rfl (rm16_4 hw b kc xa xb xc xd O SU V_b) (W 100 rfl) (W 101 rfl) (W 21 rfl) (W 102 rfl) pd4 rfl d4_23 [.ref b, .int 0, .int 4] [] rfl rfl (by decide) 0 rfl (by decide)
  obtain ⟨z_3, kz_3, rfl, N3q, K3, V_z_c3, gz_3, gn_3⟩ := hQ3
  have N3 := Fr.app N2 N3q
  have V_b := V_b.keep K3 nin0
  have ne_b_z_3 : b ≠ z_3 := Nat.ne_of_lt (Nat.lt_of_lt_of_le lt3_b gz_3)
  have g_z_3 := gn_3
  have z_z_3 : h0.size ≤ z_3 := Nat.le_trans K.1 gz_3
  have O := O.keep K3 all0
  have K := K.trans K3 all0
  obtain ⟨_, T4, Lc4, X4, hQ4, st4⟩ := own_cS X3 Hb hZ hown hml (L := #[.val (.ref b), .val (.int 0), .val (.int 4), .val (.ref b1), .val (.int 1), .val (.ref z_3)]) rfl (rm20_8_1 hw z_3 kz_3 (own_lo xa) (own_hi xa) (own_lo xb) (own_hi xb) (own_lo xc) (own_hi xc) (own_lo xd) (own_hi xd) O SU V_z_c3) (W 116 rfl) (W 117 rfl) (W 21 rfl) (W 118 rfl) pd5 rfl d4_32 [.ref z_3, .int 1] [] rfl rfl (by decide) 0 rfl (by decide)
  obtain ⟨rfl, N4q, eh4⟩ := hQ4
  have N4 := Fr.app N3 N4q
  have w5 : own_Go p e below f0 T4 m 56 #[.val (.ref b), .val (.int 0), .val (.int 4), .val (.ref b1), .val (.int 1), .val (.ref z_3)] [.ref z_3] := fun t k => by
    refine pre0 t ?_
    refine zil X0 Hb d4_0 rfl <| st1 _ <| zas X1 Hb (L' := #[.val (.ref b), .val (.int 0), .val (.int 4), .val (.ref b1), .unset, .unset]) d4_3 rfl rfl <| zal X1 Hb d4_4 rfl rfl <| zil X1 Hb d4_5 rfl <| zal X1 Hb d4_6 rfl rfl <| zic X1 Hb d4_7 0 rfl <| zil X1 Hb d4_8 rfl ?_
    refine st2 _ <| ziS X2 Hb d4_12 rfl <| ziL X2 Hb d4_14 rfl <| zil X2 Hb d4_16 rfl <| zcn X2 Hb d4_17 (feq ((by decide) : ¬ ((1 : Int32) = (4 : Int32)))).1 <| zal X2 Hb d4_20 rfl rfl <| zil X2 Hb d4_21 rfl <| zil X2 Hb d4_22 rfl ?_
    refine st3 _ <| zaS X3 Hb d4_26 rfl rfl <| zaL X3 Hb d4_28 rfl rfl <| ziL X3 Hb d4_30 rfl <| st4 _ <| zsp X4 Hb d4_35 255 rfl <| zcy X4 Hb d4_38 (tlt ((by rw [hl_]; exact hw_) : (255 : Int32) < (own_gc (own_lo xb) (own_hi xb)))).2.2.1 54 (by decide) rfl <| zaL X4 Hb d4_54 rfl rfl ?_
    exact k
  exact own_oR X4 Hb Bd.notSynchronized Bd.returns rfl w5 d4_56 eh4 (by decide) (by decide) ⟨z_3, kz_3, rfl, N4, K, V_z_c3, z_z_3, g_z_3⟩
theorem rm2_4_1 {l : Launch} {Z : State} {a0 : Array Value} (hw : own_W a0 Z) (a b : Addr) (kc : ClassId) (xa xb xc xd : Int32) {zc : Int32} {fm : Value} {u8 : Addr} {h0 : Heap} {n0 : Nat} (O0 : Old Z n0 h0) (SU : own_SU Z zc fm u8) (E_a : Exa Z h0 a "java/lang/String") (F_v_a : Fld Z h0 a "java/lang/String" "value" "[B" .null) (F_c_a : Fld Z h0 a "java/lang/String" "coder" "B" (.int 0)) (V_b : Arv Z h0 b kc .char (4 : Int32) [.int xa, .int xb, .int xc, .int xd] (.int 0)) (nxa : ¬ (255 : Int32) < xa) (hw_ : (255 : Int32) < xb) (hl_ : own_gc (own_lo xb) (own_hi xb) = xb) (g_a : n0 ≤ a) : own_M l own_n2 jdk_42_method_149_code 6 none (own_rm 4 2 12 57) Z h0 #[.ref a, .ref b, .int 0, .int 4, .null] (fun v h L => ∃ t1 : Addr, ∃ kb : ClassId, v = none ∧ Fr n0 L ∧ Keep h0 h [a] ∧ Fld Z h a "java/lang/String" "value" "[B" (.ref t1) ∧ Fld Z h a "java/lang/String" "coder" "B" (.int 1) ∧ Arv Z h t1 kb .byte (8 : Int32) [.int (own_lo xa), .int (own_hi xa), .int (own_lo xb), .int (own_hi xb), .int (own_lo xc), .int (own_hi xc), .int (own_lo xd), .int (own_hi xd)] (.int 0)) := by
  refine own_body (L0 := #[.val (.ref a), .val (.ref b), .val (.int 0), .val (.int 4), .val .null, .unset]) (plainFor_of_name pn_java_lang_String) rfl rfl ?_
  intro p e s m below meth c s₁ f0 Bd hx Hb hml hZ hown X0 e0 pre0
  have hby := Hb.2
  have hnm := (name_of_methodNamed Bd.named Bd.method).1
  have W := own_q hw
  have N0 := Fr.nil n0
  have O := O0
  have K := Keep.refl h0 [a]
  obtain ⟨T1, X1, e1, st1⟩ := initO X0 hx hZ hown (W 15 rfl) (W 16 rfl) (W 17 rfl) e0 (g := (mkF m 1 #[.val (.ref a), .val (.ref b), .val (.int 0), .val (.int 4), .val .null, .unset] [.ref a])) rfl (by rw [hml]; rfl) rfl (hb hby d2_1) (by decide) (W := 0) (by show 2 * 0 + _ ≤ _; exact Nat.le_of_eq rfl) (by decide)
  obtain ⟨T2, X2, e2, st2⟩ := getS2 X1 hx hZ hown (host := "") (Or.inl (W 18 rfl)) Via.refl e1 (SU.2.2.2.1.ext O.2) (g := (mkF m 27 #[.val (.ref a), .val (.ref b), .val (.int 0), .val (.int 4), .val .null, .unset] [])) rfl (hb hby d2_27)
  have lt3_a := E_a.lt
  have lt3_b := V_b.lt
  obtain ⟨_, T3, Lc3, X3, hQ3, st3⟩ := own_cS X2 Hb hZ hown hml (L := #[.val (.ref a), .val (.ref b), .val (.int 0), .val (.int 4), .val .null, .unset]) rfl (rm4_4_1 hw b kc xa xb xc xd O SU V_b nxa hw_ hl_) (W 19 rfl) (W 20 rfl) (W 21 rfl) (W 22 rfl) pd4 e2 d2_36 [.ref b, .int 0, .int 4] [] rfl rfl (by decide) 0 rfl (by decide)
  obtain ⟨z_3, kz_3, rfl, N3q, K3, V_z_c3, gz_3, gn_3⟩ := hQ3
  have N3 := Fr.app N0 N3q
  have E_a := E_a.keep K3
  have F_v_a := F_v_a.keep K3 nin0
  have F_c_a := F_c_a.keep K3 nin0
  have V_b := V_b.keep K3 nin0
  have ne_a_z_3 : a ≠ z_3 := Nat.ne_of_lt (Nat.lt_of_lt_of_le lt3_a gz_3)
  have ne_b_z_3 : b ≠ z_3 := Nat.ne_of_lt (Nat.lt_of_lt_of_le lt3_b gz_3)
  have g_z_3 := gn_3
  have z_z_3 : h0.size ≤ z_3 := Nat.le_trans K.1 gz_3
  have O := O.keep K3 all0
  have K := K.trans K3 all0
  obtain ⟨_, T4, Lc4, X4, hQ4, st4⟩ := own_cS X3 Hb hZ hown hml (L := #[.val (.ref a), .val (.ref b), .val (.int 0), .val (.int 4), .val .null, .val (.ref z_3)]) rfl (rm6_4_8 hw z_3 kz_3 [.int (own_lo xa), .int (own_hi xa), .int (own_lo xb), .int (own_hi xb), .int (own_lo xc), .int (own_hi xc), .int (own_lo xd), .int (own_hi xd)] O V_z_c3) (W 26 rfl) (W 27 rfl) (W 21 rfl) (W 28 rfl) pd6 rfl d2_45 [.ref z_3, .int 4] [.ref a] rfl rfl (by decide) 1 rfl (by decide)
  obtain ⟨rfl, N4q, eh4⟩ := hQ4
  have N4 := Fr.app N3 N4q
  have ne_b_a : b ≠ a := (Ne.symm (Exa.neArv E_a V_b (W 6 rfl)))
  obtain ⟨T5, h5, X5, e5, W5, st5⟩ := putFN X4 hx hZ hown (W 29 rfl) Via.refl eh4 F_c_a E_a (Or.inr ⟨(W 30 rfl), rfl, hnm⟩) (W 6 rfl) (ty := .byte) (v' := (.int 1)) (by decide) rfl rfl (g := (mkF m 48 #[.val (.ref a), .val (.ref b), .val (.int 0), .val (.int 4), .val .null, .val (.ref z_3)] [.int 1, .ref a])) rfl rfl (hb hby d2_48)
  have F_c_a := F_c_a.same W5
  have E_a := E_a.wr W5
  have F_v_a := F_v_a.other W5 (Or.inr (slot_ne (Or.inr (W 32 rfl)) (Or.inr (W 30 rfl)) (by decide) (t := (.array .byte)) (t' := .byte) (by decide) (by decide)))
  have V_b := V_b.other W5 ne_b_a
  have V_z_c3 := V_z_c3.other W5 (Ne.symm ne_a_z_3)
  have O := O.wr W5 g_a
  have K := K.wr W5 (Or.inl (List.mem_of_getElem? (i := 0) rfl))
  have N5 := Fr.snoc X5 N4 g_a
  obtain ⟨T6, h6, X6, e6, W6, st6⟩ := putF X5 hx hZ hown (host := "") (Or.inl (W 31 rfl)) Via.refl e5 F_v_a E_a (Or.inr ⟨(W 32 rfl), rfl, hnm⟩) (W 6 rfl) (ty := (.array .byte)) (by decide) rfl rfl (g := (mkF m 54 #[.val (.ref a), .val (.ref b), .val (.int 0), .val (.int 4), .val .null, .val (.ref z_3)] [.ref z_3, .ref a])) rfl rfl (hb hby d2_54)
  have F_v_a := F_v_a.same W6
  have E_a := E_a.wr W6
  have F_c_a := F_c_a.other W6 (Or.inr (slot_ne (Or.inr (W 30 rfl)) (Or.inr (W 32 rfl)) (by decide) (t := .byte) (t' := (.array .byte)) (by decide) (by decide)))
  have V_b := V_b.other W6 ne_b_a
  have V_z_c3 := V_z_c3.other W6 (Ne.symm ne_a_z_3)
  have O := O.wr W6 g_a
  have K := K.wr W6 (Or.inl (List.mem_of_getElem? (i := 0) rfl))
  have N6 := Fr.snoc X6 N5 g_a
  have w7 : own_Go p e below f0 T6 m 57 #[.val (.ref a), .val (.ref b), .val (.int 0), .val (.int 4), .val .null, .val (.ref z_3)] [] := fun t k => by
    refine pre0 t ?_
    refine zal X0 Hb d2_0 rfl rfl <| st1 _ <| zil X1 Hb d2_4 rfl <| ziy X1 Hb d2_5 ((if0 _ _).trans (feq ((by decide) : ¬ ((4 : Int32) = (0 : Int32)))).2) 27 (by decide) rfl <| st2 _ <| zin X2 Hb d2_30 ((if0 _ _).trans (feq (SU.2.2.2.2.2.2.2.1 : ¬ (zc = (0 : Int32)))).1) <| zal X2 Hb d2_33 rfl rfl <| zil X2 Hb d2_34 rfl ?_
    refine zil X2 Hb d2_35 rfl <| st3 _ <| zaS X3 Hb d2_39 rfl rfl <| zal X3 Hb d2_41 rfl rfl <| zaL X3 Hb d2_42 rfl rfl <| zil X3 Hb d2_44 rfl <| st4 _ <| st5 _ ?_
    refine zal X5 Hb d2_51 rfl rfl <| zaL X5 Hb d2_52 rfl rfl <| st6 _ ?_
    exact k
  exact own_oV X6 Hb Bd.notSynchronized Bd.returns w7 d2_57 e6 (by decide) (by decide) ⟨z_3, kz_3, rfl, N6, K, F_v_a, F_c_a, V_z_c3⟩
theorem rm1_4_1 {l : Launch} {Z : State} {a0 : Array Value} (hw : own_W a0 Z) (a b : Addr) (kc : ClassId) (xa xb xc xd : Int32) {zc : Int32} {fm : Value} {u8 : Addr} {h0 : Heap} {n0 : Nat} (O0 : Old Z n0 h0) (SU : own_SU Z zc fm u8) (E_a : Exa Z h0 a "java/lang/String") (F_v_a : Fld Z h0 a "java/lang/String" "value" "[B" .null) (F_c_a : Fld Z h0 a "java/lang/String" "coder" "B" (.int 0)) (V_b : Arv Z h0 b kc .char (4 : Int32) [.int xa, .int xb, .int xc, .int xd] (.int 0)) (nxa : ¬ (255 : Int32) < xa) (hw_ : (255 : Int32) < xb) (hl_ : own_gc (own_lo xb) (own_hi xb) = xb) (g_a : n0 ≤ a) : own_M l own_n1 jdk_42_method_3_code 2 none (own_rm 5 2 12 74) Z h0 #[.ref a, .ref b] (fun v h L => ∃ t1 : Addr, ∃ kb : ClassId, v = none ∧ Fr n0 L ∧ Keep h0 h [a] ∧ Fld Z h a "java/lang/String" "value" "[B" (.ref t1) ∧ Fld Z h a "java/lang/String" "coder" "B" (.int 1) ∧ Arv Z h t1 kb .byte (8 : Int32) [.int (own_lo xa), .int (own_hi xa), .int (own_lo xb), .int (own_hi xb), .int (own_lo xc), .int (own_hi xc), .int (own_lo xd), .int (own_hi xd)] (.int 0)) := by
  refine own_body (L0 := #[.val (.ref a), .val (.ref b)]) (plainFor_of_name pn_java_lang_String) rfl rfl ?_
  intro p e s m below meth c s₁ f0 Bd hx Hb hml hZ hown X0 e0 pre0
  have W := own_q hw
  have N0 := Fr.nil n0
  have O := O0
  have K := Keep.refl h0 [a]
  have B1 := own_ln V_b
  have ne_b_a : b ≠ a := (Ne.symm (Exa.neArv E_a V_b (W 6 rfl)))
  obtain ⟨_, T2, Lc2, X2, hQ2, st2⟩ := own_cI X0 Hb hZ hown hml (L := #[.val (.ref a), .val (.ref b)]) rfl (rm2_4_1 hw a b kc xa xb xc xd O SU E_a F_v_a F_c_a V_b nxa hw_ hl_ g_a) (W 11 rfl) (W 12 rfl) (W 7 rfl) (W 14 rfl) pd7 e0 d1_6 a [.ref b, .int 0, .int 4, .null] [] rfl rfl (by decide) 0 rfl (by decide)
  obtain ⟨t1_2, kb_2, rfl, N2q, K2, F_v_a_c2, F_c_a_c2, V_t1_c2⟩ := hQ2
  have N2 := Fr.app N0 N2q
  have E_a := E_a.keep K2
  have V_b := V_b.keep K2 (ninS ne_b_a nin0)
  have O := O.keep K2 (allS g_a all0)
  have K := K.trans K2 (allS (Or.inl (List.mem_of_getElem? (i := 0) rfl)) all0)
  have w3 : own_Go p e below f0 T2 m 9 #[.val (.ref a), .val (.ref b)] [] := fun t k => by
    refine pre0 t ?_
    refine zal X0 Hb d1_0 rfl rfl <| zal X0 Hb d1_1 rfl rfl <| zic X0 Hb d1_2 0 rfl <| zal X0 Hb d1_3 rfl rfl <| zal_ X0 Hb hZ e0 B1 d1_4 <| znu X0 Hb d1_5 <| st2 _ ?_
    exact k
  exact own_oV X2 Hb Bd.notSynchronized Bd.returns w3 d1_9 rfl (by decide) (by decide) ⟨t1_2, kb_2, rfl, N2, K, F_v_a_c2, F_c_a_c2, V_t1_c2⟩
theorem d5_44 : decode B5 44 = .ok (.iload 4, 2) := by decide +kernel
theorem d5_46 : decode B5 46 = .ok (.ireturn, 1) := by decide +kernel
theorem rm5_3_3 {l : Launch} {Z : State} {a0 : Array Value} (hw : own_W a0 Z) (b d : Addr) (kc : ClassId) (xa xb xc : Int32) (kd : ClassId) {h0 : Heap} {n0 : Nat} (O0 : Old Z n0 h0) (V_b : Arv Z h0 b kc .char (3 : Int32) [.int xa, .int xb, .int xc] (.int 0)) (V_d : Arv Z h0 d kd .byte (3 : Int32) [.int 0, .int 0, .int 0] (.int 0)) (nbd : b ≠ d) (nxa : ¬ (255 : Int32) < xa) (nxb : ¬ (255 : Int32) < xb) (nxc : ¬ (255 : Int32) < xc) (g_d : n0 ≤ d) : own_M l own_n5 jdk_52_method_21_code 7 (some .int) (own_rm 0 0 0 0) Z h0 #[.ref b, .int 0, .ref d, .int 0, .int 3] (fun v h L => v = some (.int 3) ∧ Fr n0 L ∧ Keep h0 h [d] ∧ Arv Z h d kd .byte (3 : Int32) [.int (own_b xa), .int (own_b xb), .int (own_b xc)] (.int 0)) := by
  refine own_body (L0 := #[.val (.ref b), .val (.int 0), .val (.ref d), .val (.int 0), .val (.int 3), .unset, .unset]) (plainFor_of_name pn_java_lang_StringUTF16) rfl rfl ?_
  intro p e s m below meth c s₁ f0 Bd hx Hb hml hZ hown X0 e0 pre0
  have N0 := Fr.nil n0
  have O := O0
  have K := Keep.refl h0 [d]
  have B1 : own_El Z h0 b .char (0 : Int32) (.int xa) := own_el V_b ⟨by decide, by decide⟩ rfl
  obtain ⟨T2, h2, X2, e2, W2, V_d, st2⟩ := own_sB X0 Hb hZ e0 V_d (j := 0) (x := (xa.toInt8.toInt32)) (L := (own_F1 b (0 : Int32) d (0 : Int32) (3 : Int32) (0 : Int32) xa)) (S := []) (vs' := [(.int ((xa.toInt8.toInt32).toInt8.toInt32)), .int 0, .int 0]) ⟨by decide, by decide⟩ rfl (Nat.le_of_ble_eq_true rfl) d5_31 rfl
  have V_b := V_b.other W2 nbd
  have O := O.wr W2 g_d
  have K := K.wr W2 (Or.inl (List.mem_of_getElem? (i := 0) rfl))
  have N2 := Fr.snoc X2 N0 g_d
  have B3 : own_El Z h2 b .char (1 : Int32) (.int xb) := own_el V_b ⟨by decide, by decide⟩ rfl
  obtain ⟨T4, h4, X4, e4, W4, V_d, st4⟩ := own_sB X2 Hb hZ e2 V_d (j := 1) (x := (xb.toInt8.toInt32)) (L := (own_F1 b (1 : Int32) d (1 : Int32) (3 : Int32) (1 : Int32) xb)) (S := []) (vs' := [(.int ((xa.toInt8.toInt32).toInt8.toInt32)), (.int ((xb.toInt8.toInt32).toInt8.toInt32)), .int 0]) ⟨by decide, by decide⟩ rfl (Nat.le_of_ble_eq_true rfl) d5_31 rfl
  have V_b := V_b.other W4 nbd
  have O := O.wr W4 g_d
  have K := K.wr W4 (Or.inl (List.mem_of_getElem? (i := 0) rfl))
  have N4 := Fr.snoc X4 N2 g_d
  have B5 : own_El Z h4 b .char (2 : Int32) (.int xc) := own_el V_b ⟨by decide, by decide⟩ rfl
  obtain ⟨T6, h6, X6, e6, W6, V_d, st6⟩ := own_sB X4 Hb hZ e4 V_d (j := 2) (x := (xc.toInt8.toInt32)) (L := (own_F1 b (2 : Int32) d (2 : Int32) (3 : Int32) (2 : Int32) xc)) (S := []) (vs' := [(.int ((xa.toInt8.toInt32).toInt8.toInt32)), (.int ((xb.toInt8.toInt32).toInt8.toInt32)), (.int ((xc.toInt8.toInt32).toInt8.toInt32))]) ⟨by decide, by decide⟩ rfl (Nat.le_of_ble_eq_true rfl) d5_31 rfl
  have V_b := V_b.other W6 nbd
  have O := O.wr W6 g_d
  have K := K.wr W6 (Or.inl (List.mem_of_getElem? (i := 0) rfl))
  have N6 := Fr.snoc X6 N4 g_d
  have w7 : own_Go p e below f0 T6 m 46 (own_F1 b (3 : Int32) d (3 : Int32) (3 : Int32) (3 : Int32) xc) [.int 3] := fun t k => by
    refine pre0 t ?_
    refine zic X0 Hb d5_0 0 rfl <| ziS X0 Hb (L' := (own_F0 b (0 : Int32) d (0 : Int32) (3 : Int32) (0 : Int32))) d5_1 rfl <| ziL X0 Hb d5_3 rfl <| ziL X0 Hb d5_5 rfl <| zcn X0 Hb d5_7 (tlt ((by decide) : (0 : Int32) < (3 : Int32))).2.1 <| zal X0 Hb d5_10 rfl rfl <| zil X0 Hb d5_11 rfl <| zca X0 Hb hZ e0 B1 d5_12 ?_
    refine ziS X0 Hb (L' := (own_F1 b (0 : Int32) d (0 : Int32) (3 : Int32) (0 : Int32) xa)) d5_13 rfl <| ziL X0 Hb d5_15 rfl <| zsp X0 Hb d5_17 255 rfl <| zcy X0 Hb d5_20 (flt (nxa : ¬ ((255 : Int32) < xa))).2.2.2 26 (by decide) rfl <| zal X0 Hb d5_26 rfl rfl <| zil X0 Hb d5_27 rfl <| ziL X0 Hb d5_28 rfl <| zib X0 Hb d5_30 ?_
    refine st2 _ <| zii X2 Hb (L' := (own_F1 b (1 : Int32) d (0 : Int32) (3 : Int32) (0 : Int32) xa)) d5_32 rfl 1 rfl rfl <| zii X2 Hb (L' := (own_F1 b (1 : Int32) d (1 : Int32) (3 : Int32) (0 : Int32) xa)) d5_35 rfl 1 rfl rfl <| zii X2 Hb (L' := (own_F1 b (1 : Int32) d (1 : Int32) (3 : Int32) (1 : Int32) xa)) d5_38 rfl 1 rfl rfl <| zgo X2 Hb d5_41 3 (by decide) rfl <| ziL X2 Hb d5_3 rfl <| ziL X2 Hb d5_5 rfl <| zcn X2 Hb d5_7 (tlt ((by decide) : (1 : Int32) < (3 : Int32))).2.1 ?_
    refine zal X2 Hb d5_10 rfl rfl <| zil X2 Hb d5_11 rfl <| zca X2 Hb hZ e2 B3 d5_12 <| ziS X2 Hb (L' := (own_F1 b (1 : Int32) d (1 : Int32) (3 : Int32) (1 : Int32) xb)) d5_13 rfl <| ziL X2 Hb d5_15 rfl <| zsp X2 Hb d5_17 255 rfl <| zcy X2 Hb d5_20 (flt (nxb : ¬ ((255 : Int32) < xb))).2.2.2 26 (by decide) rfl <| zal X2 Hb d5_26 rfl rfl ?_
    refine zil X2 Hb d5_27 rfl <| ziL X2 Hb d5_28 rfl <| zib X2 Hb d5_30 <| st4 _ <| zii X4 Hb (L' := (own_F1 b (2 : Int32) d (1 : Int32) (3 : Int32) (1 : Int32) xb)) d5_32 rfl 2 rfl rfl <| zii X4 Hb (L' := (own_F1 b (2 : Int32) d (2 : Int32) (3 : Int32) (1 : Int32) xb)) d5_35 rfl 2 rfl rfl <| zii X4 Hb (L' := (own_F1 b (2 : Int32) d (2 : Int32) (3 : Int32) (2 : Int32) xb)) d5_38 rfl 2 rfl rfl <| zgo X4 Hb d5_41 3 (by decide) rfl ?_
    refine ziL X4 Hb d5_3 rfl <| ziL X4 Hb d5_5 rfl <| zcn X4 Hb d5_7 (tlt ((by decide) : (2 : Int32) < (3 : Int32))).2.1 <| zal X4 Hb d5_10 rfl rfl <| zil X4 Hb d5_11 rfl <| zca X4 Hb hZ e4 B5 d5_12 <| ziS X4 Hb (L' := (own_F1 b (2 : Int32) d (2 : Int32) (3 : Int32) (2 : Int32) xc)) d5_13 rfl <| ziL X4 Hb d5_15 rfl ?_
    refine zsp X4 Hb d5_17 255 rfl <| zcy X4 Hb d5_20 (flt (nxc : ¬ ((255 : Int32) < xc))).2.2.2 26 (by decide) rfl <| zal X4 Hb d5_26 rfl rfl <| zil X4 Hb d5_27 rfl <| ziL X4 Hb d5_28 rfl <| zib X4 Hb d5_30 <| st6 _ <| zii X6 Hb (L' := (own_F1 b (3 : Int32) d (2 : Int32) (3 : Int32) (2 : Int32) xc)) d5_32 rfl 3 rfl rfl ?_
    refine zii X6 Hb (L' := (own_F1 b (3 : Int32) d (3 : Int32) (3 : Int32) (2 : Int32) xc)) d5_35 rfl 3 rfl rfl <| zii X6 Hb (L' := (own_F1 b (3 : Int32) d (3 : Int32) (3 : Int32) (3 : Int32) xc)) d5_38 rfl 3 rfl rfl <| zgo X6 Hb d5_41 3 (by decide) rfl <| ziL X6 Hb d5_3 rfl <| ziL X6 Hb d5_5 rfl <| zcy X6 Hb d5_7 (flt ((by decide) : ¬ ((3 : Int32) < (3 : Int32)))).2.1 44 (by decide) rfl <| ziL X6 Hb d5_44 rfl ?_
    exact k
  exact own_oI X6 Hb Bd.notSynchronized Bd.returns w7 d5_46 e6 (by decide) (by decide) ⟨rfl, N6, K, V_d⟩
theorem d4_57 : decode B4 57 = .ok (.aload_n 3, 1) := by decide +kernel
theorem d4_58 : decode B4 58 = .ok (.areturn, 1) := by decide +kernel
theorem rm4_3_3 {l : Launch} {Z : State} {a0 : Array Value} (hw : own_W a0 Z) (b : Addr) (kc : ClassId) (xa xb xc : Int32) {h0 : Heap} {n0 : Nat} (O0 : Old Z n0 h0) (V_b : Arv Z h0 b kc .char (3 : Int32) [.int xa, .int xb, .int xc] (.int 0)) (nxa : ¬ (255 : Int32) < xa) (nxb : ¬ (255 : Int32) < xb) (nxc : ¬ (255 : Int32) < xc) : own_M l own_n4 jdk_52_method_16_code 6 (some (.array .byte)) (own_rm 1 1 3 18) Z h0 #[.ref b, .int 0, .int 3] (fun v h L => ∃ z : Addr, ∃ kz : ClassId, v = some (.ref z) ∧ Fr n0 L ∧ Keep h0 h [] ∧ Arv Z h z kz .byte (3 : Int32) [.int (own_b xa), .int (own_b xb), .int (own_b xc)] (.int 0) ∧ h0.size ≤ z ∧ n0 ≤ z) := by
  refine own_body (L0 := #[.val (.ref b), .val (.int 0), .val (.int 3), .unset, .unset, .unset]) (plainFor_of_name pn_java_lang_StringUTF16) rfl rfl ?_
  intro p e s m below meth c s₁ f0 Bd hx Hb hml hZ hown X0 e0 pre0
  have hby := Hb.2
  have W := own_q hw
  have N0 := Fr.nil n0
  have O := O0
  have K := Keep.refl h0 []
  obtain ⟨T1, h1, k1, X1, e1, E1, A1, st1⟩ := newP X0 hx hZ (W 3 rfl) e0 (g := (mkF m 1 #[.val (.ref b), .val (.int 0), .val (.int 3), .unset, .unset, .unset] [.int 3])) rfl (hb hby d4_1) rfl (by decide) (cap := 3) (by decide) (by decide) (by decide) (by decide)
  obtain ⟨b1, gq1⟩ : ∃ z, z = Array.size h0 := ⟨_, rfl⟩
  rw [← gq1] at A1 st1
  have ne_b_b1 : b ≠ b1 := Nat.ne_of_lt (Nat.lt_of_lt_of_le V_b.lt (Nat.le_of_eq gq1.symm))
  have g_b1 : n0 ≤ b1 := Nat.le_trans (O.1 ▸ O.2.1) (Nat.le_of_eq gq1.symm)
  have z_b1 : h0.size ≤ b1 := Nat.le_trans K.1 (Nat.le_of_eq gq1.symm)
  have V_b := V_b.ext E1
  have O := O.ext E1
  have K := K.ext E1
  have V_b1 : Arv Z h1 b1 k1 .byte (3 : Int32) [.int 0, .int 0, .int 0] (.int 0) := (Arv.new A1 (by decide)).pad (pad_rep [] (.int 0) 3)
  obtain ⟨_, T2, Lc2, X2, hQ2, st2⟩ := own_cS X1 Hb hZ hown hml (L := #[.val (.ref b), .val (.int 0), .val (.int 3), .val (.ref b1), .unset, .unset]) rfl (rm5_3_3 hw b b1 kc xa xb xc k1 O V_b V_b1 ne_b_b1 nxa nxb nxc g_b1) (W 23 rfl) (W 24 rfl) (W 21 rfl) (W 25 rfl) pd3 e1 d4_9 [.ref b, .int 0, .ref b1, .int 0, .int 3] [] rfl rfl (by decide) 0 rfl (by decide)
  obtain ⟨rfl, N2q, K2, V_d_c2⟩ := hQ2
  have N2 := Fr.app N0 N2q
  have V_b := V_b.keep K2 (ninS ne_b_b1 nin0)
  have O := O.keep K2 (allS g_b1 all0)
  have K := K.trans K2 (allS (Or.inr z_b1) all0)
  have w3 : own_Go p e below f0 T2 m 58 #[.val (.ref b), .val (.int 0), .val (.int 3), .val (.ref b1), .val (.int 3), .unset] [.ref b1] := fun t k => by
    refine pre0 t ?_
    refine zil X0 Hb d4_0 rfl <| st1 _ <| zas X1 Hb (L' := #[.val (.ref b), .val (.int 0), .val (.int 3), .val (.ref b1), .unset, .unset]) d4_3 rfl rfl <| zal X1 Hb d4_4 rfl rfl <| zil X1 Hb d4_5 rfl <| zal X1 Hb d4_6 rfl rfl <| zic X1 Hb d4_7 0 rfl <| zil X1 Hb d4_8 rfl ?_
    refine st2 _ <| ziS X2 Hb d4_12 rfl <| ziL X2 Hb d4_14 rfl <| zil X2 Hb d4_16 rfl <| zcy X2 Hb d4_17 (teq (rfl : (3 : Int32) = (3 : Int32))).1 57 (by decide) rfl <| zal X2 Hb d4_57 rfl rfl ?_
    exact k
  exact own_oR X2 Hb Bd.notSynchronized Bd.returns rfl w3 d4_58 rfl (by decide) (by decide) ⟨b1, k1, rfl, N2, K, V_d_c2, z_b1, g_b1⟩
theorem rm2_3_3 {l : Launch} {Z : State} {a0 : Array Value} (hw : own_W a0 Z) (a b : Addr) (kc : ClassId) (xa xb xc : Int32) {zc : Int32} {fm : Value} {u8 : Addr} {h0 : Heap} {n0 : Nat} (O0 : Old Z n0 h0) (SU : own_SU Z zc fm u8) (E_a : Exa Z h0 a "java/lang/String") (F_v_a : Fld Z h0 a "java/lang/String" "value" "[B" .null) (F_c_a : Fld Z h0 a "java/lang/String" "coder" "B" (.int 0)) (V_b : Arv Z h0 b kc .char (3 : Int32) [.int xa, .int xb, .int xc] (.int 0)) (nxa : ¬ (255 : Int32) < xa) (nxb : ¬ (255 : Int32) < xb) (nxc : ¬ (255 : Int32) < xc) (g_a : n0 ≤ a) : own_M l own_n2 jdk_42_method_149_code 6 none (own_rm 2 1 3 35) Z h0 #[.ref a, .ref b, .int 0, .int 3, .null] (fun v h L => ∃ t1 : Addr, ∃ kb : ClassId, v = none ∧ Fr n0 L ∧ Keep h0 h [a] ∧ Fld Z h a "java/lang/String" "value" "[B" (.ref t1) ∧ Fld Z h a "java/lang/String" "coder" "B" (.int 0) ∧ Arv Z h t1 kb .byte (3 : Int32) [.int (own_b xa), .int (own_b xb), .int (own_b xc)] (.int 0)) := by
  refine own_body (L0 := #[.val (.ref a), .val (.ref b), .val (.int 0), .val (.int 3), .val .null, .unset]) (plainFor_of_name pn_java_lang_String) rfl rfl ?_
  intro p e s m below meth c s₁ f0 Bd hx Hb hml hZ hown X0 e0 pre0
  have hby := Hb.2
  have hnm := (name_of_methodNamed Bd.named Bd.method).1
  have W := own_q hw
  have N0 := Fr.nil n0
  have O := O0
  have K := Keep.refl h0 [a]
  obtain ⟨T1, X1, e1, st1⟩ := initO X0 hx hZ hown (W 15 rfl) (W 16 rfl) (W 17 rfl) e0 (g := (mkF m 1 #[.val (.ref a), .val (.ref b), .val (.int 0), .val (.int 3), .val .null, .unset] [.ref a])) rfl (by rw [hml]; rfl) rfl (hb hby d2_1) (by decide) (W := 0) (by show 2 * 0 + _ ≤ _; exact Nat.le_of_eq rfl) (by decide)
  obtain ⟨T2, X2, e2, st2⟩ := getS2 X1 hx hZ hown (host := "") (Or.inl (W 18 rfl)) Via.refl e1 (SU.2.2.2.1.ext O.2) (g := (mkF m 27 #[.val (.ref a), .val (.ref b), .val (.int 0), .val (.int 3), .val .null, .unset] [])) rfl (hb hby d2_27)
  have lt3_a := E_a.lt
  have lt3_b := V_b.lt
  obtain ⟨_, T3, Lc3, X3, hQ3, st3⟩ := own_cS X2 Hb hZ hown hml (L := #[.val (.ref a), .val (.ref b), .val (.int 0), .val (.int 3), .val .null, .unset]) rfl (rm4_3_3 hw b kc xa xb xc O V_b nxa nxb nxc) (W 19 rfl) (W 20 rfl) (W 21 rfl) (W 22 rfl) pd4 e2 d2_36 [.ref b, .int 0, .int 3] [] rfl rfl (by decide) 0 rfl (by decide)
  obtain ⟨z_3, kz_3, rfl, N3q, K3, V_z_c3, gz_3, gn_3⟩ := hQ3
  have N3 := Fr.app N0 N3q
  have E_a := E_a.keep K3
  have F_v_a := F_v_a.keep K3 nin0
  have F_c_a := F_c_a.keep K3 nin0
  have V_b := V_b.keep K3 nin0
  have ne_a_z_3 : a ≠ z_3 := Nat.ne_of_lt (Nat.lt_of_lt_of_le lt3_a gz_3)
  have ne_b_z_3 : b ≠ z_3 := Nat.ne_of_lt (Nat.lt_of_lt_of_le lt3_b gz_3)
  have g_z_3 := gn_3
  have z_z_3 : h0.size ≤ z_3 := Nat.le_trans K.1 gz_3
  have O := O.keep K3 all0
  have K := K.trans K3 all0
  obtain ⟨_, T4, Lc4, X4, hQ4, st4⟩ := own_cS X3 Hb hZ hown hml (L := #[.val (.ref a), .val (.ref b), .val (.int 0), .val (.int 3), .val .null, .val (.ref z_3)]) rfl (rm6_3_3 hw z_3 kz_3 [.int (own_b xa), .int (own_b xb), .int (own_b xc)] O V_z_c3) (W 26 rfl) (W 27 rfl) (W 21 rfl) (W 28 rfl) pd6 rfl d2_45 [.ref z_3, .int 3] [.ref a] rfl rfl (by decide) 1 rfl (by decide)
  obtain ⟨rfl, N4q, eh4⟩ := hQ4
  have N4 := Fr.app N3 N4q
  have ne_b_a : b ≠ a := (Ne.symm (Exa.neArv E_a V_b (W 6 rfl)))
  obtain ⟨T5, h5, X5, e5, W5, st5⟩ := putFN X4 hx hZ hown (W 29 rfl) Via.refl eh4 F_c_a E_a (Or.inr ⟨(W 30 rfl), rfl, hnm⟩) (W 6 rfl) (ty := .byte) (v' := (.int 0)) (by decide) rfl rfl (g := (mkF m 48 #[.val (.ref a), .val (.ref b), .val (.int 0), .val (.int 3), .val .null, .val (.ref z_3)] [.int 0, .ref a])) rfl rfl (hb hby d2_48)
  have F_c_a := F_c_a.same W5
  have E_a := E_a.wr W5
  have F_v_a := F_v_a.other W5 (Or.inr (slot_ne (Or.inr (W 32 rfl)) (Or.inr (W 30 rfl)) (by decide) (t := (.array .byte)) (t' := .byte) (by decide) (by decide)))
  have V_b := V_b.other W5 ne_b_a
  have V_z_c3 := V_z_c3.other W5 (Ne.symm ne_a_z_3)
  have O := O.wr W5 g_a
  have K := K.wr W5 (Or.inl (List.mem_of_getElem? (i := 0) rfl))
  have N5 := Fr.snoc X5 N4 g_a
  obtain ⟨T6, h6, X6, e6, W6, st6⟩ := putF X5 hx hZ hown (host := "") (Or.inl (W 31 rfl)) Via.refl e5 F_v_a E_a (Or.inr ⟨(W 32 rfl), rfl, hnm⟩) (W 6 rfl) (ty := (.array .byte)) (by decide) rfl rfl (g := (mkF m 54 #[.val (.ref a), .val (.ref b), .val (.int 0), .val (.int 3), .val .null, .val (.ref z_3)] [.ref z_3, .ref a])) rfl rfl (hb hby d2_54)
  have F_v_a := F_v_a.same W6
  have E_a := E_a.wr W6
  have F_c_a := F_c_a.other W6 (Or.inr (slot_ne (Or.inr (W 30 rfl)) (Or.inr (W 32 rfl)) (by decide) (t := .byte) (t' := (.array .byte)) (by decide) (by decide)))
  have V_b := V_b.other W6 ne_b_a
  have V_z_c3 := V_z_c3.other W6 (Ne.symm ne_a_z_3)
  have O := O.wr W6 g_a
  have K := K.wr W6 (Or.inl (List.mem_of_getElem? (i := 0) rfl))
  have N6 := Fr.snoc X6 N5 g_a
  have w7 : own_Go p e below f0 T6 m 57 #[.val (.ref a), .val (.ref b), .val (.int 0), .val (.int 3), .val .null, .val (.ref z_3)] [] := fun t k => by
    refine pre0 t ?_
    refine zal X0 Hb d2_0 rfl rfl <| st1 _ <| zil X1 Hb d2_4 rfl <| ziy X1 Hb d2_5 ((if0 _ _).trans (feq ((by decide) : ¬ ((3 : Int32) = (0 : Int32)))).2) 27 (by decide) rfl <| st2 _ <| zin X2 Hb d2_30 ((if0 _ _).trans (feq (SU.2.2.2.2.2.2.2.1 : ¬ (zc = (0 : Int32)))).1) <| zal X2 Hb d2_33 rfl rfl <| zil X2 Hb d2_34 rfl ?_
    refine zil X2 Hb d2_35 rfl <| st3 _ <| zaS X3 Hb d2_39 rfl rfl <| zal X3 Hb d2_41 rfl rfl <| zaL X3 Hb d2_42 rfl rfl <| zil X3 Hb d2_44 rfl <| st4 _ <| st5 _ ?_
    refine zal X5 Hb d2_51 rfl rfl <| zaL X5 Hb d2_52 rfl rfl <| st6 _ ?_
    exact k
  exact own_oV X6 Hb Bd.notSynchronized Bd.returns w7 d2_57 e6 (by decide) (by decide) ⟨z_3, kz_3, rfl, N6, K, F_v_a, F_c_a, V_z_c3⟩
theorem rm1_3_3 {l : Launch} {Z : State} {a0 : Array Value} (hw : own_W a0 Z) (a b : Addr) (kc : ClassId) (xa xb xc : Int32) {zc : Int32} {fm : Value} {u8 : Addr} {h0 : Heap} {n0 : Nat} (O0 : Old Z n0 h0) (SU : own_SU Z zc fm u8) (E_a : Exa Z h0 a "java/lang/String") (F_v_a : Fld Z h0 a "java/lang/String" "value" "[B" .null) (F_c_a : Fld Z h0 a "java/lang/String" "coder" "B" (.int 0)) (V_b : Arv Z h0 b kc .char (3 : Int32) [.int xa, .int xb, .int xc] (.int 0)) (nxa : ¬ (255 : Int32) < xa) (nxb : ¬ (255 : Int32) < xb) (nxc : ¬ (255 : Int32) < xc) (g_a : n0 ≤ a) : own_M l own_n1 jdk_42_method_3_code 2 none (own_rm 3 1 3 52) Z h0 #[.ref a, .ref b] (fun v h L => ∃ t1 : Addr, ∃ kb : ClassId, v = none ∧ Fr n0 L ∧ Keep h0 h [a] ∧ Fld Z h a "java/lang/String" "value" "[B" (.ref t1) ∧ Fld Z h a "java/lang/String" "coder" "B" (.int 0) ∧ Arv Z h t1 kb .byte (3 : Int32) [.int (own_b xa), .int (own_b xb), .int (own_b xc)] (.int 0)) := by
  refine own_body (L0 := #[.val (.ref a), .val (.ref b)]) (plainFor_of_name pn_java_lang_String) rfl rfl ?_
  intro p e s m below meth c s₁ f0 Bd hx Hb hml hZ hown X0 e0 pre0
  have W := own_q hw
  have N0 := Fr.nil n0
  have O := O0
  have K := Keep.refl h0 [a]
  have B1 := own_ln V_b
  have ne_b_a : b ≠ a := (Ne.symm (Exa.neArv E_a V_b (W 6 rfl)))
  obtain ⟨_, T2, Lc2, X2, hQ2, st2⟩ := own_cI X0 Hb hZ hown hml (L := #[.val (.ref a), .val (.ref b)]) rfl (rm2_3_3 hw a b kc xa xb xc O SU E_a F_v_a F_c_a V_b nxa nxb nxc g_a) (W 11 rfl) (W 12 rfl) (W 7 rfl) (W 14 rfl) pd7 e0 d1_6 a [.ref b, .int 0, .int 3, .null] [] rfl rfl (by decide) 0 rfl (by decide)
  obtain ⟨t1_2, kb_2, rfl, N2q, K2, F_v_a_c2, F_c_a_c2, V_t1_c2⟩ := hQ2
  have N2 := Fr.app N0 N2q
  have E_a := E_a.keep K2
  have V_b := V_b.keep K2 (ninS ne_b_a nin0)
  have O := O.keep K2 (allS g_a all0)
  have K := K.trans K2 (allS (Or.inl (List.mem_of_getElem? (i := 0) rfl)) all0)
  have w3 : own_Go p e below f0 T2 m 9 #[.val (.ref a), .val (.ref b)] [] := fun t k => by
    refine pre0 t ?_
    refine zal X0 Hb d1_0 rfl rfl <| zal X0 Hb d1_1 rfl rfl <| zic X0 Hb d1_2 0 rfl <| zal X0 Hb d1_3 rfl rfl <| zal_ X0 Hb hZ e0 B1 d1_4 <| znu X0 Hb d1_5 <| st2 _ ?_
    exact k
  exact own_oV X2 Hb Bd.notSynchronized Bd.returns w3 d1_9 rfl (by decide) (by decide) ⟨t1_2, kb_2, rfl, N2, K, F_v_a_c2, F_c_a_c2, V_t1_c2⟩
abbrev B13 := jdk_65_method_132_code
theorem d13_0 : decode B13 0 = .ok (.iload_n 1, 1) := by decide +kernel
theorem d13_1 : decode B13 1 = .ok (.ifCond .ne 9, 3) := by decide +kernel
theorem d13_4 : decode B13 4 = .ok (.iload_n 2, 1) := by decide +kernel
theorem d13_5 : decode B13 5 = .ok (.aload_n 0, 1) := by decide +kernel
theorem d13_6 : decode B13 6 = .ok (.arraylength, 1) := by decide +kernel
theorem d13_7 : decode B13 7 = .ok (.if_icmp .eq 10, 3) := by decide +kernel
theorem d13_17 : decode B13 17 = .ok (.aload_n 0, 1) := by decide +kernel
theorem d13_18 : decode B13 18 = .ok (.invokevirtual 310, 3) := by decide +kernel
theorem d13_21 : decode B13 21 = .ok (.checkcast 311, 3) := by decide +kernel
theorem d13_24 : decode B13 24 = .ok (.areturn, 1) := by decide +kernel
theorem pn_java_util_Arrays : plainName "java/util/Arrays" = true := by first | (simp [plainName, overriddenIn]; done) | decide +kernel
theorem rm13 {l : Launch} {Z : State} {a0 : Array Value} (hw : own_W a0 Z) (b : Addr) (nn : Int32) (kb : ClassId) (vv : List Value) {h0 : Heap} {n0 : Nat} (O0 : Old Z n0 h0) (V_b : Arv Z h0 b kb .byte nn vv (.int 0)) (E_b : Exa Z h0 b "[B") (hcap : nn.toNatClampNeg ≤ 6) : own_M l own_n13 jdk_65_method_132_code 3 (some (.array .byte)) (own_rm 1 1 6 14) Z h0 #[.ref b, .int 0, .int nn] (fun v h L => ∃ z : Addr, v = some (.ref z) ∧ Fr n0 L ∧ Keep h0 h [] ∧ Arv Z h z kb .byte nn vv (.int 0) ∧ Exa Z h z "[B" ∧ h0.size ≤ z ∧ n0 ≤ z) := by
  refine own_body (L0 := #[.val (.ref b), .val (.int 0), .val (.int nn)]) (plainFor_of_name pn_java_util_Arrays) rfl rfl ?_
  intro p e s m below meth c s₁ f0 Bd hx Hb hml hZ hown X0 e0 pre0
  have hby := Hb.2
  have W := own_q hw
  have N0 := Fr.nil n0
  have O := O0
  have K := Keep.refl h0 []
  have B1 := own_ln V_b
  obtain ⟨T2, h2, X2, e2, E2, V_b2, A2, st2⟩ := cloneH X0 hx hZ hown (W 77 rfl) (W 78 rfl) (W 82 rfl) (W 80 rfl) (W 81 rfl) (W 83 rfl) e0 V_b.arh E_b (g := (mkF m 18 #[.val (.ref b), .val (.int 0), .val (.int nn)] [.ref b])) rfl (by rw [hml]; rfl) rfl (hb hby d13_18) (by decide) (W := 0) (cap := 6) (by show 2 * 0 + _ ≤ _; exact Nat.le_of_eq rfl) (by decide) hcap (by decide) (by decide)
  obtain ⟨b2, gq2⟩ : ∃ z, z = Array.size h0 := ⟨_, rfl⟩
  rw [← gq2] at A2 V_b2 st2
  have ne_b_b2 : b ≠ b2 := Nat.ne_of_lt (Nat.lt_of_lt_of_le V_b.lt (Nat.le_of_eq gq2.symm))
  have g_b2 : n0 ≤ b2 := Nat.le_trans (O.1 ▸ O.2.1) (Nat.le_of_eq gq2.symm)
  have z_b2 : h0.size ≤ b2 := Nat.le_trans K.1 (Nat.le_of_eq gq2.symm)
  have V_b := V_b.ext E2
  have E_b := E_b.ext E2
  have O := O.ext E2
  have K := K.ext E2
  have V_b2 : Arv Z h2 b2 kb .byte nn vv (.int 0) := V_b2
  obtain ⟨T3, X3, e3, st3⟩ := castY X2 hx hZ hown (W 84 rfl) e2 (Ins.self A2) (g := (mkF m 21 #[.val (.ref b), .val (.int 0), .val (.int nn)] [.ref b2])) rfl rfl (hb hby d13_21)
  have w4 : own_Go p e below f0 T3 m 24 #[.val (.ref b), .val (.int 0), .val (.int nn)] [.ref b2] := fun t k => by
    refine pre0 t ?_
    refine zil X0 Hb d13_0 rfl <| zin X0 Hb d13_1 ((if0 _ _).trans (teq (rfl : (0 : Int32) = (0 : Int32))).2) <| zil X0 Hb d13_4 rfl <| zal X0 Hb d13_5 rfl rfl <| zal_ X0 Hb hZ e0 B1 d13_6 <| zcy X0 Hb d13_7 (teq (rfl : nn = nn)).1 17 (by decide) rfl <| zal X0 Hb d13_17 rfl rfl <| st2 _ ?_
    refine st3 _ ?_
    exact k
  exact own_oR X3 Hb Bd.notSynchronized Bd.returns rfl w4 d13_24 e3 (by decide) (by decide) ⟨b2, rfl, N0, K, V_b2, A2, z_b2, g_b2⟩
abbrev B34 := jdk_29_method_69_code
theorem d34_0 : decode B34 0 = .ok (.iload_n 0, 1) := by decide +kernel
theorem d34_1 : decode B34 1 = .ok (.iload_n 1, 1) := by decide +kernel
theorem d34_2 : decode B34 2 = .ok (.if_icmp .gt 7, 3) := by decide +kernel
theorem d34_9 : decode B34 9 = .ok (.iload_n 1, 1) := by decide +kernel
theorem d34_10 : decode B34 10 = .ok (.ireturn, 1) := by decide +kernel
theorem rm34_4_3 {l : Launch} {Z : State} {a0 : Array Value} (hw : own_W a0 Z) {h0 : Heap} {n0 : Nat} (O0 : Old Z n0 h0) : own_M l own_n34 jdk_29_method_69_code 2 (some .int) (own_rm 0 0 0 0) Z h0 #[.int 4, .int 3] (fun v h L => v = some (.int 3) ∧ Fr n0 L ∧ h = h0) := by
  refine own_body (L0 := #[.val (.int 4), .val (.int 3)]) (Jvm.Free.JP.mathPlain rfl (by decide +kernel)) rfl rfl ?_
  intro p e s m below meth c s₁ f0 Bd hx Hb hml hZ hown X0 e0 pre0
  have N0 := Fr.nil n0
  have O := O0
  have w1 : own_Go p e below f0 s₁ m 10 #[.val (.int 4), .val (.int 3)] [.int 3] := fun t k => by
    refine pre0 t ?_
    refine zil X0 Hb d34_0 rfl <| zil X0 Hb d34_1 rfl <| zcy X0 Hb d34_2 (tlt ((by decide) : (3 : Int32) < (4 : Int32))).2.2.1 9 (by decide) rfl <| zil X0 Hb d34_9 rfl ?_
    exact k
  exact own_oI X0 Hb Bd.notSynchronized Bd.returns w1 d34_10 e0 (by decide) (by decide) ⟨rfl, N0, rfl⟩
abbrev B33 := jdk_65_method_121_code
theorem d33_0 : decode B33 0 = .ok (.iload_n 1, 1) := by decide +kernel
theorem d33_1 : decode B33 1 = .ok (.aload_n 0, 1) := by decide +kernel
theorem d33_2 : decode B33 2 = .ok (.arraylength, 1) := by decide +kernel
theorem d33_3 : decode B33 3 = .ok (.if_icmp .ne 11, 3) := by decide +kernel
theorem d33_14 : decode B33 14 = .ok (.iload_n 1, 1) := by decide +kernel
theorem d33_15 : decode B33 15 = .ok (.newarray .byte, 2) := by decide +kernel
theorem d33_17 : decode B33 17 = .ok (.astore_n 2, 1) := by decide +kernel
theorem d33_18 : decode B33 18 = .ok (.aload_n 0, 1) := by decide +kernel
theorem d33_19 : decode B33 19 = .ok (.iconst 0, 1) := by decide +kernel
theorem d33_20 : decode B33 20 = .ok (.aload_n 2, 1) := by decide +kernel
theorem d33_21 : decode B33 21 = .ok (.iconst 0, 1) := by decide +kernel
theorem d33_22 : decode B33 22 = .ok (.aload_n 0, 1) := by decide +kernel
theorem d33_23 : decode B33 23 = .ok (.arraylength, 1) := by decide +kernel
theorem d33_24 : decode B33 24 = .ok (.iload_n 1, 1) := by decide +kernel
theorem d33_25 : decode B33 25 = .ok (.invokestatic 304, 3) := by decide +kernel
theorem pd8 : parseMethodDescriptor "(II)I" = some ⟨[.int, .int], some .int⟩ := by decide +kernel
theorem d33_28 : decode B33 28 = .ok (.invokestatic 150, 3) := by decide +kernel
theorem d33_31 : decode B33 31 = .ok (.aload_n 2, 1) := by decide +kernel
theorem d33_32 : decode B33 32 = .ok (.areturn, 1) := by decide +kernel
theorem rm33_4_3 {l : Launch} {Z : State} {a0 : Array Value} (hw : own_W a0 Z) (b : Addr) (kc : ClassId) (ua ub uc ud : Int32) {h0 : Heap} {n0 : Nat} (O0 : Old Z n0 h0) (V_b : Arv Z h0 b kc .byte (4 : Int32) [.int ua, .int ub, .int uc, .int ud] (.int 0)) : own_M l own_n33 jdk_65_method_121_code 3 (some (.array .byte)) (own_rm 1 1 3 40) Z h0 #[.ref b, .int 3] (fun v h L => ∃ z : Addr, ∃ kz : ClassId, v = some (.ref z) ∧ Fr n0 L ∧ Keep h0 h [] ∧ Arv Z h z kz .byte (3 : Int32) [.int ua, .int ub, .int uc] (.int 0) ∧ h0.size ≤ z ∧ n0 ≤ z) := by
  refine own_body (L0 := #[.val (.ref b), .val (.int 3), .unset]) (plainFor_of_name pn_java_util_Arrays) rfl rfl ?_
  intro p e s m below meth c s₁ f0 Bd hx Hb hml hZ hown X0 e0 pre0
  have hby := Hb.2
  have W := own_q hw
  have N0 := Fr.nil n0
  have O := O0
  have K := Keep.refl h0 []
  have B1 := own_ln V_b
  obtain ⟨T2, h2, k2, X2, e2, E2, A2, st2⟩ := newP X0 hx hZ (W 3 rfl) e0 (g := (mkF m 15 #[.val (.ref b), .val (.int 3), .unset] [.int 3])) rfl (hb hby d33_15) rfl (by decide) (cap := 3) (by decide) (by decide) (by decide) (by decide)
  obtain ⟨b2, gq2⟩ : ∃ z, z = Array.size h0 := ⟨_, rfl⟩
  rw [← gq2] at A2 st2
  have ne_b_b2 : b ≠ b2 := Nat.ne_of_lt (Nat.lt_of_lt_of_le V_b.lt (Nat.le_of_eq gq2.symm))
  have g_b2 : n0 ≤ b2 := Nat.le_trans (O.1 ▸ O.2.1) (Nat.le_of_eq gq2.symm)
  have z_b2 : h0.size ≤ b2 := Nat.le_trans K.1 (Nat.le_of_eq gq2.symm)
  have V_b := V_b.ext E2
  have O := O.ext E2
  have K := K.ext E2
  have V_b2 : Arv Z h2 b2 k2 .byte (3 : Int32) [.int 0, .int 0, .int 0] (.int 0) := (Arv.new A2 (by decide)).pad (pad_rep [] (.int 0) 3)
  have B3 := own_ln V_b
  obtain ⟨_, T4, Lc4, X4, hQ4, st4⟩ := own_cS X2 Hb hZ hown hml (L := #[.val (.ref b), .val (.int 3), .val (.ref b2)]) rfl (rm34_4_3 hw  O ) (W 169 rfl) (W 170 rfl) (W 171 rfl) (W 172 rfl) pd8 e2 d33_25 [.int 4, .int 3] [.int 0, .ref b2, .int 0, .ref b] rfl rfl (by decide) 4 rfl (by decide)
  obtain ⟨rfl, N4q, eh4⟩ := hQ4
  have N4 := Fr.app N0 N4q
  obtain ⟨T5, h5, L5, X5, e5, N5, K5, V5, st5⟩ := cpA X4 hx hZ hown (W 173 rfl) (W 176 rfl) (W 174 rfl) (W 175 rfl) eh4 V_b V_b2 (Or.inl ⟨rfl, rfl⟩) (sp := (0 : Int32)) (dp := (0 : Int32)) (nn := (3 : Int32)) (us := [.int ua, .int ub, .int uc]) (by decide) (by decide) (by decide) (by decide) (by decide) rfl (Nat.le_of_ble_eq_true rfl) N4 g_b2 (g := (mkF m 28 #[.val (.ref b), .val (.int 3), .val (.ref b2)] [.int 3, .int 0, .ref b2, .int 0, .ref b])) rfl (by rw [hml]; rfl) rfl (hb hby d33_28) (by decide) (W := 0) (by show 2 * 0 + _ ≤ _; exact Nat.le_of_eq rfl) (by decide)
  have V_b := V_b.keep K5 (ninS ne_b_b2 nin0)
  have V_b2_c5 : Arv Z h5 b2 k2 .byte (3 : Int32) [.int ua, .int ub, .int uc] (.int 0) := V5
  have O := O.keep K5 (allS g_b2 all0)
  have K := K.trans K5 (allS (Or.inr z_b2) all0)
  have w6 : own_Go p e below f0 T5 m 32 #[.val (.ref b), .val (.int 3), .val (.ref b2)] [.ref b2] := fun t k => by
    refine pre0 t ?_
    refine zil X0 Hb d33_0 rfl <| zal X0 Hb d33_1 rfl rfl <| zal_ X0 Hb hZ e0 B1 d33_2 <| zcy X0 Hb d33_3 (feq ((by decide) : ¬ ((3 : Int32) = (4 : Int32)))).2 14 (by decide) rfl <| zil X0 Hb d33_14 rfl <| st2 _ <| zas X2 Hb (L' := #[.val (.ref b), .val (.int 3), .val (.ref b2)]) d33_17 rfl rfl <| zal X2 Hb d33_18 rfl rfl ?_
    refine zic X2 Hb d33_19 0 rfl <| zal X2 Hb d33_20 rfl rfl <| zic X2 Hb d33_21 0 rfl <| zal X2 Hb d33_22 rfl rfl <| zal_ X2 Hb hZ e2 B3 d33_23 <| zil X2 Hb d33_24 rfl <| st4 _ <| st5 _ ?_
    refine zal X5 Hb d33_31 rfl rfl ?_
    exact k
  exact own_oR X5 Hb Bd.notSynchronized Bd.returns rfl w6 d33_32 e5 (by decide) (by decide) ⟨b2, k2, rfl, N5, K, V_b2_c5, z_b2, g_b2⟩
theorem rm34_8_6 {l : Launch} {Z : State} {a0 : Array Value} (hw : own_W a0 Z) {h0 : Heap} {n0 : Nat} (O0 : Old Z n0 h0) : own_M l own_n34 jdk_29_method_69_code 2 (some .int) (own_rm 0 0 0 0) Z h0 #[.int 8, .int 6] (fun v h L => v = some (.int 6) ∧ Fr n0 L ∧ h = h0) := by
  refine own_body (L0 := #[.val (.int 8), .val (.int 6)]) (Jvm.Free.JP.mathPlain rfl (by decide +kernel)) rfl rfl ?_
  intro p e s m below meth c s₁ f0 Bd hx Hb hml hZ hown X0 e0 pre0
  have N0 := Fr.nil n0
  have O := O0
  have w1 : own_Go p e below f0 s₁ m 10 #[.val (.int 8), .val (.int 6)] [.int 6] := fun t k => by
    refine pre0 t ?_
    refine zil X0 Hb d34_0 rfl <| zil X0 Hb d34_1 rfl <| zcy X0 Hb d34_2 (tlt ((by decide) : (6 : Int32) < (8 : Int32))).2.2.1 9 (by decide) rfl <| zil X0 Hb d34_9 rfl ?_
    exact k
  exact own_oI X0 Hb Bd.notSynchronized Bd.returns w1 d34_10 e0 (by decide) (by decide) ⟨rfl, N0, rfl⟩
theorem rm33_8_6 {l : Launch} {Z : State} {a0 : Array Value} (hw : own_W a0 Z) (b : Addr) (kc : ClassId) (ua ub uc ud ue uf ug uh : Int32) {h0 : Heap} {n0 : Nat} (O0 : Old Z n0 h0) (V_b : Arv Z h0 b kc .byte (8 : Int32) [.int ua, .int ub, .int uc, .int ud, .int ue, .int uf, .int ug, .int uh] (.int 0)) : own_M l own_n33 jdk_65_method_121_code 3 (some (.array .byte)) (own_rm 1 1 6 40) Z h0 #[.ref b, .int 6] (fun v h L => ∃ z : Addr, ∃ kz : ClassId, v = some (.ref z) ∧ Fr n0 L ∧ Keep h0 h [] ∧ Arv Z h z kz .byte (6 : Int32) [.int ua, .int ub, .int uc, .int ud, .int ue, .int uf] (.int 0) ∧ h0.size ≤ z ∧ n0 ≤ z) := by
  refine own_body (L0 := #[.val (.ref b), .val (.int 6), .unset]) (plainFor_of_name pn_java_util_Arrays) rfl rfl ?_
  intro p e s m below meth c s₁ f0 Bd hx Hb hml hZ hown X0 e0 pre0
  have hby := Hb.2
  have W := own_q hw
  have N0 := Fr.nil n0
  have O := O0
  have K := Keep.refl h0 []
  have B1 := own_ln V_b
  obtain ⟨T2, h2, k2, X2, e2, E2, A2, st2⟩ := newP X0 hx hZ (W 3 rfl) e0 (g := (mkF m 15 #[.val (.ref b), .val (.int 6), .unset] [.int 6])) rfl (hb hby d33_15) rfl (by decide) (cap := 6) (by decide) (by decide) (by decide) (by decide)
  obtain ⟨b2, gq2⟩ : ∃ z, z = Array.size h0 := ⟨_, rfl⟩
  rw [← gq2] at A2 st2
  have ne_b_b2 : b ≠ b2 := Nat.ne_of_lt (Nat.lt_of_lt_of_le V_b.lt (Nat.le_of_eq gq2.symm))
  have g_b2 : n0 ≤ b2 := Nat.le_trans (O.1 ▸ O.2.1) (Nat.le_of_eq gq2.symm)
  have z_b2 : h0.size ≤ b2 := Nat.le_trans K.1 (Nat.le_of_eq gq2.symm)
  have V_b := V_b.ext E2
  have O := O.ext E2
  have K := K.ext E2
  have V_b2 : Arv Z h2 b2 k2 .byte (6 : Int32) [.int 0, .int 0, .int 0, .int 0, .int 0, .int 0] (.int 0) := (Arv.new A2 (by decide)).pad (pad_rep [] (.int 0) 6)
  have B3 := own_ln V_b
  obtain ⟨_, T4, Lc4, X4, hQ4, st4⟩ := own_cS X2 Hb hZ hown hml (L := #[.val (.ref b), .val (.int 6), .val (.ref b2)]) rfl (rm34_8_6 hw  O ) (W 169 rfl) (W 170 rfl) (W 171 rfl) (W 172 rfl) pd8 e2 d33_25 [.int 8, .int 6] [.int 0, .ref b2, .int 0, .ref b] rfl rfl (by decide) 4 rfl (by decide)
  obtain ⟨rfl, N4q, eh4⟩ := hQ4
  have N4 := Fr.app N0 N4q
  obtain ⟨T5, h5, L5, X5, e5, N5, K5, V5, st5⟩ := cpA X4 hx hZ hown (W 173 rfl) (W 176 rfl) (W 174 rfl) (W 175 rfl) eh4 V_b V_b2 (Or.inl ⟨rfl, rfl⟩) (sp := (0 : Int32)) (dp := (0 : Int32)) (nn := (6 : Int32)) (us := [.int ua, .int ub, .int uc, .int ud, .int ue, .int uf]) (by decide) (by decide) (by decide) (by decide) (by decide) rfl (Nat.le_of_ble_eq_true rfl) N4 g_b2 (g := (mkF m 28 #[.val (.ref b), .val (.int 6), .val (.ref b2)] [.int 6, .int 0, .ref b2, .int 0, .ref b])) rfl (by rw [hml]; rfl) rfl (hb hby d33_28) (by decide) (W := 0) (by show 2 * 0 + _ ≤ _; exact Nat.le_of_eq rfl) (by decide)
  have V_b := V_b.keep K5 (ninS ne_b_b2 nin0)
  have V_b2_c5 : Arv Z h5 b2 k2 .byte (6 : Int32) [.int ua, .int ub, .int uc, .int ud, .int ue, .int uf] (.int 0) := V5
  have O := O.keep K5 (allS g_b2 all0)
  have K := K.trans K5 (allS (Or.inr z_b2) all0)
  have w6 : own_Go p e below f0 T5 m 32 #[.val (.ref b), .val (.int 6), .val (.ref b2)] [.ref b2] := fun t k => by
    refine pre0 t ?_
    refine zil X0 Hb d33_0 rfl <| zal X0 Hb d33_1 rfl rfl <| zal_ X0 Hb hZ e0 B1 d33_2 <| zcy X0 Hb d33_3 (feq ((by decide) : ¬ ((6 : Int32) = (8 : Int32)))).2 14 (by decide) rfl <| zil X0 Hb d33_14 rfl <| st2 _ <| zas X2 Hb (L' := #[.val (.ref b), .val (.int 6), .val (.ref b2)]) d33_17 rfl rfl <| zal X2 Hb d33_18 rfl rfl ?_
    refine zic X2 Hb d33_19 0 rfl <| zal X2 Hb d33_20 rfl rfl <| zic X2 Hb d33_21 0 rfl <| zal X2 Hb d33_22 rfl rfl <| zal_ X2 Hb hZ e2 B3 d33_23 <| zil X2 Hb d33_24 rfl <| st4 _ <| st5 _ ?_
    refine zal X5 Hb d33_31 rfl rfl ?_
    exact k
  exact own_oR X5 Hb Bd.notSynchronized Bd.returns rfl w6 d33_32 e5 (by decide) (by decide) ⟨b2, k2, rfl, N5, K, V_b2_c5, z_b2, g_b2⟩
theorem rm34_10_6 {l : Launch} {Z : State} {a0 : Array Value} (hw : own_W a0 Z) {h0 : Heap} {n0 : Nat} (O0 : Old Z n0 h0) : own_M l own_n34 jdk_29_method_69_code 2 (some .int) (own_rm 0 0 0 0) Z h0 #[.int 10, .int 6] (fun v h L => v = some (.int 6) ∧ Fr n0 L ∧ h = h0) := by
  refine own_body (L0 := #[.val (.int 10), .val (.int 6)]) (Jvm.Free.JP.mathPlain rfl (by decide +kernel)) rfl rfl ?_
  intro p e s m below meth c s₁ f0 Bd hx Hb hml hZ hown X0 e0 pre0
  have N0 := Fr.nil n0
  have O := O0
  have w1 : own_Go p e below f0 s₁ m 10 #[.val (.int 10), .val (.int 6)] [.int 6] := fun t k => by
    refine pre0 t ?_
    refine zil X0 Hb d34_0 rfl <| zil X0 Hb d34_1 rfl <| zcy X0 Hb d34_2 (tlt ((by decide) : (6 : Int32) < (10 : Int32))).2.2.1 9 (by decide) rfl <| zil X0 Hb d34_9 rfl ?_
    exact k
  exact own_oI X0 Hb Bd.notSynchronized Bd.returns w1 d34_10 e0 (by decide) (by decide) ⟨rfl, N0, rfl⟩
theorem rm33_10_6 {l : Launch} {Z : State} {a0 : Array Value} (hw : own_W a0 Z) (b : Addr) (kc : ClassId) (ua ub uc ud ue uf ug uh ui uj : Int32) {h0 : Heap} {n0 : Nat} (O0 : Old Z n0 h0) (V_b : Arv Z h0 b kc .byte (10 : Int32) [.int ua, .int ub, .int uc, .int ud, .int ue, .int uf, .int ug, .int uh, .int ui, .int uj] (.int 0)) : own_M l own_n33 jdk_65_method_121_code 3 (some (.array .byte)) (own_rm 1 1 6 40) Z h0 #[.ref b, .int 6] (fun v h L => ∃ z : Addr, ∃ kz : ClassId, v = some (.ref z) ∧ Fr n0 L ∧ Keep h0 h [] ∧ Arv Z h z kz .byte (6 : Int32) [.int ua, .int ub, .int uc, .int ud, .int ue, .int uf] (.int 0) ∧ h0.size ≤ z ∧ n0 ≤ z) := by
  refine own_body (L0 := #[.val (.ref b), .val (.int 6), .unset]) (plainFor_of_name pn_java_util_Arrays) rfl rfl ?_
  intro p e s m below meth c s₁ f0 Bd hx Hb hml hZ hown X0 e0 pre0
  have hby := Hb.2
  have W := own_q hw
  have N0 := Fr.nil n0
  have O := O0
  have K := Keep.refl h0 []
  have B1 := own_ln V_b
  obtain ⟨T2, h2, k2, X2, e2, E2, A2, st2⟩ := newP X0 hx hZ (W 3 rfl) e0 (g := (mkF m 15 #[.val (.ref b), .val (.int 6), .unset] [.int 6])) rfl (hb hby d33_15) rfl (by decide) (cap := 6) (by decide) (by decide) (by decide) (by decide)
  obtain ⟨b2, gq2⟩ : ∃ z, z = Array.size h0 := ⟨_, rfl⟩
  rw [← gq2] at A2 st2
  have ne_b_b2 : b ≠ b2 := Nat.ne_of_lt (Nat.lt_of_lt_of_le V_b.lt (Nat.le_of_eq gq2.symm))
  have g_b2 : n0 ≤ b2 := Nat.le_trans (O.1 ▸ O.2.1) (Nat.le_of_eq gq2.symm)
  have z_b2 : h0.size ≤ b2 := Nat.le_trans K.1 (Nat.le_of_eq gq2.symm)
  have V_b := V_b.ext E2
  have O := O.ext E2
  have K := K.ext E2
  have V_b2 : Arv Z h2 b2 k2 .byte (6 : Int32) [.int 0, .int 0, .int 0, .int 0, .int 0, .int 0] (.int 0) := (Arv.new A2 (by decide)).pad (pad_rep [] (.int 0) 6)
  have B3 := own_ln V_b
  obtain ⟨_, T4, Lc4, X4, hQ4, st4⟩ := own_cS X2 Hb hZ hown hml (L := #[.val (.ref b), .val (.int 6), .val (.ref b2)]) rfl (rm34_10_6 hw  O ) (W 169 rfl) (W 170 rfl) (W 171 rfl) (W 172 rfl) pd8 e2 d33_25 [.int 10, .int 6] [.int 0, .ref b2, .int 0, .ref b] rfl rfl (by decide) 4 rfl (by decide)
  obtain ⟨rfl, N4q, eh4⟩ := hQ4
  have N4 := Fr.app N0 N4q
  obtain ⟨T5, h5, L5, X5, e5, N5, K5, V5, st5⟩ := cpA X4 hx hZ hown (W 173 rfl) (W 176 rfl) (W 174 rfl) (W 175 rfl) eh4 V_b V_b2 (Or.inl ⟨rfl, rfl⟩) (sp := (0 : Int32)) (dp := (0 : Int32)) (nn := (6 : Int32)) (us := [.int ua, .int ub, .int uc, .int ud, .int ue, .int uf]) (by decide) (by decide) (by decide) (by decide) (by decide) rfl (Nat.le_of_ble_eq_true rfl) N4 g_b2 (g := (mkF m 28 #[.val (.ref b), .val (.int 6), .val (.ref b2)] [.int 6, .int 0, .ref b2, .int 0, .ref b])) rfl (by rw [hml]; rfl) rfl (hb hby d33_28) (by decide) (W := 0) (by show 2 * 0 + _ ≤ _; exact Nat.le_of_eq rfl) (by decide)
  have V_b := V_b.keep K5 (ninS ne_b_b2 nin0)
  have V_b2_c5 : Arv Z h5 b2 k2 .byte (6 : Int32) [.int ua, .int ub, .int uc, .int ud, .int ue, .int uf] (.int 0) := V5
  have O := O.keep K5 (allS g_b2 all0)
  have K := K.trans K5 (allS (Or.inr z_b2) all0)
  have w6 : own_Go p e below f0 T5 m 32 #[.val (.ref b), .val (.int 6), .val (.ref b2)] [.ref b2] := fun t k => by
    refine pre0 t ?_
    refine zil X0 Hb d33_0 rfl <| zal X0 Hb d33_1 rfl rfl <| zal_ X0 Hb hZ e0 B1 d33_2 <| zcy X0 Hb d33_3 (feq ((by decide) : ¬ ((6 : Int32) = (10 : Int32)))).2 14 (by decide) rfl <| zil X0 Hb d33_14 rfl <| st2 _ <| zas X2 Hb (L' := #[.val (.ref b), .val (.int 6), .val (.ref b2)]) d33_17 rfl rfl <| zal X2 Hb d33_18 rfl rfl ?_
    refine zic X2 Hb d33_19 0 rfl <| zal X2 Hb d33_20 rfl rfl <| zic X2 Hb d33_21 0 rfl <| zal X2 Hb d33_22 rfl rfl <| zal_ X2 Hb hZ e2 B3 d33_23 <| zil X2 Hb d33_24 rfl <| st4 _ <| st5 _ ?_
    refine zal X5 Hb d33_31 rfl rfl ?_
    exact k
  exact own_oR X5 Hb Bd.notSynchronized Bd.returns rfl w6 d33_32 e5 (by decide) (by decide) ⟨b2, k2, rfl, N5, K, V_b2_c5, z_b2, g_b2⟩
theorem rm34_12_8 {l : Launch} {Z : State} {a0 : Array Value} (hw : own_W a0 Z) {h0 : Heap} {n0 : Nat} (O0 : Old Z n0 h0) : own_M l own_n34 jdk_29_method_69_code 2 (some .int) (own_rm 0 0 0 0) Z h0 #[.int 12, .int 8] (fun v h L => v = some (.int 8) ∧ Fr n0 L ∧ h = h0) := by
  refine own_body (L0 := #[.val (.int 12), .val (.int 8)]) (Jvm.Free.JP.mathPlain rfl (by decide +kernel)) rfl rfl ?_
  intro p e s m below meth c s₁ f0 Bd hx Hb hml hZ hown X0 e0 pre0
  have N0 := Fr.nil n0
  have O := O0
  have w1 : own_Go p e below f0 s₁ m 10 #[.val (.int 12), .val (.int 8)] [.int 8] := fun t k => by
    refine pre0 t ?_
    refine zil X0 Hb d34_0 rfl <| zil X0 Hb d34_1 rfl <| zcy X0 Hb d34_2 (tlt ((by decide) : (8 : Int32) < (12 : Int32))).2.2.1 9 (by decide) rfl <| zil X0 Hb d34_9 rfl ?_
    exact k
  exact own_oI X0 Hb Bd.notSynchronized Bd.returns w1 d34_10 e0 (by decide) (by decide) ⟨rfl, N0, rfl⟩
theorem rm33_12_8 {l : Launch} {Z : State} {a0 : Array Value} (hw : own_W a0 Z) (b : Addr) (kc : ClassId) (ua ub uc ud ue uf ug uh ui uj uk ul : Int32) {h0 : Heap} {n0 : Nat} (O0 : Old Z n0 h0) (V_b : Arv Z h0 b kc .byte (12 : Int32) [.int ua, .int ub, .int uc, .int ud, .int ue, .int uf, .int ug, .int uh, .int ui, .int uj, .int uk, .int ul] (.int 0)) : own_M l own_n33 jdk_65_method_121_code 3 (some (.array .byte)) (own_rm 1 1 8 40) Z h0 #[.ref b, .int 8] (fun v h L => ∃ z : Addr, ∃ kz : ClassId, v = some (.ref z) ∧ Fr n0 L ∧ Keep h0 h [] ∧ Arv Z h z kz .byte (8 : Int32) [.int ua, .int ub, .int uc, .int ud, .int ue, .int uf, .int ug, .int uh] (.int 0) ∧ h0.size ≤ z ∧ n0 ≤ z) := by
  refine own_body (L0 := #[.val (.ref b), .val (.int 8), .unset]) (plainFor_of_name pn_java_util_Arrays) rfl rfl ?_
  intro p e s m below meth c s₁ f0 Bd hx Hb hml hZ hown X0 e0 pre0
  have hby := Hb.2
  have W := own_q hw
  have N0 := Fr.nil n0
  have O := O0
  have K := Keep.refl h0 []
  have B1 := own_ln V_b
  obtain ⟨T2, h2, k2, X2, e2, E2, A2, st2⟩ := newP X0 hx hZ (W 3 rfl) e0 (g := (mkF m 15 #[.val (.ref b), .val (.int 8), .unset] [.int 8])) rfl (hb hby d33_15) rfl (by decide) (cap := 8) (by decide) (by decide) (by decide) (by decide)
  obtain ⟨b2, gq2⟩ : ∃ z, z = Array.size h0 := ⟨_, rfl⟩
  rw [← gq2] at A2 st2
  have ne_b_b2 : b ≠ b2 := Nat.ne_of_lt (Nat.lt_of_lt_of_le V_b.lt (Nat.le_of_eq gq2.symm))
  have g_b2 : n0 ≤ b2 := Nat.le_trans (O.1 ▸ O.2.1) (Nat.le_of_eq gq2.symm)
  have z_b2 : h0.size ≤ b2 := Nat.le_trans K.1 (Nat.le_of_eq gq2.symm)
  have V_b := V_b.ext E2
  have O := O.ext E2
  have K := K.ext E2
  have V_b2 : Arv Z h2 b2 k2 .byte (8 : Int32) [.int 0, .int 0, .int 0, .int 0, .int 0, .int 0, .int 0, .int 0] (.int 0) := (Arv.new A2 (by decide)).pad (pad_rep [] (.int 0) 8)
  have B3 := own_ln V_b
  obtain ⟨_, T4, Lc4, X4, hQ4, st4⟩ := own_cS X2 Hb hZ hown hml (L := #[.val (.ref b), .val (.int 8), .val (.ref b2)]) rfl (rm34_12_8 hw  O ) (W 169 rfl) (W 170 rfl) (W 171 rfl) (W 172 rfl) pd8 e2 d33_25 [.int 12, .int 8] [.int 0, .ref b2, .int 0, .ref b] rfl rfl (by decide) 4 rfl (by decide)
  obtain ⟨rfl, N4q, eh4⟩ := hQ4
  have N4 := Fr.app N0 N4q
  obtain ⟨T5, h5, L5, X5, e5, N5, K5, V5, st5⟩ := cpA X4 hx hZ hown (W 173 rfl) (W 176 rfl) (W 174 rfl) (W 175 rfl) eh4 V_b V_b2 (Or.inl ⟨rfl, rfl⟩) (sp := (0 : Int32)) (dp := (0 : Int32)) (nn := (8 : Int32)) (us := [.int ua, .int ub, .int uc, .int ud, .int ue, .int uf, .int ug, .int uh]) (by decide) (by decide) (by decide) (by decide) (by decide) rfl (Nat.le_of_ble_eq_true rfl) N4 g_b2 (g := (mkF m 28 #[.val (.ref b), .val (.int 8), .val (.ref b2)] [.int 8, .int 0, .ref b2, .int 0, .ref b])) rfl (by rw [hml]; rfl) rfl (hb hby d33_28) (by decide) (W := 0) (by show 2 * 0 + _ ≤ _; exact Nat.le_of_eq rfl) (by decide)
  have V_b := V_b.keep K5 (ninS ne_b_b2 nin0)
  have V_b2_c5 : Arv Z h5 b2 k2 .byte (8 : Int32) [.int ua, .int ub, .int uc, .int ud, .int ue, .int uf, .int ug, .int uh] (.int 0) := V5
  have O := O.keep K5 (allS g_b2 all0)
  have K := K.trans K5 (allS (Or.inr z_b2) all0)
  have w6 : own_Go p e below f0 T5 m 32 #[.val (.ref b), .val (.int 8), .val (.ref b2)] [.ref b2] := fun t k => by
    refine pre0 t ?_
    refine zil X0 Hb d33_0 rfl <| zal X0 Hb d33_1 rfl rfl <| zal_ X0 Hb hZ e0 B1 d33_2 <| zcy X0 Hb d33_3 (feq ((by decide) : ¬ ((8 : Int32) = (12 : Int32)))).2 14 (by decide) rfl <| zil X0 Hb d33_14 rfl <| st2 _ <| zas X2 Hb (L' := #[.val (.ref b), .val (.int 8), .val (.ref b2)]) d33_17 rfl rfl <| zal X2 Hb d33_18 rfl rfl ?_
    refine zic X2 Hb d33_19 0 rfl <| zal X2 Hb d33_20 rfl rfl <| zic X2 Hb d33_21 0 rfl <| zal X2 Hb d33_22 rfl rfl <| zal_ X2 Hb hZ e2 B3 d33_23 <| zil X2 Hb d33_24 rfl <| st4 _ <| st5 _ ?_
    refine zal X5 Hb d33_31 rfl rfl ?_
    exact k
  exact own_oR X5 Hb Bd.notSynchronized Bd.returns rfl w6 d33_32 e5 (by decide) (by decide) ⟨b2, k2, rfl, N5, K, V_b2_c5, z_b2, g_b2⟩
abbrev B24 := jdk_52_method_6_code
theorem d24_0 : decode B24 0 = .ok (.aload_n 0, 1) := by decide +kernel
theorem d24_1 : decode B24 1 = .ok (.arraylength, 1) := by decide +kernel
theorem d24_2 : decode B24 2 = .ok (.iconst 1, 1) := by decide +kernel
theorem d24_3 : decode B24 3 = .ok (.ishr, 1) := by decide +kernel
theorem d24_4 : decode B24 4 = .ok (.ireturn, 1) := by decide +kernel
theorem rm24 {l : Launch} {Z : State} {a0 : Array Value} (hw : own_W a0 Z) (b : Addr) (kc : ClassId) (nn : Int32) (vv : List Value) {h0 : Heap} {n0 : Nat} (O0 : Old Z n0 h0) (V_b : Arv Z h0 b kc .byte nn vv (.int 0)) : own_M l own_n24 jdk_52_method_6_code 1 (some .int) (own_rm 0 0 0 0) Z h0 #[.ref b] (fun v h L => v = some (.int (nn >>> ((1 : Int32) &&& 31))) ∧ Fr n0 L ∧ h = h0) := by
  refine own_body (L0 := #[.val (.ref b)]) (plainFor_of_name pn_java_lang_StringUTF16) rfl rfl ?_
  intro p e s m below meth c s₁ f0 Bd hx Hb hml hZ hown X0 e0 pre0
  have N0 := Fr.nil n0
  have O := O0
  have B1 := own_ln V_b
  have w2 : own_Go p e below f0 s₁ m 4 #[.val (.ref b)] [(.int (nn >>> ((1 : Int32) &&& 31)))] := fun t k => by
    refine pre0 t ?_
    refine zal X0 Hb d24_0 rfl rfl <| zal_ X0 Hb hZ e0 B1 d24_1 <| zic X0 Hb d24_2 1 rfl <| zsr X0 Hb d24_3 ?_
    exact k
  exact own_oI X0 Hb Bd.notSynchronized Bd.returns w2 d24_4 e0 (by decide) (by decide) ⟨rfl, N0, rfl⟩
abbrev B26 := jdk_41_method_13_code
theorem d26_0 : decode B26 0 = .ok (.iload_n 2, 1) := by decide +kernel
theorem d26_1 : decode B26 1 = .ok (.iload_n 0, 1) := by decide +kernel
theorem d26_2 : decode B26 2 = .ok (.ior, 1) := by decide +kernel
theorem d26_3 : decode B26 3 = .ok (.iload_n 1, 1) := by decide +kernel
theorem d26_4 : decode B26 4 = .ok (.ior, 1) := by decide +kernel
theorem d26_5 : decode B26 5 = .ok (.ifCond .lt 10, 3) := by decide +kernel
theorem d26_8 : decode B26 8 = .ok (.iload_n 1, 1) := by decide +kernel
theorem d26_9 : decode B26 9 = .ok (.iload_n 2, 1) := by decide +kernel
theorem d26_10 : decode B26 10 = .ok (.iload_n 0, 1) := by decide +kernel
theorem d26_11 : decode B26 11 = .ok (.isub, 1) := by decide +kernel
theorem d26_12 : decode B26 12 = .ok (.if_icmp .le 11, 3) := by decide +kernel
theorem d26_23 : decode B26 23 = .ok (.iload_n 0, 1) := by decide +kernel
theorem d26_24 : decode B26 24 = .ok (.ireturn, 1) := by decide +kernel
theorem pn_jdk_internal_util_Preconditions : plainName "jdk/internal/util/Preconditions" = true := by first | (simp [plainName, overriddenIn]; done) | decide +kernel
theorem rm26 {l : Launch} {Z : State} {a0 : Array Value} (hw : own_W a0 Z) (jj mm : Int32) (fm : Value) {h0 : Heap} {n0 : Nat} (O0 : Old Z n0 h0) (rfm : fm.isRef = true) (hk1 : ¬ ((mm ||| (0 : Int32)) ||| jj) < (0 : Int32)) (hk2 : ¬ (mm - (0 : Int32)) < jj) : own_M l own_n26 jdk_41_method_13_code 4 (some .int) (own_rm 0 0 0 0) Z h0 #[.int 0, .int jj, .int mm, fm] (fun v h L => v = some (.int 0) ∧ Fr n0 L ∧ h = h0) := by
  refine own_body (L0 := #[.val (.int 0), .val (.int jj), .val (.int mm), .val fm]) (plainFor_of_name pn_jdk_internal_util_Preconditions) (by cases fm <;> first | rfl | (exfalso; revert rfm; simp [Value.isRef]; done)) rfl ?_
  intro p e s m below meth c s₁ f0 Bd hx Hb hml hZ hown X0 e0 pre0
  have N0 := Fr.nil n0
  have O := O0
  have w1 : own_Go p e below f0 s₁ m 24 #[.val (.int 0), .val (.int jj), .val (.int mm), .val fm] [.int 0] := fun t k => by
    refine pre0 t ?_
    refine zil X0 Hb d26_0 rfl <| zil X0 Hb d26_1 rfl <| zor X0 Hb d26_2 <| zil X0 Hb d26_3 rfl <| zor X0 Hb d26_4 <| zin X0 Hb d26_5 ((if0 _ _).trans (flt (hk1 : ¬ (((mm ||| (0 : Int32)) ||| jj) < (0 : Int32)))).1) <| zil X0 Hb d26_8 rfl <| zil X0 Hb d26_9 rfl ?_
    refine zil X0 Hb d26_10 rfl <| zsu X0 Hb d26_11 <| zcy X0 Hb d26_12 (flt (hk2 : ¬ ((mm - (0 : Int32)) < jj))).2.2.2 23 (by decide) rfl <| zil X0 Hb d26_23 rfl ?_
    exact k
  exact own_oI X0 Hb Bd.notSynchronized Bd.returns w1 d26_24 e0 (by decide) (by decide) ⟨rfl, N0, rfl⟩
abbrev B25 := jdk_42_method_157_code
theorem d25_0 : decode B25 0 = .ok (.iload_n 0, 1) := by decide +kernel
theorem d25_1 : decode B25 1 = .ok (.iload_n 1, 1) := by decide +kernel
theorem d25_2 : decode B25 2 = .ok (.iload_n 2, 1) := by decide +kernel
theorem d25_3 : decode B25 3 = .ok (.getstatic 1053, 3) := by decide +kernel
theorem d25_6 : decode B25 6 = .ok (.invokestatic 1065, 3) := by decide +kernel
theorem pd9 : parseMethodDescriptor "(IIILjava/util/function/BiFunction;)I" = some ⟨[.int, .int, .int, (.object "java/util/function/BiFunction")], some .int⟩ := by decide +kernel
theorem d25_9 : decode B25 9 = .ok (.ireturn, 1) := by decide +kernel
theorem rm25 {l : Launch} {Z : State} {a0 : Array Value} (hw : own_W a0 Z) (jj mm : Int32) {zc : Int32} {fm : Value} {u8 : Addr} {h0 : Heap} {n0 : Nat} (O0 : Old Z n0 h0) (SU : own_SU Z zc fm u8) (hk1 : ¬ ((mm ||| (0 : Int32)) ||| jj) < (0 : Int32)) (hk2 : ¬ (mm - (0 : Int32)) < jj) : own_M l own_n25 jdk_42_method_157_code 3 (some .int) (own_rm 1 0 0 15) Z h0 #[.int 0, .int jj, .int mm] (fun v h L => v = some (.int 0) ∧ Fr n0 L ∧ h = h0) := by
  refine own_body (L0 := #[.val (.int 0), .val (.int jj), .val (.int mm)]) (plainFor_of_name pn_java_lang_String) rfl rfl ?_
  intro p e s m below meth c s₁ f0 Bd hx Hb hml hZ hown X0 e0 pre0
  have hby := Hb.2
  have W := own_q hw
  have N0 := Fr.nil n0
  have O := O0
  obtain ⟨T1, X1, e1, st1⟩ := getS2 X0 hx hZ hown (host := "") (Or.inl (W 135 rfl)) Via.refl e0 (SU.2.2.2.2.1.ext O.2) (g := (mkF m 3 #[.val (.int 0), .val (.int jj), .val (.int mm)] [.int mm, .int jj, .int 0])) rfl (hb hby d25_3)
  obtain ⟨_, T2, Lc2, X2, hQ2, st2⟩ := own_cS X1 Hb hZ hown hml (L := #[.val (.int 0), .val (.int jj), .val (.int mm)]) rfl (rm26 hw jj mm fm O SU.2.2.2.2.2.2.2.2 hk1 hk2) (W 137 rfl) (W 138 rfl) (W 136 rfl) (W 139 rfl) pd9 e1 d25_6 [.int 0, .int jj, .int mm, fm] [] rfl rfl (by decide) 0 rfl (by decide)
  obtain ⟨rfl, N2q, eh2⟩ := hQ2
  have N2 := Fr.app N0 N2q
  have w3 : own_Go p e below f0 T2 m 9 #[.val (.int 0), .val (.int jj), .val (.int mm)] [.int 0] := fun t k => by
    refine pre0 t ?_
    refine zil X0 Hb d25_0 rfl <| zil X0 Hb d25_1 rfl <| zil X0 Hb d25_2 rfl <| st1 _ <| st2 _ ?_
    exact k
  exact own_oI X2 Hb Bd.notSynchronized Bd.returns w3 d25_9 eh2 (by decide) (by decide) ⟨rfl, N2, rfl⟩
abbrev B23 := jdk_52_method_94_code
theorem d23_0 : decode B23 0 = .ok (.iload_n 0, 1) := by decide +kernel
theorem d23_1 : decode B23 1 = .ok (.iload_n 1, 1) := by decide +kernel
theorem d23_2 : decode B23 2 = .ok (.aload_n 2, 1) := by decide +kernel
theorem d23_3 : decode B23 3 = .ok (.invokestatic 48, 3) := by decide +kernel
theorem pd10 : parseMethodDescriptor "([B)I" = some ⟨[(.array .byte)], some .int⟩ := by decide +kernel
theorem d23_6 : decode B23 6 = .ok (.invokestatic 419, 3) := by decide +kernel
theorem pd11 : parseMethodDescriptor "(III)I" = some ⟨[.int, .int, .int], some .int⟩ := by decide +kernel
theorem d23_9 : decode B23 9 = .ok (.pop, 1) := by decide +kernel
theorem d23_10 : decode B23 10 = .ok (.return_, 1) := by decide +kernel
theorem rm23 {l : Launch} {Z : State} {a0 : Array Value} (hw : own_W a0 Z) (jj : Int32) (b : Addr) (kc : ClassId) (nn : Int32) (vv : List Value) {zc : Int32} {fm : Value} {u8 : Addr} {h0 : Heap} {n0 : Nat} (O0 : Old Z n0 h0) (SU : own_SU Z zc fm u8) (V_b : Arv Z h0 b kc .byte nn vv (.int 0)) (hk1 : ¬ (((nn >>> ((1 : Int32) &&& 31)) ||| (0 : Int32)) ||| jj) < (0 : Int32)) (hk2 : ¬ ((nn >>> ((1 : Int32) &&& 31)) - (0 : Int32)) < jj) : own_M l own_n23 jdk_52_method_94_code 3 none (own_rm 2 0 0 29) Z h0 #[.int 0, .int jj, .ref b] (fun v h L => v = none ∧ Fr n0 L ∧ h = h0) := by
  refine own_body (L0 := #[.val (.int 0), .val (.int jj), .val (.ref b)]) (plainFor_of_name pn_java_lang_StringUTF16) rfl rfl ?_
  intro p e s m below meth c s₁ f0 Bd hx Hb hml hZ hown X0 e0 pre0
  have W := own_q hw
  have N0 := Fr.nil n0
  have O := O0
  obtain ⟨_, T1, Lc1, X1, hQ1, st1⟩ := own_cS X0 Hb hZ hown hml (L := #[.val (.int 0), .val (.int jj), .val (.ref b)]) rfl (rm24 hw b kc nn vv O V_b) (W 129 rfl) (W 130 rfl) (W 21 rfl) (W 131 rfl) pd10 e0 d23_3 [.ref b] [.int jj, .int 0] rfl rfl (by decide) 2 rfl (by decide)
  obtain ⟨rfl, N1q, eh1⟩ := hQ1
  have N1 := Fr.app N0 N1q
  obtain ⟨_, T2, Lc2, X2, hQ2, st2⟩ := own_cS X1 Hb hZ hown hml (L := #[.val (.int 0), .val (.int jj), .val (.ref b)]) rfl (rm25 hw jj (nn >>> ((1 : Int32) &&& 31)) O SU hk1 hk2) (W 132 rfl) (W 133 rfl) (W 7 rfl) (W 134 rfl) pd11 eh1 d23_6 [.int 0, .int jj, (.int (nn >>> ((1 : Int32) &&& 31)))] [] rfl rfl (by decide) 0 rfl (by decide)
  obtain ⟨rfl, N2q, eh2⟩ := hQ2
  have N2 := Fr.app N1 N2q
  have w3 : own_Go p e below f0 T2 m 10 #[.val (.int 0), .val (.int jj), .val (.ref b)] [] := fun t k => by
    refine pre0 t ?_
    refine zil X0 Hb d23_0 rfl <| zil X0 Hb d23_1 rfl <| zal X0 Hb d23_2 rfl rfl <| st1 _ <| st2 _ <| zpo X2 Hb d23_9 rfl ?_
    exact k
  exact own_oV X2 Hb Bd.notSynchronized Bd.returns w3 d23_10 eh2 (by decide) (by decide) ⟨rfl, N2, rfl⟩
abbrev B22 := jdk_52_method_86_code
theorem d22_0 : decode B22 0 = .ok (.iload_n 3, 1) := by decide +kernel
theorem d22_1 : decode B22 1 = .ok (.iload 4, 2) := by decide +kernel
theorem d22_3 : decode B22 3 = .ok (.aload_n 2, 1) := by decide +kernel
theorem d22_4 : decode B22 4 = .ok (.invokestatic 173, 3) := by decide +kernel
theorem pd12 : parseMethodDescriptor "(II[B)V" = some ⟨[.int, .int, (.array .byte)], none⟩ := by decide +kernel
theorem d22_7 : decode B22 7 = .ok (.iconst 0, 1) := by decide +kernel
theorem d22_8 : decode B22 8 = .ok (.istore 5, 2) := by decide +kernel
theorem d22_10 : decode B22 10 = .ok (.iload 5, 2) := by decide +kernel
theorem d22_12 : decode B22 12 = .ok (.iload 4, 2) := by decide +kernel
theorem d22_14 : decode B22 14 = .ok (.if_icmp .ge 27, 3) := by decide +kernel
theorem d22_17 : decode B22 17 = .ok (.aload_n 2, 1) := by decide +kernel
theorem d22_18 : decode B22 18 = .ok (.iload_n 3, 1) := by decide +kernel
theorem d22_19 : decode B22 19 = .ok (.iinc 3 1, 3) := by decide +kernel
theorem d22_22 : decode B22 22 = .ok (.aload_n 0, 1) := by decide +kernel
theorem d22_23 : decode B22 23 = .ok (.iload_n 1, 1) := by decide +kernel
theorem d22_24 : decode B22 24 = .ok (.iinc 1 1, 3) := by decide +kernel
theorem d22_27 : decode B22 27 = .ok (.baload, 1) := by decide +kernel
theorem d22_28 : decode B22 28 = .ok (.sipush 255, 3) := by decide +kernel
theorem d22_31 : decode B22 31 = .ok (.iand, 1) := by decide +kernel
theorem d22_32 : decode B22 32 = .ok (.invokestatic 111, 3) := by decide +kernel
theorem d22_35 : decode B22 35 = .ok (.iinc 5 1, 3) := by decide +kernel
theorem d22_38 : decode B22 38 = .ok (.goto (-28), 3) := by decide +kernel
theorem d22_41 : decode B22 41 = .ok (.return_, 1) := by decide +kernel
theorem rm22_3_2 {l : Launch} {Z : State} {a0 : Array Value} (hw : own_W a0 Z) (b d : Addr) (kb : ClassId) (ya yb yt : Int32) (kd : ClassId) {zc : Int32} {fm : Value} {u8 : Addr} {h0 : Heap} {n0 : Nat} (O0 : Old Z n0 h0) (SU : own_SU Z zc fm u8) (V_b : Arv Z h0 b kb .byte (3 : Int32) [.int ya, .int yb, .int yt] (.int 0)) (V_d : Arv Z h0 d kd .byte (6 : Int32) [.int 0, .int 0, .int 0, .int 0, .int 0, .int 0] (.int 0)) (nbd : b ≠ d) (g_d : n0 ≤ d) : own_M l own_n22 jdk_52_method_86_code 6 none (own_rm 3 0 0 43) Z h0 #[.ref b, .int 0, .ref d, .int 0, .int 2] (fun v h L => v = none ∧ Fr n0 L ∧ Keep h0 h [d] ∧ Arv Z h d kd .byte (6 : Int32) [(.int (own_lo (ya &&& (255 : Int32)))), (.int (own_hi (ya &&& (255 : Int32)))), (.int (own_lo (yb &&& (255 : Int32)))), (.int (own_hi (yb &&& (255 : Int32)))), .int 0, .int 0] (.int 0)) := by
  refine own_body (L0 := #[.val (.ref b), .val (.int 0), .val (.ref d), .val (.int 0), .val (.int 2), .unset]) (plainFor_of_name pn_java_lang_StringUTF16) rfl rfl ?_
  intro p e s m below meth c s₁ f0 Bd hx Hb hml hZ hown X0 e0 pre0
  have W := own_q hw
  have N0 := Fr.nil n0
  have O := O0
  have K := Keep.refl h0 [d]
  obtain ⟨_, T1, Lc1, X1, hQ1, st1⟩ := own_cS X0 Hb hZ hown hml (L := #[.val (.ref b), .val (.int 0), .val (.ref d), .val (.int 0), .val (.int 2), .unset]) rfl (rm23 hw (2 : Int32) d kd (6 : Int32) [.int 0, .int 0, .int 0, .int 0, .int 0, .int 0] O SU V_d (by decide) (by decide)) (W 126 rfl) (W 127 rfl) (W 21 rfl) (W 128 rfl) pd12 e0 d22_4 [.int 0, .int 2, .ref d] [] rfl rfl (by decide) 0 rfl (by decide)
  obtain ⟨rfl, N1q, eh1⟩ := hQ1
  have N1 := Fr.app N0 N1q
  have B2 : own_El Z h0 b .byte (0 : Int32) (.int ya) := own_el V_b ⟨by decide, by decide⟩ rfl
  obtain ⟨_, T3, Lc3, X3, hQ3, st3⟩ := own_cS X1 Hb hZ hown hml (L := #[.val (.ref b), .val (.int 1), .val (.ref d), .val (.int 1), .val (.int 2), .val (.int 0)]) rfl (rm19_0 hw d (ya &&& (255 : Int32)) kd (6 : Int32) (0 : Int32) (0 : Int32) [.int 0, .int 0, .int 0, .int 0] O SU V_d (by decide) (by decide) g_d) (W 110 rfl) (W 111 rfl) (W 21 rfl) (W 112 rfl) pd2 eh1 d22_32 [.ref d, .int 0, (.int (ya &&& (255 : Int32)))] [] rfl rfl (by decide) 0 rfl (by decide)
  obtain ⟨rfl, N3q, K3, V_d_c3⟩ := hQ3
  have N3 := Fr.app N1 N3q
  have V_b := V_b.keep K3 (ninS nbd nin0)
  have O := O.keep K3 (allS g_d all0)
  have K := K.trans K3 (allS (Or.inl (List.mem_of_getElem? (i := 0) rfl)) all0)
  have B4 : own_El Z (T3.heap) b .byte (1 : Int32) (.int yb) := own_el V_b ⟨by decide, by decide⟩ rfl
  obtain ⟨_, T5, Lc5, X5, hQ5, st5⟩ := own_cS X3 Hb hZ hown hml (L := #[.val (.ref b), .val (.int 2), .val (.ref d), .val (.int 2), .val (.int 2), .val (.int 1)]) rfl (rm19_1 hw d (yb &&& (255 : Int32)) kd (6 : Int32) (own_lo (ya &&& (255 : Int32))) (own_hi (ya &&& (255 : Int32))) (0 : Int32) (0 : Int32) [.int 0, .int 0] O SU V_d_c3 (by decide) (by decide) g_d) (W 110 rfl) (W 111 rfl) (W 21 rfl) (W 112 rfl) pd2 rfl d22_32 [.ref d, .int 1, (.int (yb &&& (255 : Int32)))] [] rfl rfl (by decide) 0 rfl (by decide)
  obtain ⟨rfl, N5q, K5, V_d_c5⟩ := hQ5
  have N5 := Fr.app N3 N5q
  have V_b := V_b.keep K5 (ninS nbd nin0)
  have O := O.keep K5 (allS g_d all0)
  have K := K.trans K5 (allS (Or.inl (List.mem_of_getElem? (i := 0) rfl)) all0)
  have w6 : own_Go p e below f0 T5 m 41 #[.val (.ref b), .val (.int 2), .val (.ref d), .val (.int 2), .val (.int 2), .val (.int 2)] [] := fun t k => by
    refine pre0 t ?_
    refine zil X0 Hb d22_0 rfl <| ziL X0 Hb d22_1 rfl <| zal X0 Hb d22_3 rfl rfl <| st1 _ <| zic X1 Hb d22_7 0 rfl <| ziS X1 Hb d22_8 rfl <| ziL X1 Hb d22_10 rfl <| ziL X1 Hb d22_12 rfl ?_
    refine zcn X1 Hb d22_14 (tlt ((by decide) : (0 : Int32) < (2 : Int32))).2.1 <| zal X1 Hb d22_17 rfl rfl <| zil X1 Hb d22_18 rfl <| zii X1 Hb d22_19 rfl 1 rfl rfl <| zal X1 Hb d22_22 rfl rfl <| zil X1 Hb d22_23 rfl <| zii X1 Hb d22_24 rfl 1 rfl rfl <| zba X1 Hb hZ eh1 B2 d22_27 ?_
    refine zsp X1 Hb d22_28 255 rfl <| zan X1 Hb d22_31 <| st3 _ <| zii X3 Hb d22_35 rfl 1 rfl rfl <| zgo X3 Hb d22_38 10 (by decide) rfl <| ziL X3 Hb d22_10 rfl <| ziL X3 Hb d22_12 rfl <| zcn X3 Hb d22_14 (tlt ((by decide) : (1 : Int32) < (2 : Int32))).2.1 ?_
    refine zal X3 Hb d22_17 rfl rfl <| zil X3 Hb d22_18 rfl <| zii X3 Hb d22_19 rfl 2 rfl rfl <| zal X3 Hb d22_22 rfl rfl <| zil X3 Hb d22_23 rfl <| zii X3 Hb d22_24 rfl 2 rfl rfl <| zba X3 Hb hZ rfl B4 d22_27 <| zsp X3 Hb d22_28 255 rfl ?_
    refine zan X3 Hb d22_31 <| st5 _ <| zii X5 Hb d22_35 rfl 2 rfl rfl <| zgo X5 Hb d22_38 10 (by decide) rfl <| ziL X5 Hb d22_10 rfl <| ziL X5 Hb d22_12 rfl <| zcy X5 Hb d22_14 (flt ((by decide) : ¬ ((2 : Int32) < (2 : Int32)))).2.1 41 (by decide) rfl ?_
    exact k
  exact own_oV X5 Hb Bd.notSynchronized Bd.returns w6 d22_41 rfl (by decide) (by decide) ⟨rfl, N5, K, V_d_c5⟩
abbrev B21 := jdk_43_method_50_code
theorem d21_0 : decode B21 0 = .ok (.aload_n 0, 1) := by decide +kernel
theorem d21_1 : decode B21 1 = .ok (.iload_n 1, 1) := by decide +kernel
theorem d21_2 : decode B21 2 = .ok (.aload_n 2, 1) := by decide +kernel
theorem d21_3 : decode B21 3 = .ok (.iload_n 3, 1) := by decide +kernel
theorem d21_4 : decode B21 4 = .ok (.iload 4, 2) := by decide +kernel
theorem d21_6 : decode B21 6 = .ok (.invokestatic 240, 3) := by decide +kernel
theorem pd13 : parseMethodDescriptor "([BI[BII)V" = some ⟨[(.array .byte), .int, (.array .byte), .int, .int], none⟩ := by decide +kernel
theorem d21_9 : decode B21 9 = .ok (.return_, 1) := by decide +kernel
theorem pn_java_lang_StringLatin1 : plainName "java/lang/StringLatin1" = true := by first | (simp [plainName, overriddenIn]; done) | decide +kernel
theorem rm21_3_2 {l : Launch} {Z : State} {a0 : Array Value} (hw : own_W a0 Z) (b d : Addr) (kb : ClassId) (ya yb yt : Int32) (kd : ClassId) {zc : Int32} {fm : Value} {u8 : Addr} {h0 : Heap} {n0 : Nat} (O0 : Old Z n0 h0) (SU : own_SU Z zc fm u8) (V_b : Arv Z h0 b kb .byte (3 : Int32) [.int ya, .int yb, .int yt] (.int 0)) (V_d : Arv Z h0 d kd .byte (6 : Int32) [.int 0, .int 0, .int 0, .int 0, .int 0, .int 0] (.int 0)) (nbd : b ≠ d) (g_d : n0 ≤ d) : own_M l own_n21 jdk_43_method_50_code 5 none (own_rm 4 0 0 60) Z h0 #[.ref b, .int 0, .ref d, .int 0, .int 2] (fun v h L => v = none ∧ Fr n0 L ∧ Keep h0 h [d] ∧ Arv Z h d kd .byte (6 : Int32) [(.int (own_lo (ya &&& (255 : Int32)))), (.int (own_hi (ya &&& (255 : Int32)))), (.int (own_lo (yb &&& (255 : Int32)))), (.int (own_hi (yb &&& (255 : Int32)))), .int 0, .int 0] (.int 0)) := by
  refine own_body (L0 := #[.val (.ref b), .val (.int 0), .val (.ref d), .val (.int 0), .val (.int 2)]) (plainFor_of_name pn_java_lang_StringLatin1) rfl rfl ?_
  intro p e s m below meth c s₁ f0 Bd hx Hb hml hZ hown X0 e0 pre0
  have W := own_q hw
  have N0 := Fr.nil n0
  have O := O0
  have K := Keep.refl h0 [d]
  obtain ⟨_, T1, Lc1, X1, hQ1, st1⟩ := own_cS X0 Hb hZ hown hml (L := #[.val (.ref b), .val (.int 0), .val (.ref d), .val (.int 0), .val (.int 2)]) rfl (rm22_3_2 hw b d kb ya yb yt kd O SU V_b V_d nbd g_d) (W 123 rfl) (W 124 rfl) (W 21 rfl) (W 125 rfl) pd13 e0 d21_6 [.ref b, .int 0, .ref d, .int 0, .int 2] [] rfl rfl (by decide) 0 rfl (by decide)
  obtain ⟨rfl, N1q, K1, V_d_c1⟩ := hQ1
  have N1 := Fr.app N0 N1q
  have V_b := V_b.keep K1 (ninS nbd nin0)
  have O := O.keep K1 (allS g_d all0)
  have K := K.trans K1 (allS (Or.inl (List.mem_of_getElem? (i := 0) rfl)) all0)
  have w2 : own_Go p e below f0 T1 m 9 #[.val (.ref b), .val (.int 0), .val (.ref d), .val (.int 0), .val (.int 2)] [] := fun t k => by
    refine pre0 t ?_
    refine zal X0 Hb d21_0 rfl rfl <| zil X0 Hb d21_1 rfl <| zal X0 Hb d21_2 rfl rfl <| zil X0 Hb d21_3 rfl <| ziL X0 Hb d21_4 rfl <| st1 _ ?_
    exact k
  exact own_oV X1 Hb Bd.notSynchronized Bd.returns w2 d21_9 rfl (by decide) (by decide) ⟨rfl, N1, K, V_d_c1⟩
theorem rm22_4_2 {l : Launch} {Z : State} {a0 : Array Value} (hw : own_W a0 Z) (b d : Addr) (kb : ClassId) (ya yb yc yt : Int32) (kd : ClassId) {zc : Int32} {fm : Value} {u8 : Addr} {h0 : Heap} {n0 : Nat} (O0 : Old Z n0 h0) (SU : own_SU Z zc fm u8) (V_b : Arv Z h0 b kb .byte (4 : Int32) [.int ya, .int yb, .int yc, .int yt] (.int 0)) (V_d : Arv Z h0 d kd .byte (8 : Int32) [.int 0, .int 0, .int 0, .int 0, .int 0, .int 0, .int 0, .int 0] (.int 0)) (nbd : b ≠ d) (g_d : n0 ≤ d) : own_M l own_n22 jdk_52_method_86_code 6 none (own_rm 3 0 0 43) Z h0 #[.ref b, .int 0, .ref d, .int 0, .int 2] (fun v h L => v = none ∧ Fr n0 L ∧ Keep h0 h [d] ∧ Arv Z h d kd .byte (8 : Int32) [(.int (own_lo (ya &&& (255 : Int32)))), (.int (own_hi (ya &&& (255 : Int32)))), (.int (own_lo (yb &&& (255 : Int32)))), (.int (own_hi (yb &&& (255 : Int32)))), .int 0, .int 0, .int 0, .int 0] (.int 0)) := by
  refine own_body (L0 := #[.val (.ref b), .val (.int 0), .val (.ref d), .val (.int 0), .val (.int 2), .unset]) (plainFor_of_name pn_java_lang_StringUTF16) rfl rfl ?_
  intro p e s m below meth c s₁ f0 Bd hx Hb hml hZ hown X0 e0 pre0
  have W := own_q hw
  have N0 := Fr.nil n0
  have O := O0
  have K := Keep.refl h0 [d]
  obtain ⟨_, T1, Lc1, X1, hQ1, st1⟩ := own_cS X0 Hb hZ hown hml (L := #[.val (.ref b), .val (.int 0), .val (.ref d), .val (.int 0), .val (.int 2), .unset]) rfl (rm23 hw (2 : Int32) d kd (8 : Int32) [.int 0, .int 0, .int 0, .int 0, .int 0, .int 0, .int 0, .int 0] O SU V_d (by decide) (by decide)) (W 126 rfl) (W 127 rfl) (W 21 rfl) (W 128 rfl) pd12 e0 d22_4 [.int 0, .int 2, .ref d] [] rfl rfl (by decide) 0 rfl (by decide)
  obtain ⟨rfl, N1q, eh1⟩ := hQ1
  have N1 := Fr.app N0 N1q
  have B2 : own_El Z h0 b .byte (0 : Int32) (.int ya) := own_el V_b ⟨by decide, by decide⟩ rfl
  obtain ⟨_, T3, Lc3, X3, hQ3, st3⟩ := own_cS X1 Hb hZ hown hml (L := #[.val (.ref b), .val (.int 1), .val (.ref d), .val (.int 1), .val (.int 2), .val (.int 0)]) rfl (rm19_0 hw d (ya &&& (255 : Int32)) kd (8 : Int32) (0 : Int32) (0 : Int32) [.int 0, .int 0, .int 0, .int 0, .int 0, .int 0] O SU V_d (by decide) (by decide) g_d) (W 110 rfl) (W 111 rfl) (W 21 rfl) (W 112 rfl) pd2 eh1 d22_32 [.ref d, .int 0, (.int (ya &&& (255 : Int32)))] [] rfl rfl (by decide) 0 rfl (by decide)
  obtain ⟨rfl, N3q, K3, V_d_c3⟩ := hQ3
  have N3 := Fr.app N1 N3q
  have V_b := V_b.keep K3 (ninS nbd nin0)
  have O := O.keep K3 (allS g_d all0)
  have K := K.trans K3 (allS (Or.inl (List.mem_of_getElem? (i := 0) rfl)) all0)
  have B4 : own_El Z (T3.heap) b .byte (1 : Int32) (.int yb) := own_el V_b ⟨by decide, by decide⟩ rfl
  obtain ⟨_, T5, Lc5, X5, hQ5, st5⟩ := own_cS X3 Hb hZ hown hml (L := #[.val (.ref b), .val (.int 2), .val (.ref d), .val (.int 2), .val (.int 2), .val (.int 1)]) rfl (rm19_1 hw d (yb &&& (255 : Int32)) kd (8 : Int32) (own_lo (ya &&& (255 : Int32))) (own_hi (ya &&& (255 : Int32))) (0 : Int32) (0 : Int32) [.int 0, .int 0, .int 0, .int 0] O SU V_d_c3 (by decide) (by decide) g_d) (W 110 rfl) (W 111 rfl) (W 21 rfl) (W 112 rfl) pd2 rfl d22_32 [.ref d, .int 1, (.int (yb &&& (255 : Int32)))] [] rfl rfl (by decide) 0 rfl (by decide)
  obtain ⟨rfl, N5q, K5, V_d_c5⟩ := hQ5
  have N5 := Fr.app N3 N5q
  have V_b := V_b.keep K5 (ninS nbd nin0)
  have O := O.keep K5 (allS g_d all0)
  have K := K.trans K5 (allS (Or.inl (List.mem_of_getElem? (i := 0) rfl)) all0)
  have w6 : own_Go p e below f0 T5 m 41 #[.val (.ref b), .val (.int 2), .val (.ref d), .val (.int 2), .val (.int 2), .val (.int 2)] [] := fun t k => by
    refine pre0 t ?_
    refine zil X0 Hb d22_0 rfl <| ziL X0 Hb d22_1 rfl <| zal X0 Hb d22_3 rfl rfl <| st1 _ <| zic X1 Hb d22_7 0 rfl <| ziS X1 Hb d22_8 rfl <| ziL X1 Hb d22_10 rfl <| ziL X1 Hb d22_12 rfl ?_
    refine zcn X1 Hb d22_14 (tlt ((by decide) : (0 : Int32) < (2 : Int32))).2.1 <| zal X1 Hb d22_17 rfl rfl <| zil X1 Hb d22_18 rfl <| zii X1 Hb d22_19 rfl 1 rfl rfl <| zal X1 Hb d22_22 rfl rfl <| zil X1 Hb d22_23 rfl <| zii X1 Hb d22_24 rfl 1 rfl rfl <| zba X1 Hb hZ eh1 B2 d22_27 ?_
    refine zsp X1 Hb d22_28 255 rfl <| zan X1 Hb d22_31 <| st3 _ <| zii X3 Hb d22_35 rfl 1 rfl rfl <| zgo X3 Hb d22_38 10 (by decide) rfl <| ziL X3 Hb d22_10 rfl <| ziL X3 Hb d22_12 rfl <| zcn X3 Hb d22_14 (tlt ((by decide) : (1 : Int32) < (2 : Int32))).2.1 ?_
    refine zal X3 Hb d22_17 rfl rfl <| zil X3 Hb d22_18 rfl <| zii X3 Hb d22_19 rfl 2 rfl rfl <| zal X3 Hb d22_22 rfl rfl <| zil X3 Hb d22_23 rfl <| zii X3 Hb d22_24 rfl 2 rfl rfl <| zba X3 Hb hZ rfl B4 d22_27 <| zsp X3 Hb d22_28 255 rfl ?_
    refine zan X3 Hb d22_31 <| st5 _ <| zii X5 Hb d22_35 rfl 2 rfl rfl <| zgo X5 Hb d22_38 10 (by decide) rfl <| ziL X5 Hb d22_10 rfl <| ziL X5 Hb d22_12 rfl <| zcy X5 Hb d22_14 (flt ((by decide) : ¬ ((2 : Int32) < (2 : Int32)))).2.1 41 (by decide) rfl ?_
    exact k
  exact own_oV X5 Hb Bd.notSynchronized Bd.returns w6 d22_41 rfl (by decide) (by decide) ⟨rfl, N5, K, V_d_c5⟩
theorem rm21_4_2 {l : Launch} {Z : State} {a0 : Array Value} (hw : own_W a0 Z) (b d : Addr) (kb : ClassId) (ya yb yc yt : Int32) (kd : ClassId) {zc : Int32} {fm : Value} {u8 : Addr} {h0 : Heap} {n0 : Nat} (O0 : Old Z n0 h0) (SU : own_SU Z zc fm u8) (V_b : Arv Z h0 b kb .byte (4 : Int32) [.int ya, .int yb, .int yc, .int yt] (.int 0)) (V_d : Arv Z h0 d kd .byte (8 : Int32) [.int 0, .int 0, .int 0, .int 0, .int 0, .int 0, .int 0, .int 0] (.int 0)) (nbd : b ≠ d) (g_d : n0 ≤ d) : own_M l own_n21 jdk_43_method_50_code 5 none (own_rm 4 0 0 60) Z h0 #[.ref b, .int 0, .ref d, .int 0, .int 2] (fun v h L => v = none ∧ Fr n0 L ∧ Keep h0 h [d] ∧ Arv Z h d kd .byte (8 : Int32) [(.int (own_lo (ya &&& (255 : Int32)))), (.int (own_hi (ya &&& (255 : Int32)))), (.int (own_lo (yb &&& (255 : Int32)))), (.int (own_hi (yb &&& (255 : Int32)))), .int 0, .int 0, .int 0, .int 0] (.int 0)) := by
  refine own_body (L0 := #[.val (.ref b), .val (.int 0), .val (.ref d), .val (.int 0), .val (.int 2)]) (plainFor_of_name pn_java_lang_StringLatin1) rfl rfl ?_
  intro p e s m below meth c s₁ f0 Bd hx Hb hml hZ hown X0 e0 pre0
  have W := own_q hw
  have N0 := Fr.nil n0
  have O := O0
  have K := Keep.refl h0 [d]
  obtain ⟨_, T1, Lc1, X1, hQ1, st1⟩ := own_cS X0 Hb hZ hown hml (L := #[.val (.ref b), .val (.int 0), .val (.ref d), .val (.int 0), .val (.int 2)]) rfl (rm22_4_2 hw b d kb ya yb yc yt kd O SU V_b V_d nbd g_d) (W 123 rfl) (W 124 rfl) (W 21 rfl) (W 125 rfl) pd13 e0 d21_6 [.ref b, .int 0, .ref d, .int 0, .int 2] [] rfl rfl (by decide) 0 rfl (by decide)
  obtain ⟨rfl, N1q, K1, V_d_c1⟩ := hQ1
  have N1 := Fr.app N0 N1q
  have V_b := V_b.keep K1 (ninS nbd nin0)
  have O := O.keep K1 (allS g_d all0)
  have K := K.trans K1 (allS (Or.inl (List.mem_of_getElem? (i := 0) rfl)) all0)
  have w2 : own_Go p e below f0 T1 m 9 #[.val (.ref b), .val (.int 0), .val (.ref d), .val (.int 0), .val (.int 2)] [] := fun t k => by
    refine pre0 t ?_
    refine zal X0 Hb d21_0 rfl rfl <| zil X0 Hb d21_1 rfl <| zal X0 Hb d21_2 rfl rfl <| zil X0 Hb d21_3 rfl <| ziL X0 Hb d21_4 rfl <| st1 _ ?_
    exact k
  exact own_oV X1 Hb Bd.notSynchronized Bd.returns w2 d21_9 rfl (by decide) (by decide) ⟨rfl, N1, K, V_d_c1⟩
theorem rm22_4_1 {l : Launch} {Z : State} {a0 : Array Value} (hw : own_W a0 Z) (b d : Addr) (kb : ClassId) (ya yb yc yt : Int32) (kd : ClassId) {zc : Int32} {fm : Value} {u8 : Addr} {h0 : Heap} {n0 : Nat} (O0 : Old Z n0 h0) (SU : own_SU Z zc fm u8) (V_b : Arv Z h0 b kb .byte (4 : Int32) [.int ya, .int yb, .int yc, .int yt] (.int 0)) (V_d : Arv Z h0 d kd .byte (8 : Int32) [.int 0, .int 0, .int 0, .int 0, .int 0, .int 0, .int 0, .int 0] (.int 0)) (nbd : b ≠ d) (g_d : n0 ≤ d) : own_M l own_n22 jdk_52_method_86_code 6 none (own_rm 3 0 0 43) Z h0 #[.ref b, .int 0, .ref d, .int 0, .int 1] (fun v h L => v = none ∧ Fr n0 L ∧ Keep h0 h [d] ∧ Arv Z h d kd .byte (8 : Int32) [(.int (own_lo (ya &&& (255 : Int32)))), (.int (own_hi (ya &&& (255 : Int32)))), .int 0, .int 0, .int 0, .int 0, .int 0, .int 0] (.int 0)) := by
  refine own_body (L0 := #[.val (.ref b), .val (.int 0), .val (.ref d), .val (.int 0), .val (.int 1), .unset]) (plainFor_of_name pn_java_lang_StringUTF16) rfl rfl ?_
  intro p e s m below meth c s₁ f0 Bd hx Hb hml hZ hown X0 e0 pre0
  have W := own_q hw
  have N0 := Fr.nil n0
  have O := O0
  have K := Keep.refl h0 [d]
  obtain ⟨_, T1, Lc1, X1, hQ1, st1⟩ := own_cS X0 Hb hZ hown hml (L := #[.val (.ref b), .val (.int 0), .val (.ref d), .val (.int 0), .val (.int 1), .unset]) rfl (rm23 hw (1 : Int32) d kd (8 : Int32) [.int 0, .int 0, .int 0, .int 0, .int 0, .int 0, .int 0, .int 0] O SU V_d (by decide) (by decide)) (W 126 rfl) (W 127 rfl) (W 21 rfl) (W 128 rfl) pd12 e0 d22_4 [.int 0, .int 1, .ref d] [] rfl rfl (by decide) 0 rfl (by decide)
  obtain ⟨rfl, N1q, eh1⟩ := hQ1
  have N1 := Fr.app N0 N1q
  have B2 : own_El Z h0 b .byte (0 : Int32) (.int ya) := own_el V_b ⟨by decide, by decide⟩ rfl
  obtain ⟨_, T3, Lc3, X3, hQ3, st3⟩ := own_cS X1 Hb hZ hown hml (L := #[.val (.ref b), .val (.int 1), .val (.ref d), .val (.int 1), .val (.int 1), .val (.int 0)]) rfl (rm19_0 hw d (ya &&& (255 : Int32)) kd (8 : Int32) (0 : Int32) (0 : Int32) [.int 0, .int 0, .int 0, .int 0, .int 0, .int 0] O SU V_d (by decide) (by decide) g_d) (W 110 rfl) (W 111 rfl) (W 21 rfl) (W 112 rfl) pd2 eh1 d22_32 [.ref d, .int 0, (.int (ya &&& (255 : Int32)))] [] rfl rfl (by decide) 0 rfl (by decide)
  obtain ⟨rfl, N3q, K3, V_d_c3⟩ := hQ3
  have N3 := Fr.app N1 N3q
  have V_b := V_b.keep K3 (ninS nbd nin0)
  have O := O.keep K3 (allS g_d all0)
  have K := K.trans K3 (allS (Or.inl (List.mem_of_getElem? (i := 0) rfl)) all0)
  have w4 : own_Go p e below f0 T3 m 41 #[.val (.ref b), .val (.int 1), .val (.ref d), .val (.int 1), .val (.int 1), .val (.int 1)] [] := fun t k => by
    refine pre0 t ?_
    refine zil X0 Hb d22_0 rfl <| ziL X0 Hb d22_1 rfl <| zal X0 Hb d22_3 rfl rfl <| st1 _ <| zic X1 Hb d22_7 0 rfl <| ziS X1 Hb d22_8 rfl <| ziL X1 Hb d22_10 rfl <| ziL X1 Hb d22_12 rfl ?_
    refine zcn X1 Hb d22_14 (tlt ((by decide) : (0 : Int32) < (1 : Int32))).2.1 <| zal X1 Hb d22_17 rfl rfl <| zil X1 Hb d22_18 rfl <| zii X1 Hb d22_19 rfl 1 rfl rfl <| zal X1 Hb d22_22 rfl rfl <| zil X1 Hb d22_23 rfl <| zii X1 Hb d22_24 rfl 1 rfl rfl <| zba X1 Hb hZ eh1 B2 d22_27 ?_
    refine zsp X1 Hb d22_28 255 rfl <| zan X1 Hb d22_31 <| st3 _ <| zii X3 Hb d22_35 rfl 1 rfl rfl <| zgo X3 Hb d22_38 10 (by decide) rfl <| ziL X3 Hb d22_10 rfl <| ziL X3 Hb d22_12 rfl <| zcy X3 Hb d22_14 (flt ((by decide) : ¬ ((1 : Int32) < (1 : Int32)))).2.1 41 (by decide) rfl ?_
    exact k
  exact own_oV X3 Hb Bd.notSynchronized Bd.returns w4 d22_41 rfl (by decide) (by decide) ⟨rfl, N3, K, V_d_c3⟩
theorem rm21_4_1 {l : Launch} {Z : State} {a0 : Array Value} (hw : own_W a0 Z) (b d : Addr) (kb : ClassId) (ya yb yc yt : Int32) (kd : ClassId) {zc : Int32} {fm : Value} {u8 : Addr} {h0 : Heap} {n0 : Nat} (O0 : Old Z n0 h0) (SU : own_SU Z zc fm u8) (V_b : Arv Z h0 b kb .byte (4 : Int32) [.int ya, .int yb, .int yc, .int yt] (.int 0)) (V_d : Arv Z h0 d kd .byte (8 : Int32) [.int 0, .int 0, .int 0, .int 0, .int 0, .int 0, .int 0, .int 0] (.int 0)) (nbd : b ≠ d) (g_d : n0 ≤ d) : own_M l own_n21 jdk_43_method_50_code 5 none (own_rm 4 0 0 60) Z h0 #[.ref b, .int 0, .ref d, .int 0, .int 1] (fun v h L => v = none ∧ Fr n0 L ∧ Keep h0 h [d] ∧ Arv Z h d kd .byte (8 : Int32) [(.int (own_lo (ya &&& (255 : Int32)))), (.int (own_hi (ya &&& (255 : Int32)))), .int 0, .int 0, .int 0, .int 0, .int 0, .int 0] (.int 0)) := by
  refine own_body (L0 := #[.val (.ref b), .val (.int 0), .val (.ref d), .val (.int 0), .val (.int 1)]) (plainFor_of_name pn_java_lang_StringLatin1) rfl rfl ?_
  intro p e s m below meth c s₁ f0 Bd hx Hb hml hZ hown X0 e0 pre0
  have W := own_q hw
  have N0 := Fr.nil n0
  have O := O0
  have K := Keep.refl h0 [d]
  obtain ⟨_, T1, Lc1, X1, hQ1, st1⟩ := own_cS X0 Hb hZ hown hml (L := #[.val (.ref b), .val (.int 0), .val (.ref d), .val (.int 0), .val (.int 1)]) rfl (rm22_4_1 hw b d kb ya yb yc yt kd O SU V_b V_d nbd g_d) (W 123 rfl) (W 124 rfl) (W 21 rfl) (W 125 rfl) pd13 e0 d21_6 [.ref b, .int 0, .ref d, .int 0, .int 1] [] rfl rfl (by decide) 0 rfl (by decide)
  obtain ⟨rfl, N1q, K1, V_d_c1⟩ := hQ1
  have N1 := Fr.app N0 N1q
  have V_b := V_b.keep K1 (ninS nbd nin0)
  have O := O.keep K1 (allS g_d all0)
  have K := K.trans K1 (allS (Or.inl (List.mem_of_getElem? (i := 0) rfl)) all0)
  have w2 : own_Go p e below f0 T1 m 9 #[.val (.ref b), .val (.int 0), .val (.ref d), .val (.int 0), .val (.int 1)] [] := fun t k => by
    refine pre0 t ?_
    refine zal X0 Hb d21_0 rfl rfl <| zil X0 Hb d21_1 rfl <| zal X0 Hb d21_2 rfl rfl <| zil X0 Hb d21_3 rfl <| ziL X0 Hb d21_4 rfl <| st1 _ ?_
    exact k
  exact own_oV X1 Hb Bd.notSynchronized Bd.returns w2 d21_9 rfl (by decide) (by decide) ⟨rfl, N1, K, V_d_c1⟩
theorem rm22_5_1 {l : Launch} {Z : State} {a0 : Array Value} (hw : own_W a0 Z) (b d : Addr) (kb : ClassId) (ya yb yc yd yt : Int32) (kd : ClassId) {zc : Int32} {fm : Value} {u8 : Addr} {h0 : Heap} {n0 : Nat} (O0 : Old Z n0 h0) (SU : own_SU Z zc fm u8) (V_b : Arv Z h0 b kb .byte (5 : Int32) [.int ya, .int yb, .int yc, .int yd, .int yt] (.int 0)) (V_d : Arv Z h0 d kd .byte (10 : Int32) [.int 0, .int 0, .int 0, .int 0, .int 0, .int 0, .int 0, .int 0, .int 0, .int 0] (.int 0)) (nbd : b ≠ d) (g_d : n0 ≤ d) : own_M l own_n22 jdk_52_method_86_code 6 none (own_rm 3 0 0 43) Z h0 #[.ref b, .int 0, .ref d, .int 0, .int 1] (fun v h L => v = none ∧ Fr n0 L ∧ Keep h0 h [d] ∧ Arv Z h d kd .byte (10 : Int32) [(.int (own_lo (ya &&& (255 : Int32)))), (.int (own_hi (ya &&& (255 : Int32)))), .int 0, .int 0, .int 0, .int 0, .int 0, .int 0, .int 0, .int 0] (.int 0)) := by
  refine own_body (L0 := #[.val (.ref b), .val (.int 0), .val (.ref d), .val (.int 0), .val (.int 1), .unset]) (plainFor_of_name pn_java_lang_StringUTF16) rfl rfl ?_
  intro p e s m below meth c s₁ f0 Bd hx Hb hml hZ hown X0 e0 pre0
  have W := own_q hw
  have N0 := Fr.nil n0
  have O := O0
  have K := Keep.refl h0 [d]
  obtain ⟨_, T1, Lc1, X1, hQ1, st1⟩ := own_cS X0 Hb hZ hown hml (L := #[.val (.ref b), .val (.int 0), .val (.ref d), .val (.int 0), .val (.int 1), .unset]) rfl (rm23 hw (1 : Int32) d kd (10 : Int32) [.int 0, .int 0, .int 0, .int 0, .int 0, .int 0, .int 0, .int 0, .int 0, .int 0] O SU V_d (by decide) (by decide)) (W 126 rfl) (W 127 rfl) (W 21 rfl) (W 128 rfl) pd12 e0 d22_4 [.int 0, .int 1, .ref d] [] rfl rfl (by decide) 0 rfl (by decide)
  obtain ⟨rfl, N1q, eh1⟩ := hQ1
  have N1 := Fr.app N0 N1q
  have B2 : own_El Z h0 b .byte (0 : Int32) (.int ya) := own_el V_b ⟨by decide, by decide⟩ rfl
  obtain ⟨_, T3, Lc3, X3, hQ3, st3⟩ := own_cS X1 Hb hZ hown hml (L := #[.val (.ref b), .val (.int 1), .val (.ref d), .val (.int 1), .val (.int 1), .val (.int 0)]) rfl (rm19_0 hw d (ya &&& (255 : Int32)) kd (10 : Int32) (0 : Int32) (0 : Int32) [.int 0, .int 0, .int 0, .int 0, .int 0, .int 0, .int 0, .int 0] O SU V_d (by decide) (by decide) g_d) (W 110 rfl) (W 111 rfl) (W 21 rfl) (W 112 rfl) pd2 eh1 d22_32 [.ref d, .int 0, (.int (ya &&& (255 : Int32)))] [] rfl rfl (by decide) 0 rfl (by decide)
  obtain ⟨rfl, N3q, K3, V_d_c3⟩ := hQ3
  have N3 := Fr.app N1 N3q
  have V_b := V_b.keep K3 (ninS nbd nin0)
  have O := O.keep K3 (allS g_d all0)
  have K := K.trans K3 (allS (Or.inl (List.mem_of_getElem? (i := 0) rfl)) all0)
  have w4 : own_Go p e below f0 T3 m 41 #[.val (.ref b), .val (.int 1), .val (.ref d), .val (.int 1), .val (.int 1), .val (.int 1)] [] := fun t k => by
    refine pre0 t ?_
    refine zil X0 Hb d22_0 rfl <| ziL X0 Hb d22_1 rfl <| zal X0 Hb d22_3 rfl rfl <| st1 _ <| zic X1 Hb d22_7 0 rfl <| ziS X1 Hb d22_8 rfl <| ziL X1 Hb d22_10 rfl <| ziL X1 Hb d22_12 rfl ?_
    refine zcn X1 Hb d22_14 (tlt ((by decide) : (0 : Int32) < (1 : Int32))).2.1 <| zal X1 Hb d22_17 rfl rfl <| zil X1 Hb d22_18 rfl <| zii X1 Hb d22_19 rfl 1 rfl rfl <| zal X1 Hb d22_22 rfl rfl <| zil X1 Hb d22_23 rfl <| zii X1 Hb d22_24 rfl 1 rfl rfl <| zba X1 Hb hZ eh1 B2 d22_27 ?_
    refine zsp X1 Hb d22_28 255 rfl <| zan X1 Hb d22_31 <| st3 _ <| zii X3 Hb d22_35 rfl 1 rfl rfl <| zgo X3 Hb d22_38 10 (by decide) rfl <| ziL X3 Hb d22_10 rfl <| ziL X3 Hb d22_12 rfl <| zcy X3 Hb d22_14 (flt ((by decide) : ¬ ((1 : Int32) < (1 : Int32)))).2.1 41 (by decide) rfl ?_
    exact k
  exact own_oV X3 Hb Bd.notSynchronized Bd.returns w4 d22_41 rfl (by decide) (by decide) ⟨rfl, N3, K, V_d_c3⟩
theorem rm21_5_1 {l : Launch} {Z : State} {a0 : Array Value} (hw : own_W a0 Z) (b d : Addr) (kb : ClassId) (ya yb yc yd yt : Int32) (kd : ClassId) {zc : Int32} {fm : Value} {u8 : Addr} {h0 : Heap} {n0 : Nat} (O0 : Old Z n0 h0) (SU : own_SU Z zc fm u8) (V_b : Arv Z h0 b kb .byte (5 : Int32) [.int ya, .int yb, .int yc, .int yd, .int yt] (.int 0)) (V_d : Arv Z h0 d kd .byte (10 : Int32) [.int 0, .int 0, .int 0, .int 0, .int 0, .int 0, .int 0, .int 0, .int 0, .int 0] (.int 0)) (nbd : b ≠ d) (g_d : n0 ≤ d) : own_M l own_n21 jdk_43_method_50_code 5 none (own_rm 4 0 0 60) Z h0 #[.ref b, .int 0, .ref d, .int 0, .int 1] (fun v h L => v = none ∧ Fr n0 L ∧ Keep h0 h [d] ∧ Arv Z h d kd .byte (10 : Int32) [(.int (own_lo (ya &&& (255 : Int32)))), (.int (own_hi (ya &&& (255 : Int32)))), .int 0, .int 0, .int 0, .int 0, .int 0, .int 0, .int 0, .int 0] (.int 0)) := by
  refine own_body (L0 := #[.val (.ref b), .val (.int 0), .val (.ref d), .val (.int 0), .val (.int 1)]) (plainFor_of_name pn_java_lang_StringLatin1) rfl rfl ?_
  intro p e s m below meth c s₁ f0 Bd hx Hb hml hZ hown X0 e0 pre0
  have W := own_q hw
  have N0 := Fr.nil n0
  have O := O0
  have K := Keep.refl h0 [d]
  obtain ⟨_, T1, Lc1, X1, hQ1, st1⟩ := own_cS X0 Hb hZ hown hml (L := #[.val (.ref b), .val (.int 0), .val (.ref d), .val (.int 0), .val (.int 1)]) rfl (rm22_5_1 hw b d kb ya yb yc yd yt kd O SU V_b V_d nbd g_d) (W 123 rfl) (W 124 rfl) (W 21 rfl) (W 125 rfl) pd13 e0 d21_6 [.ref b, .int 0, .ref d, .int 0, .int 1] [] rfl rfl (by decide) 0 rfl (by decide)
  obtain ⟨rfl, N1q, K1, V_d_c1⟩ := hQ1
  have N1 := Fr.app N0 N1q
  have V_b := V_b.keep K1 (ninS nbd nin0)
  have O := O.keep K1 (allS g_d all0)
  have K := K.trans K1 (allS (Or.inl (List.mem_of_getElem? (i := 0) rfl)) all0)
  have w2 : own_Go p e below f0 T1 m 9 #[.val (.ref b), .val (.int 0), .val (.ref d), .val (.int 0), .val (.int 1)] [] := fun t k => by
    refine pre0 t ?_
    refine zal X0 Hb d21_0 rfl rfl <| zil X0 Hb d21_1 rfl <| zal X0 Hb d21_2 rfl rfl <| zil X0 Hb d21_3 rfl <| ziL X0 Hb d21_4 rfl <| st1 _ ?_
    exact k
  exact own_oV X1 Hb Bd.notSynchronized Bd.returns w2 d21_9 rfl (by decide) (by decide) ⟨rfl, N1, K, V_d_c1⟩
theorem rm22_6_1 {l : Launch} {Z : State} {a0 : Array Value} (hw : own_W a0 Z) (b d : Addr) (kb : ClassId) (ya yb yc yd ye yt : Int32) (kd : ClassId) {zc : Int32} {fm : Value} {u8 : Addr} {h0 : Heap} {n0 : Nat} (O0 : Old Z n0 h0) (SU : own_SU Z zc fm u8) (V_b : Arv Z h0 b kb .byte (6 : Int32) [.int ya, .int yb, .int yc, .int yd, .int ye, .int yt] (.int 0)) (V_d : Arv Z h0 d kd .byte (12 : Int32) [.int 0, .int 0, .int 0, .int 0, .int 0, .int 0, .int 0, .int 0, .int 0, .int 0, .int 0, .int 0] (.int 0)) (nbd : b ≠ d) (g_d : n0 ≤ d) : own_M l own_n22 jdk_52_method_86_code 6 none (own_rm 3 0 0 43) Z h0 #[.ref b, .int 0, .ref d, .int 0, .int 1] (fun v h L => v = none ∧ Fr n0 L ∧ Keep h0 h [d] ∧ Arv Z h d kd .byte (12 : Int32) [(.int (own_lo (ya &&& (255 : Int32)))), (.int (own_hi (ya &&& (255 : Int32)))), .int 0, .int 0, .int 0, .int 0, .int 0, .int 0, .int 0, .int 0, .int 0, .int 0] (.int 0)) := by
  refine own_body (L0 := #[.val (.ref b), .val (.int 0), .val (.ref d), .val (.int 0), .val (.int 1), .unset]) (plainFor_of_name pn_java_lang_StringUTF16) rfl rfl ?_
  intro p e s m below meth c s₁ f0 Bd hx Hb hml hZ hown X0 e0 pre0
  have W := own_q hw
  have N0 := Fr.nil n0
  have O := O0
  have K := Keep.refl h0 [d]
  obtain ⟨_, T1, Lc1, X1, hQ1, st1⟩ := own_cS X0 Hb hZ hown hml (L := #[.val (.ref b), .val (.int 0), .val (.ref d), .val (.int 0), .val (.int 1), .unset]) rfl (rm23 hw (1 : Int32) d kd (12 : Int32) [.int 0, .int 0, .int 0, .int 0, .int 0, .int 0, .int 0, .int 0, .int 0, .int 0, .int 0, .int 0] O SU V_d (by decide) (by decide)) (W 126 rfl) (W 127 rfl) (W 21 rfl) (W 128 rfl) pd12 e0 d22_4 [.int 0, .int 1, .ref d] [] rfl rfl (by decide) 0 rfl (by decide)
  obtain ⟨rfl, N1q, eh1⟩ := hQ1
  have N1 := Fr.app N0 N1q
  have B2 : own_El Z h0 b .byte (0 : Int32) (.int ya) := own_el V_b ⟨by decide, by decide⟩ rfl
  obtain ⟨_, T3, Lc3, X3, hQ3, st3⟩ := own_cS X1 Hb hZ hown hml (L := #[.val (.ref b), .val (.int 1), .val (.ref d), .val (.int 1), .val (.int 1), .val (.int 0)]) rfl (rm19_0 hw d (ya &&& (255 : Int32)) kd (12 : Int32) (0 : Int32) (0 : Int32) [.int 0, .int 0, .int 0, .int 0, .int 0, .int 0, .int 0, .int 0, .int 0, .int 0] O SU V_d (by decide) (by decide) g_d) (W 110 rfl) (W 111 rfl) (W 21 rfl) (W 112 rfl) pd2 eh1 d22_32 [.ref d, .int 0, (.int (ya &&& (255 : Int32)))] [] rfl rfl (by decide) 0 rfl (by decide)
  obtain ⟨rfl, N3q, K3, V_d_c3⟩ := hQ3
  have N3 := Fr.app N1 N3q
  have V_b := V_b.keep K3 (ninS nbd nin0)
  have O := O.keep K3 (allS g_d all0)
  have K := K.trans K3 (allS (Or.inl (List.mem_of_getElem? (i := 0) rfl)) all0)
  have w4 : own_Go p e below f0 T3 m 41 #[.val (.ref b), .val (.int 1), .val (.ref d), .val (.int 1), .val (.int 1), .val (.int 1)] [] := fun t k => by
    refine pre0 t ?_
    refine zil X0 Hb d22_0 rfl <| ziL X0 Hb d22_1 rfl <| zal X0 Hb d22_3 rfl rfl <| st1 _ <| zic X1 Hb d22_7 0 rfl <| ziS X1 Hb d22_8 rfl <| ziL X1 Hb d22_10 rfl <| ziL X1 Hb d22_12 rfl ?_
    refine zcn X1 Hb d22_14 (tlt ((by decide) : (0 : Int32) < (1 : Int32))).2.1 <| zal X1 Hb d22_17 rfl rfl <| zil X1 Hb d22_18 rfl <| zii X1 Hb d22_19 rfl 1 rfl rfl <| zal X1 Hb d22_22 rfl rfl <| zil X1 Hb d22_23 rfl <| zii X1 Hb d22_24 rfl 1 rfl rfl <| zba X1 Hb hZ eh1 B2 d22_27 ?_
    refine zsp X1 Hb d22_28 255 rfl <| zan X1 Hb d22_31 <| st3 _ <| zii X3 Hb d22_35 rfl 1 rfl rfl <| zgo X3 Hb d22_38 10 (by decide) rfl <| ziL X3 Hb d22_10 rfl <| ziL X3 Hb d22_12 rfl <| zcy X3 Hb d22_14 (flt ((by decide) : ¬ ((1 : Int32) < (1 : Int32)))).2.1 41 (by decide) rfl ?_
    exact k
  exact own_oV X3 Hb Bd.notSynchronized Bd.returns w4 d22_41 rfl (by decide) (by decide) ⟨rfl, N3, K, V_d_c3⟩
theorem rm21_6_1 {l : Launch} {Z : State} {a0 : Array Value} (hw : own_W a0 Z) (b d : Addr) (kb : ClassId) (ya yb yc yd ye yt : Int32) (kd : ClassId) {zc : Int32} {fm : Value} {u8 : Addr} {h0 : Heap} {n0 : Nat} (O0 : Old Z n0 h0) (SU : own_SU Z zc fm u8) (V_b : Arv Z h0 b kb .byte (6 : Int32) [.int ya, .int yb, .int yc, .int yd, .int ye, .int yt] (.int 0)) (V_d : Arv Z h0 d kd .byte (12 : Int32) [.int 0, .int 0, .int 0, .int 0, .int 0, .int 0, .int 0, .int 0, .int 0, .int 0, .int 0, .int 0] (.int 0)) (nbd : b ≠ d) (g_d : n0 ≤ d) : own_M l own_n21 jdk_43_method_50_code 5 none (own_rm 4 0 0 60) Z h0 #[.ref b, .int 0, .ref d, .int 0, .int 1] (fun v h L => v = none ∧ Fr n0 L ∧ Keep h0 h [d] ∧ Arv Z h d kd .byte (12 : Int32) [(.int (own_lo (ya &&& (255 : Int32)))), (.int (own_hi (ya &&& (255 : Int32)))), .int 0, .int 0, .int 0, .int 0, .int 0, .int 0, .int 0, .int 0, .int 0, .int 0] (.int 0)) := by
  refine own_body (L0 := #[.val (.ref b), .val (.int 0), .val (.ref d), .val (.int 0), .val (.int 1)]) (plainFor_of_name pn_java_lang_StringLatin1) rfl rfl ?_
  intro p e s m below meth c s₁ f0 Bd hx Hb hml hZ hown X0 e0 pre0
  have W := own_q hw
  have N0 := Fr.nil n0
  have O := O0
  have K := Keep.refl h0 [d]
  obtain ⟨_, T1, Lc1, X1, hQ1, st1⟩ := own_cS X0 Hb hZ hown hml (L := #[.val (.ref b), .val (.int 0), .val (.ref d), .val (.int 0), .val (.int 1)]) rfl (rm22_6_1 hw b d kb ya yb yc yd ye yt kd O SU V_b V_d nbd g_d) (W 123 rfl) (W 124 rfl) (W 21 rfl) (W 125 rfl) pd13 e0 d21_6 [.ref b, .int 0, .ref d, .int 0, .int 1] [] rfl rfl (by decide) 0 rfl (by decide)
  obtain ⟨rfl, N1q, K1, V_d_c1⟩ := hQ1
  have N1 := Fr.app N0 N1q
  have V_b := V_b.keep K1 (ninS nbd nin0)
  have O := O.keep K1 (allS g_d all0)
  have K := K.trans K1 (allS (Or.inl (List.mem_of_getElem? (i := 0) rfl)) all0)
  have w2 : own_Go p e below f0 T1 m 9 #[.val (.ref b), .val (.int 0), .val (.ref d), .val (.int 0), .val (.int 1)] [] := fun t k => by
    refine pre0 t ?_
    refine zal X0 Hb d21_0 rfl rfl <| zil X0 Hb d21_1 rfl <| zal X0 Hb d21_2 rfl rfl <| zil X0 Hb d21_3 rfl <| ziL X0 Hb d21_4 rfl <| st1 _ ?_
    exact k
  exact own_oV X1 Hb Bd.notSynchronized Bd.returns w2 d21_9 rfl (by decide) (by decide) ⟨rfl, N1, K, V_d_c1⟩
abbrev B36 := jdk_42_method_35_code
theorem d36_0 : decode B36 0 = .ok (.iload_n 0, 1) := by decide +kernel
theorem d36_1 : decode B36 1 = .ok (.bipush 6, 2) := by decide +kernel
theorem d36_3 : decode B36 3 = .ok (.ishl, 1) := by decide +kernel
theorem d36_4 : decode B36 4 = .ok (.iload_n 1, 1) := by decide +kernel
theorem d36_5 : decode B36 5 = .ok (.ixor, 1) := by decide +kernel
theorem d36_6 : decode B36 6 = .ok (.sipush 3968, 3) := by decide +kernel
theorem d36_9 : decode B36 9 = .ok (.ixor, 1) := by decide +kernel
theorem d36_10 : decode B36 10 = .ok (.i2c, 1) := by decide +kernel
theorem d36_11 : decode B36 11 = .ok (.ireturn, 1) := by decide +kernel
theorem rm36 {l : Launch} {Z : State} {a0 : Array Value} (hw : own_W a0 Z) (ya yb cw : Int32) {h0 : Heap} {n0 : Nat} (O0 : Old Z n0 h0) (hd : own_d2 ya yb = cw) : own_M l own_n36 jdk_42_method_35_code 2 (some .char) (own_rm 0 0 0 0) Z h0 #[.int ya, .int yb] (fun v h L => v = some (.int cw) ∧ Fr n0 L ∧ h = h0) := by
  refine own_body (L0 := #[.val (.int ya), .val (.int yb)]) (plainFor_of_name pn_java_lang_String) rfl rfl ?_
  intro p e s m below meth c s₁ f0 Bd hx Hb hml hZ hown X0 e0 pre0
  have N0 := Fr.nil n0
  have O := O0
  have w1 : own_Go p e below f0 s₁ m 11 #[.val (.int ya), .val (.int yb)] [(.int ((((ya <<< ((6 : Int32) &&& 31)) ^^^ yb) ^^^ (3968 : Int32)).toUInt32.toUInt16.toUInt32.toInt32))] := fun t k => by
    refine pre0 t ?_
    refine zil X0 Hb d36_0 rfl <| zbp X0 Hb d36_1 6 rfl <| zsl X0 Hb d36_3 <| zil X0 Hb d36_4 rfl <| zxo X0 Hb d36_5 <| zsp X0 Hb d36_6 3968 rfl <| zxo X0 Hb d36_9 <| zik X0 Hb d36_10 ?_
    exact k
  exact own_oN X0 Hb Bd.notSynchronized Bd.returns (by simp) w1 d36_11 e0 (by decide) (by decide) ⟨(congrArg (fun x => some (Value.int x)) hd), N0, rfl⟩
abbrev B38 := jdk_42_method_36_code
theorem d38_0 : decode B38 0 = .ok (.iload_n 0, 1) := by decide +kernel
theorem d38_1 : decode B38 1 = .ok (.bipush 12, 2) := by decide +kernel
theorem d38_3 : decode B38 3 = .ok (.ishl, 1) := by decide +kernel
theorem d38_4 : decode B38 4 = .ok (.iload_n 1, 1) := by decide +kernel
theorem d38_5 : decode B38 5 = .ok (.bipush 6, 2) := by decide +kernel
theorem d38_7 : decode B38 7 = .ok (.ishl, 1) := by decide +kernel
theorem d38_8 : decode B38 8 = .ok (.ixor, 1) := by decide +kernel
theorem d38_9 : decode B38 9 = .ok (.iload_n 2, 1) := by decide +kernel
theorem d38_10 : decode B38 10 = .ok (.ldc_w 383, 3) := by decide +kernel
theorem d38_13 : decode B38 13 = .ok (.ixor, 1) := by decide +kernel
theorem d38_14 : decode B38 14 = .ok (.ixor, 1) := by decide +kernel
theorem d38_15 : decode B38 15 = .ok (.i2c, 1) := by decide +kernel
theorem d38_16 : decode B38 16 = .ok (.ireturn, 1) := by decide +kernel
theorem rm38 {l : Launch} {Z : State} {a0 : Array Value} (hw : own_W a0 Z) (ya yb yc cw : Int32) {h0 : Heap} {n0 : Nat} (O0 : Old Z n0 h0) (hd : own_d3 ya yb yc = cw) : own_M l own_n38 jdk_42_method_36_code 3 (some .char) (own_rm 0 0 0 0) Z h0 #[.int ya, .int yb, .int yc] (fun v h L => v = some (.int cw) ∧ Fr n0 L ∧ h = h0) := by
  refine own_body (L0 := #[.val (.int ya), .val (.int yb), .val (.int yc)]) (plainFor_of_name pn_java_lang_String) rfl rfl ?_
  intro p e s m below meth c s₁ f0 Bd hx Hb hml hZ hown X0 e0 pre0
  have hby := Hb.2
  have W := own_q hw
  have N0 := Fr.nil n0
  have O := O0
  have w1 : own_Go p e below f0 s₁ m 16 #[.val (.int ya), .val (.int yb), .val (.int yc)] [(.int ((((ya <<< ((12 : Int32) &&& 31)) ^^^ (yb <<< ((6 : Int32) &&& 31))) ^^^ (yc ^^^ (-123008 : Int32))).toUInt32.toUInt16.toUInt32.toInt32))] := fun t k => by
    refine pre0 t ?_
    refine zil X0 Hb d38_0 rfl <| zbp X0 Hb d38_1 12 rfl <| zsl X0 Hb d38_3 <| zil X0 Hb d38_4 rfl <| zbp X0 Hb d38_5 6 rfl <| zsl X0 Hb d38_7 <| zxo X0 Hb d38_8 <| zil X0 Hb d38_9 rfl ?_
    refine X0.ldcwInt hx hown (mvT hZ (W 189 rfl)) (g := (mkF m 10 #[.val (.int ya), .val (.int yb), .val (.int yc)] [.int yc, (.int ((ya <<< ((12 : Int32) &&& 31)) ^^^ (yb <<< ((6 : Int32) &&& 31))))])) rfl (hb hby d38_10) _ <| zxo X0 Hb d38_13 <| zxo X0 Hb d38_14 <| zik X0 Hb d38_15 ?_
    exact k
  exact own_oN X0 Hb Bd.notSynchronized Bd.returns (by simp) w1 d38_16 e0 (by decide) (by decide) ⟨(congrArg (fun x => some (Value.int x)) hd), N0, rfl⟩
abbrev B28 := jdk_42_method_37_code
theorem d28_0 : decode B28 0 = .ok (.iload_n 0, 1) := by decide +kernel
theorem d28_1 : decode B28 1 = .ok (.bipush 18, 2) := by decide +kernel
theorem d28_3 : decode B28 3 = .ok (.ishl, 1) := by decide +kernel
theorem d28_4 : decode B28 4 = .ok (.iload_n 1, 1) := by decide +kernel
theorem d28_5 : decode B28 5 = .ok (.bipush 12, 2) := by decide +kernel
theorem d28_7 : decode B28 7 = .ok (.ishl, 1) := by decide +kernel
theorem d28_8 : decode B28 8 = .ok (.ixor, 1) := by decide +kernel
theorem d28_9 : decode B28 9 = .ok (.iload_n 2, 1) := by decide +kernel
theorem d28_10 : decode B28 10 = .ok (.bipush 6, 2) := by decide +kernel
theorem d28_12 : decode B28 12 = .ok (.ishl, 1) := by decide +kernel
theorem d28_13 : decode B28 13 = .ok (.ixor, 1) := by decide +kernel
theorem d28_14 : decode B28 14 = .ok (.iload_n 3, 1) := by decide +kernel
theorem d28_15 : decode B28 15 = .ok (.ldc_w 384, 3) := by decide +kernel
theorem d28_18 : decode B28 18 = .ok (.ixor, 1) := by decide +kernel
theorem d28_19 : decode B28 19 = .ok (.ixor, 1) := by decide +kernel
theorem d28_20 : decode B28 20 = .ok (.ireturn, 1) := by decide +kernel
theorem rm28 {l : Launch} {Z : State} {a0 : Array Value} (hw : own_W a0 Z) (ya yb yc yd cw : Int32) {h0 : Heap} {n0 : Nat} (O0 : Old Z n0 h0) (hd : own_d4 ya yb yc yd = cw) : own_M l own_n28 jdk_42_method_37_code 4 (some .int) (own_rm 0 0 0 0) Z h0 #[.int ya, .int yb, .int yc, .int yd] (fun v h L => v = some (.int cw) ∧ Fr n0 L ∧ h = h0) := by
  refine own_body (L0 := #[.val (.int ya), .val (.int yb), .val (.int yc), .val (.int yd)]) (plainFor_of_name pn_java_lang_String) rfl rfl ?_
  intro p e s m below meth c s₁ f0 Bd hx Hb hml hZ hown X0 e0 pre0
  have hby := Hb.2
  have W := own_q hw
  have N0 := Fr.nil n0
  have O := O0
  have w1 : own_Go p e below f0 s₁ m 20 #[.val (.int ya), .val (.int yb), .val (.int yc), .val (.int yd)] [(.int ((((ya <<< ((18 : Int32) &&& 31)) ^^^ (yb <<< ((12 : Int32) &&& 31))) ^^^ (yc <<< ((6 : Int32) &&& 31))) ^^^ (yd ^^^ (3678080 : Int32))))] := fun t k => by
    refine pre0 t ?_
    refine zil X0 Hb d28_0 rfl <| zbp X0 Hb d28_1 18 rfl <| zsl X0 Hb d28_3 <| zil X0 Hb d28_4 rfl <| zbp X0 Hb d28_5 12 rfl <| zsl X0 Hb d28_7 <| zxo X0 Hb d28_8 <| zil X0 Hb d28_9 rfl ?_
    refine zbp X0 Hb d28_10 6 rfl <| zsl X0 Hb d28_12 <| zxo X0 Hb d28_13 <| zil X0 Hb d28_14 rfl <| X0.ldcwInt hx hown (mvT hZ (W 146 rfl)) (g := (mkF m 15 #[.val (.int ya), .val (.int yb), .val (.int yc), .val (.int yd)] [.int yd, (.int (((ya <<< ((18 : Int32) &&& 31)) ^^^ (yb <<< ((12 : Int32) &&& 31))) ^^^ (yc <<< ((6 : Int32) &&& 31))))])) rfl (hb hby d28_15) _ <| zxo X0 Hb d28_18 <| zxo X0 Hb d28_19 ?_
    exact k
  exact own_oI X0 Hb Bd.notSynchronized Bd.returns w1 d28_20 e0 (by decide) (by decide) ⟨(congrArg (fun x => some (Value.int x)) hd), N0, rfl⟩
abbrev B35 := jdk_42_method_29_code
theorem d35_0 : decode B35 0 = .ok (.iload_n 0, 1) := by decide +kernel
theorem d35_1 : decode B35 1 = .ok (.sipush 192, 3) := by decide +kernel
theorem d35_4 : decode B35 4 = .ok (.iand, 1) := by decide +kernel
theorem d35_5 : decode B35 5 = .ok (.sipush 128, 3) := by decide +kernel
theorem d35_8 : decode B35 8 = .ok (.if_icmp .eq 7, 3) := by decide +kernel
theorem d35_15 : decode B35 15 = .ok (.iconst 0, 1) := by decide +kernel
theorem d35_16 : decode B35 16 = .ok (.ireturn, 1) := by decide +kernel
theorem rm35 {l : Launch} {Z : State} {a0 : Array Value} (hw : own_W a0 Z) (ya : Int32) {h0 : Heap} {n0 : Nat} (O0 : Old Z n0 h0) (ha : (ya &&& (192 : Int32)) = (128 : Int32)) : own_M l own_n35 jdk_42_method_29_code 1 (some .boolean) (own_rm 0 0 0 0) Z h0 #[.int ya] (fun v h L => v = some (.int 0) ∧ Fr n0 L ∧ h = h0) := by
  refine own_body (L0 := #[.val (.int ya)]) (plainFor_of_name pn_java_lang_String) rfl rfl ?_
  intro p e s m below meth c s₁ f0 Bd hx Hb hml hZ hown X0 e0 pre0
  have N0 := Fr.nil n0
  have O := O0
  have w1 : own_Go p e below f0 s₁ m 16 #[.val (.int ya)] [.int 0] := fun t k => by
    refine pre0 t ?_
    refine zil X0 Hb d35_0 rfl <| zsp X0 Hb d35_1 192 rfl <| zan X0 Hb d35_4 <| zsp X0 Hb d35_5 128 rfl <| zcy X0 Hb d35_8 (teq (ha : (ya &&& (192 : Int32)) = (128 : Int32))).1 15 (by decide) rfl <| zic X0 Hb d35_15 0 rfl ?_
    exact k
  exact own_oN X0 Hb Bd.notSynchronized Bd.returns (by simp) w1 d35_16 e0 (by decide) (by decide) ⟨rfl, N0, rfl⟩
abbrev B37 := jdk_42_method_30_code
theorem d37_0 : decode B37 0 = .ok (.iload_n 0, 1) := by decide +kernel
theorem d37_1 : decode B37 1 = .ok (.bipush (-32), 2) := by decide +kernel
theorem d37_3 : decode B37 3 = .ok (.if_icmp .ne 14, 3) := by decide +kernel
theorem d37_6 : decode B37 6 = .ok (.iload_n 1, 1) := by decide +kernel
theorem d37_7 : decode B37 7 = .ok (.sipush 224, 3) := by decide +kernel
theorem d37_10 : decode B37 10 = .ok (.iand, 1) := by decide +kernel
theorem d37_11 : decode B37 11 = .ok (.sipush 128, 3) := by decide +kernel
theorem d37_14 : decode B37 14 = .ok (.if_icmp .eq 25, 3) := by decide +kernel
theorem d37_17 : decode B37 17 = .ok (.iload_n 1, 1) := by decide +kernel
theorem d37_18 : decode B37 18 = .ok (.sipush 192, 3) := by decide +kernel
theorem d37_21 : decode B37 21 = .ok (.iand, 1) := by decide +kernel
theorem d37_22 : decode B37 22 = .ok (.sipush 128, 3) := by decide +kernel
theorem d37_25 : decode B37 25 = .ok (.if_icmp .ne 14, 3) := by decide +kernel
theorem d37_28 : decode B37 28 = .ok (.iload_n 2, 1) := by decide +kernel
theorem d37_29 : decode B37 29 = .ok (.sipush 192, 3) := by decide +kernel
theorem d37_32 : decode B37 32 = .ok (.iand, 1) := by decide +kernel
theorem d37_33 : decode B37 33 = .ok (.sipush 128, 3) := by decide +kernel
theorem d37_36 : decode B37 36 = .ok (.if_icmp .eq 7, 3) := by decide +kernel
theorem d37_43 : decode B37 43 = .ok (.iconst 0, 1) := by decide +kernel
theorem d37_44 : decode B37 44 = .ok (.ireturn, 1) := by decide +kernel
theorem rm37 {l : Launch} {Z : State} {a0 : Array Value} (hw : own_W a0 Z) (ya yb yc : Int32) {h0 : Heap} {n0 : Nat} (O0 : Old Z n0 h0) (ha : ya = (-32 : Int32) → ¬ (yb &&& (224 : Int32)) = (128 : Int32)) (hbb : (yb &&& (192 : Int32)) = (128 : Int32)) (hc : (yc &&& (192 : Int32)) = (128 : Int32)) : own_M l own_n37 jdk_42_method_30_code 3 (some .boolean) (own_rm 0 0 0 0) Z h0 #[.int ya, .int yb, .int yc] (fun v h L => v = some (.int 0) ∧ Fr n0 L ∧ h = h0) := by
  refine own_body (L0 := #[.val (.int ya), .val (.int yb), .val (.int yc)]) (plainFor_of_name pn_java_lang_String) rfl rfl ?_
  intro p e s m below meth c s₁ f0 Bd hx Hb hml hZ hown X0 e0 pre0
  have N0 := Fr.nil n0
  have O := O0
  have w1 : own_Go p e below f0 s₁ m 3 #[.val (.int ya), .val (.int yb), .val (.int yc)] [.int (-32), .int ya] := fun t k => by
    refine pre0 t ?_
    refine zil X0 Hb d37_0 rfl <| zbp X0 Hb d37_1 (-32) rfl ?_
    exact k
  by_cases hc3_2 : ya = (-32 : Int32)
  · have w3 : own_Go p e below f0 s₁ m 44 #[.val (.int ya), .val (.int yb), .val (.int yc)] [.int 0] := fun t k => by
      refine w1 t ?_
      refine zcn X0 Hb d37_3 (teq hc3_2).2 <| zil X0 Hb d37_6 rfl <| zsp X0 Hb d37_7 224 rfl <| zan X0 Hb d37_10 <| zsp X0 Hb d37_11 128 rfl <| zcn X0 Hb d37_14 (feq (ha hc3_2 : ¬ ((yb &&& (224 : Int32)) = (128 : Int32)))).1 <| zil X0 Hb d37_17 rfl <| zsp X0 Hb d37_18 192 rfl ?_
      refine zan X0 Hb d37_21 <| zsp X0 Hb d37_22 128 rfl <| zcn X0 Hb d37_25 (teq (hbb : (yb &&& (192 : Int32)) = (128 : Int32))).2 <| zil X0 Hb d37_28 rfl <| zsp X0 Hb d37_29 192 rfl <| zan X0 Hb d37_32 <| zsp X0 Hb d37_33 128 rfl <| zcy X0 Hb d37_36 (teq (hc : (yc &&& (192 : Int32)) = (128 : Int32))).1 43 (by decide) rfl ?_
      refine zic X0 Hb d37_43 0 rfl ?_
      exact k
    exact own_oN X0 Hb Bd.notSynchronized Bd.returns (by simp) w3 d37_44 e0 (by decide) (by decide) ⟨rfl, N0, rfl⟩
  · have w4 : own_Go p e below f0 s₁ m 44 #[.val (.int ya), .val (.int yb), .val (.int yc)] [.int 0] := fun t k => by
      refine w1 t ?_
      refine zcy X0 Hb d37_3 (feq hc3_2).2 17 (by decide) rfl <| zil X0 Hb d37_17 rfl <| zsp X0 Hb d37_18 192 rfl <| zan X0 Hb d37_21 <| zsp X0 Hb d37_22 128 rfl <| zcn X0 Hb d37_25 (teq (hbb : (yb &&& (192 : Int32)) = (128 : Int32))).2 <| zil X0 Hb d37_28 rfl <| zsp X0 Hb d37_29 192 rfl ?_
      refine zan X0 Hb d37_32 <| zsp X0 Hb d37_33 128 rfl <| zcy X0 Hb d37_36 (teq (hc : (yc &&& (192 : Int32)) = (128 : Int32))).1 43 (by decide) rfl <| zic X0 Hb d37_43 0 rfl ?_
      exact k
    exact own_oN X0 Hb Bd.notSynchronized Bd.returns (by simp) w4 d37_44 e0 (by decide) (by decide) ⟨rfl, N0, rfl⟩
abbrev B29 := jdk_42_method_32_code
theorem d29_0 : decode B29 0 = .ok (.iload_n 0, 1) := by decide +kernel
theorem d29_1 : decode B29 1 = .ok (.sipush 192, 3) := by decide +kernel
theorem d29_4 : decode B29 4 = .ok (.iand, 1) := by decide +kernel
theorem d29_5 : decode B29 5 = .ok (.sipush 128, 3) := by decide +kernel
theorem d29_8 : decode B29 8 = .ok (.if_icmp .ne 25, 3) := by decide +kernel
theorem d29_11 : decode B29 11 = .ok (.iload_n 1, 1) := by decide +kernel
theorem d29_12 : decode B29 12 = .ok (.sipush 192, 3) := by decide +kernel
theorem d29_15 : decode B29 15 = .ok (.iand, 1) := by decide +kernel
theorem d29_16 : decode B29 16 = .ok (.sipush 128, 3) := by decide +kernel
theorem d29_19 : decode B29 19 = .ok (.if_icmp .ne 14, 3) := by decide +kernel
theorem d29_22 : decode B29 22 = .ok (.iload_n 2, 1) := by decide +kernel
theorem d29_23 : decode B29 23 = .ok (.sipush 192, 3) := by decide +kernel
theorem d29_26 : decode B29 26 = .ok (.iand, 1) := by decide +kernel
theorem d29_27 : decode B29 27 = .ok (.sipush 128, 3) := by decide +kernel
theorem d29_30 : decode B29 30 = .ok (.if_icmp .eq 7, 3) := by decide +kernel
theorem d29_37 : decode B29 37 = .ok (.iconst 0, 1) := by decide +kernel
theorem d29_38 : decode B29 38 = .ok (.ireturn, 1) := by decide +kernel
theorem rm29 {l : Launch} {Z : State} {a0 : Array Value} (hw : own_W a0 Z) (ya yb yc : Int32) {h0 : Heap} {n0 : Nat} (O0 : Old Z n0 h0) (ha : (ya &&& (192 : Int32)) = (128 : Int32)) (hbb : (yb &&& (192 : Int32)) = (128 : Int32)) (hc : (yc &&& (192 : Int32)) = (128 : Int32)) : own_M l own_n29 jdk_42_method_32_code 3 (some .boolean) (own_rm 0 0 0 0) Z h0 #[.int ya, .int yb, .int yc] (fun v h L => v = some (.int 0) ∧ Fr n0 L ∧ h = h0) := by
  refine own_body (L0 := #[.val (.int ya), .val (.int yb), .val (.int yc)]) (plainFor_of_name pn_java_lang_String) rfl rfl ?_
  intro p e s m below meth c s₁ f0 Bd hx Hb hml hZ hown X0 e0 pre0
  have N0 := Fr.nil n0
  have O := O0
  have w1 : own_Go p e below f0 s₁ m 38 #[.val (.int ya), .val (.int yb), .val (.int yc)] [.int 0] := fun t k => by
    refine pre0 t ?_
    refine zil X0 Hb d29_0 rfl <| zsp X0 Hb d29_1 192 rfl <| zan X0 Hb d29_4 <| zsp X0 Hb d29_5 128 rfl <| zcn X0 Hb d29_8 (teq (ha : (ya &&& (192 : Int32)) = (128 : Int32))).2 <| zil X0 Hb d29_11 rfl <| zsp X0 Hb d29_12 192 rfl <| zan X0 Hb d29_15 ?_
    refine zsp X0 Hb d29_16 128 rfl <| zcn X0 Hb d29_19 (teq (hbb : (yb &&& (192 : Int32)) = (128 : Int32))).2 <| zil X0 Hb d29_22 rfl <| zsp X0 Hb d29_23 192 rfl <| zan X0 Hb d29_26 <| zsp X0 Hb d29_27 128 rfl <| zcy X0 Hb d29_30 (teq (hc : (yc &&& (192 : Int32)) = (128 : Int32))).1 37 (by decide) rfl <| zic X0 Hb d29_37 0 rfl ?_
    exact k
  exact own_oN X0 Hb Bd.notSynchronized Bd.returns (by simp) w1 d29_38 e0 (by decide) (by decide) ⟨rfl, N0, rfl⟩
abbrev B39 := jdk_89_method_16_code
theorem d39_0 : decode B39 0 = .ok (.iload_n 0, 1) := by decide +kernel
theorem d39_1 : decode B39 1 = .ok (.ldc 75, 2) := by decide +kernel
theorem d39_3 : decode B39 3 = .ok (.if_icmp .lt 13, 3) := by decide +kernel
theorem d39_16 : decode B39 16 = .ok (.iconst 0, 1) := by decide +kernel
theorem d39_17 : decode B39 17 = .ok (.ireturn, 1) := by decide +kernel
theorem d39_6 : decode B39 6 = .ok (.iload_n 0, 1) := by decide +kernel
theorem d39_7 : decode B39 7 = .ok (.ldc 77, 2) := by decide +kernel
theorem d39_9 : decode B39 9 = .ok (.if_icmp .ge 7, 3) := by decide +kernel
theorem pn_java_lang_Character : plainName "java/lang/Character" = true := by first | (simp [plainName, overriddenIn]; done) | decide +kernel
theorem rm39 {l : Launch} {Z : State} {a0 : Array Value} (hw : own_W a0 Z) (ya : Int32) {h0 : Heap} {n0 : Nat} (O0 : Old Z n0 h0) (ha : ¬ ya < (55296 : Int32) → ¬ ya < (57344 : Int32)) : own_M l own_n39 jdk_89_method_16_code 1 (some .boolean) (own_rm 0 0 0 0) Z h0 #[.int ya] (fun v h L => v = some (.int 0) ∧ Fr n0 L ∧ h = h0) := by
  refine own_body (L0 := #[.val (.int ya)]) (plainFor_of_name pn_java_lang_Character) rfl rfl ?_
  intro p e s m below meth c s₁ f0 Bd hx Hb hml hZ hown X0 e0 pre0
  have hby := Hb.2
  have W := own_q hw
  have N0 := Fr.nil n0
  have O := O0
  have w1 : own_Go p e below f0 s₁ m 3 #[.val (.int ya)] [.int 55296, .int ya] := fun t k => by
    refine pre0 t ?_
    refine zil X0 Hb d39_0 rfl <| X0.ldcInt hx hown (mvT hZ (W 193 rfl)) (g := (mkF m 1 #[.val (.int ya)] [.int ya])) rfl (hb hby d39_1) _ ?_
    exact k
  by_cases hc3_2 : ya < (55296 : Int32)
  · have w3 : own_Go p e below f0 s₁ m 17 #[.val (.int ya)] [.int 0] := fun t k => by
      refine w1 t ?_
      refine zcy X0 Hb d39_3 (tlt hc3_2).1 16 (by decide) rfl <| zic X0 Hb d39_16 0 rfl ?_
      exact k
    exact own_oN X0 Hb Bd.notSynchronized Bd.returns (by simp) w3 d39_17 e0 (by decide) (by decide) ⟨rfl, N0, rfl⟩
  · have w4 : own_Go p e below f0 s₁ m 17 #[.val (.int ya)] [.int 0] := fun t k => by
      refine w1 t ?_
      refine zcn X0 Hb d39_3 (flt hc3_2).1 <| zil X0 Hb d39_6 rfl <| X0.ldcInt hx hown (mvT hZ (W 194 rfl)) (g := (mkF m 7 #[.val (.int ya)] [.int ya])) rfl (hb hby d39_7) _ <| zcy X0 Hb d39_9 (flt (ha hc3_2 : ¬ (ya < (57344 : Int32)))).2.1 16 (by decide) rfl <| zic X0 Hb d39_16 0 rfl ?_
      exact k
    exact own_oN X0 Hb Bd.notSynchronized Bd.returns (by simp) w4 d39_17 e0 (by decide) (by decide) ⟨rfl, N0, rfl⟩
abbrev B30 := jdk_89_method_13_code
theorem d30_0 : decode B30 0 = .ok (.iload_n 0, 1) := by decide +kernel
theorem d30_1 : decode B30 1 = .ok (.ldc 73, 2) := by decide +kernel
theorem d30_3 : decode B30 3 = .ok (.if_icmp .lt 13, 3) := by decide +kernel
theorem d30_6 : decode B30 6 = .ok (.iload_n 0, 1) := by decide +kernel
theorem d30_7 : decode B30 7 = .ok (.ldc 74, 2) := by decide +kernel
theorem d30_9 : decode B30 9 = .ok (.if_icmp .ge 7, 3) := by decide +kernel
theorem d30_12 : decode B30 12 = .ok (.iconst 1, 1) := by decide +kernel
theorem d30_13 : decode B30 13 = .ok (.goto 4, 3) := by decide +kernel
theorem d30_17 : decode B30 17 = .ok (.ireturn, 1) := by decide +kernel
theorem rm30 {l : Launch} {Z : State} {a0 : Array Value} (hw : own_W a0 Z) (ya : Int32) {h0 : Heap} {n0 : Nat} (O0 : Old Z n0 h0) (ha : ¬ ya < (65536 : Int32)) (hbb : ya < (1114112 : Int32)) : own_M l own_n30 jdk_89_method_13_code 1 (some .boolean) (own_rm 0 0 0 0) Z h0 #[.int ya] (fun v h L => v = some (.int 1) ∧ Fr n0 L ∧ h = h0) := by
  refine own_body (L0 := #[.val (.int ya)]) (plainFor_of_name pn_java_lang_Character) rfl rfl ?_
  intro p e s m below meth c s₁ f0 Bd hx Hb hml hZ hown X0 e0 pre0
  have hby := Hb.2
  have W := own_q hw
  have N0 := Fr.nil n0
  have O := O0
  have w1 : own_Go p e below f0 s₁ m 17 #[.val (.int ya)] [.int 1] := fun t k => by
    refine pre0 t ?_
    refine zil X0 Hb d30_0 rfl <| X0.ldcInt hx hown (mvT hZ (W 154 rfl)) (g := (mkF m 1 #[.val (.int ya)] [.int ya])) rfl (hb hby d30_1) _ <| zcn X0 Hb d30_3 (flt (ha : ¬ (ya < (65536 : Int32)))).1 <| zil X0 Hb d30_6 rfl <| X0.ldcInt hx hown (mvT hZ (W 155 rfl)) (g := (mkF m 7 #[.val (.int ya)] [.int ya])) rfl (hb hby d30_7) _ <| zcn X0 Hb d30_9 (tlt (hbb : ya < (1114112 : Int32))).2.1 <| zic X0 Hb d30_12 1 rfl <| zgo X0 Hb d30_13 17 (by decide) rfl ?_
    exact k
  exact own_oN X0 Hb Bd.notSynchronized Bd.returns (by simp) w1 d30_17 e0 (by decide) (by decide) ⟨rfl, N0, rfl⟩
abbrev B31 := jdk_89_method_28_code
theorem d31_0 : decode B31 0 = .ok (.iload_n 0, 1) := by decide +kernel
theorem d31_1 : decode B31 1 = .ok (.bipush 10, 2) := by decide +kernel
theorem d31_3 : decode B31 3 = .ok (.iushr, 1) := by decide +kernel
theorem d31_4 : decode B31 4 = .ok (.ldc 110, 2) := by decide +kernel
theorem d31_6 : decode B31 6 = .ok (.iadd, 1) := by decide +kernel
theorem d31_7 : decode B31 7 = .ok (.i2c, 1) := by decide +kernel
theorem d31_8 : decode B31 8 = .ok (.ireturn, 1) := by decide +kernel
theorem rm31 {l : Launch} {Z : State} {a0 : Array Value} (hw : own_W a0 Z) (ya : Int32) {h0 : Heap} {n0 : Nat} (O0 : Old Z n0 h0) : own_M l own_n31 jdk_89_method_28_code 1 (some .char) (own_rm 0 0 0 0) Z h0 #[.int ya] (fun v h L => v = some (.int (own_hs ya)) ∧ Fr n0 L ∧ h = h0) := by
  refine own_body (L0 := #[.val (.int ya)]) (plainFor_of_name pn_java_lang_Character) rfl rfl ?_
  intro p e s m below meth c s₁ f0 Bd hx Hb hml hZ hown X0 e0 pre0
  have hby := Hb.2
  have W := own_q hw
  have N0 := Fr.nil n0
  have O := O0
  have w1 : own_Go p e below f0 s₁ m 8 #[.val (.int ya)] [(.int ((((ya.toUInt32 >>> ((10 : Int32) &&& 31).toUInt32).toInt32) + (55232 : Int32)).toUInt32.toUInt16.toUInt32.toInt32))] := fun t k => by
    refine pre0 t ?_
    refine zil X0 Hb d31_0 rfl <| zbp X0 Hb d31_1 10 rfl <| zus X0 Hb d31_3 <| X0.ldcInt hx hown (mvT hZ (W 159 rfl)) (g := (mkF m 4 #[.val (.int ya)] [(.int ((ya.toUInt32 >>> ((10 : Int32) &&& 31).toUInt32).toInt32))])) rfl (hb hby d31_4) _ <| zia X0 Hb d31_6 <| zik X0 Hb d31_7 ?_
    exact k
  exact own_oN X0 Hb Bd.notSynchronized Bd.returns (by simp) w1 d31_8 e0 (by decide) (by decide) ⟨rfl, N0, rfl⟩
abbrev B32 := jdk_89_method_29_code
theorem d32_0 : decode B32 0 = .ok (.iload_n 0, 1) := by decide +kernel
theorem d32_1 : decode B32 1 = .ok (.sipush 1023, 3) := by decide +kernel
theorem d32_4 : decode B32 4 = .ok (.iand, 1) := by decide +kernel
theorem d32_5 : decode B32 5 = .ok (.ldc 76, 2) := by decide +kernel
theorem d32_7 : decode B32 7 = .ok (.iadd, 1) := by decide +kernel
theorem d32_8 : decode B32 8 = .ok (.i2c, 1) := by decide +kernel
theorem d32_9 : decode B32 9 = .ok (.ireturn, 1) := by decide +kernel
theorem rm32 {l : Launch} {Z : State} {a0 : Array Value} (hw : own_W a0 Z) (ya : Int32) {h0 : Heap} {n0 : Nat} (O0 : Old Z n0 h0) : own_M l own_n32 jdk_89_method_29_code 1 (some .char) (own_rm 0 0 0 0) Z h0 #[.int ya] (fun v h L => v = some (.int (own_ls ya)) ∧ Fr n0 L ∧ h = h0) := by
  refine own_body (L0 := #[.val (.int ya)]) (plainFor_of_name pn_java_lang_Character) rfl rfl ?_
  intro p e s m below meth c s₁ f0 Bd hx Hb hml hZ hown X0 e0 pre0
  have hby := Hb.2
  have W := own_q hw
  have N0 := Fr.nil n0
  have O := O0
  have w1 : own_Go p e below f0 s₁ m 9 #[.val (.int ya)] [(.int (((ya &&& (1023 : Int32)) + (56320 : Int32)).toUInt32.toUInt16.toUInt32.toInt32))] := fun t k => by
    refine pre0 t ?_
    refine zil X0 Hb d32_0 rfl <| zsp X0 Hb d32_1 1023 rfl <| zan X0 Hb d32_4 <| X0.ldcInt hx hown (mvT hZ (W 164 rfl)) (g := (mkF m 5 #[.val (.int ya)] [(.int (ya &&& (1023 : Int32)))])) rfl (hb hby d32_5) _ <| zia X0 Hb d32_7 <| zik X0 Hb d32_8 ?_
    exact k
  exact own_oN X0 Hb Bd.notSynchronized Bd.returns (by simp) w1 d32_9 e0 (by decide) (by decide) ⟨rfl, N0, rfl⟩
abbrev B27 := jdk_42_method_38_code
theorem d27_0 : decode B27 0 = .ok (.iload_n 1, 1) := by decide +kernel
theorem d27_1 : decode B27 1 = .ok (.iload_n 2, 1) := by decide +kernel
theorem d27_2 : decode B27 2 = .ok (.if_icmp .ge 619, 3) := by decide +kernel
theorem d27_5 : decode B27 5 = .ok (.aload_n 0, 1) := by decide +kernel
theorem d27_6 : decode B27 6 = .ok (.iload_n 1, 1) := by decide +kernel
theorem d27_7 : decode B27 7 = .ok (.iinc 1 1, 3) := by decide +kernel
def own_F2 (x0 : Addr) (x1 : Int32) (x2 : Int32) (x3 : Addr) (x4 : Int32) (x5 : Int32) : Array Slot := #[.val (.ref x0), .val (.int x1), .val (.int x2), .val (.ref x3), .val (.int x4), .val (.int x5), .unset, .unset, .unset, .unset, .unset]
theorem d27_10 : decode B27 10 = .ok (.baload, 1) := by decide +kernel
theorem d27_11 : decode B27 11 = .ok (.istore 6, 2) := by decide +kernel
def own_F3 (x0 : Addr) (x1 : Int32) (x2 : Int32) (x3 : Addr) (x4 : Int32) (x5 : Int32) (x6 : Int32) : Array Slot := #[.val (.ref x0), .val (.int x1), .val (.int x2), .val (.ref x3), .val (.int x4), .val (.int x5), .val (.int x6), .unset, .unset, .unset, .unset]
theorem d27_13 : decode B27 13 = .ok (.iload 6, 2) := by decide +kernel
theorem d27_15 : decode B27 15 = .ok (.ifCond .lt 18, 3) := by decide +kernel
theorem d27_33 : decode B27 33 = .ok (.iload 6, 2) := by decide +kernel
theorem d27_35 : decode B27 35 = .ok (.iconst 5, 1) := by decide +kernel
theorem d27_36 : decode B27 36 = .ok (.ishr, 1) := by decide +kernel
theorem d27_37 : decode B27 37 = .ok (.bipush (-2), 2) := by decide +kernel
theorem d27_39 : decode B27 39 = .ok (.if_icmp .ne 104, 3) := by decide +kernel
theorem d27_42 : decode B27 42 = .ok (.iload 6, 2) := by decide +kernel
theorem d27_44 : decode B27 44 = .ok (.bipush 30, 2) := by decide +kernel
theorem d27_46 : decode B27 46 = .ok (.iand, 1) := by decide +kernel
theorem d27_47 : decode B27 47 = .ok (.ifCond .eq 96, 3) := by decide +kernel
theorem d27_143 : decode B27 143 = .ok (.iload 6, 2) := by decide +kernel
theorem d27_145 : decode B27 145 = .ok (.iconst 4, 1) := by decide +kernel
theorem d27_146 : decode B27 146 = .ok (.ishr, 1) := by decide +kernel
theorem d27_147 : decode B27 147 = .ok (.bipush (-2), 2) := by decide +kernel
theorem d27_149 : decode B27 149 = .ok (.if_icmp .ne 200, 3) := by decide +kernel
theorem d27_152 : decode B27 152 = .ok (.iload_n 1, 1) := by decide +kernel
theorem d27_153 : decode B27 153 = .ok (.iconst 1, 1) := by decide +kernel
theorem d27_154 : decode B27 154 = .ok (.iadd, 1) := by decide +kernel
theorem d27_155 : decode B27 155 = .ok (.iload_n 2, 1) := by decide +kernel
theorem d27_156 : decode B27 156 = .ok (.if_icmp .ge 127, 3) := by decide +kernel
theorem d27_283 : decode B27 283 = .ok (.iload_n 1, 1) := by decide +kernel
theorem d27_284 : decode B27 284 = .ok (.iload_n 2, 1) := by decide +kernel
theorem d27_285 : decode B27 285 = .ok (.if_icmp .ge 40, 3) := by decide +kernel
theorem d27_325 : decode B27 325 = .ok (.iload 5, 2) := by decide +kernel
theorem d27_327 : decode B27 327 = .ok (.ifCond .ne 8, 3) := by decide +kernel
theorem d27_335 : decode B27 335 = .ok (.aload_n 3, 1) := by decide +kernel
theorem d27_336 : decode B27 336 = .ok (.iload 4, 2) := by decide +kernel
theorem d27_338 : decode B27 338 = .ok (.iinc 4 1, 3) := by decide +kernel
theorem d27_341 : decode B27 341 = .ok (.ldc 132, 2) := by decide +kernel
theorem d27_343 : decode B27 343 = .ok (.invokestatic 64, 3) := by decide +kernel
theorem d27_346 : decode B27 346 = .ok (.goto 275, 3) := by decide +kernel
theorem d27_621 : decode B27 621 = .ok (.iload 4, 2) := by decide +kernel
theorem d27_623 : decode B27 623 = .ok (.ireturn, 1) := by decide +kernel
theorem d27_349 : decode B27 349 = .ok (.iload 6, 2) := by decide +kernel
theorem d27_351 : decode B27 351 = .ok (.iconst 3, 1) := by decide +kernel
theorem d27_352 : decode B27 352 = .ok (.ishr, 1) := by decide +kernel
theorem d27_353 : decode B27 353 = .ok (.bipush (-2), 2) := by decide +kernel
theorem d27_355 : decode B27 355 = .ok (.if_icmp .ne 240, 3) := by decide +kernel
theorem d27_358 : decode B27 358 = .ok (.iload_n 1, 1) := by decide +kernel
theorem d27_359 : decode B27 359 = .ok (.iconst 2, 1) := by decide +kernel
theorem d27_360 : decode B27 360 = .ok (.iadd, 1) := by decide +kernel
theorem d27_361 : decode B27 361 = .ok (.iload_n 2, 1) := by decide +kernel
theorem d27_362 : decode B27 362 = .ok (.if_icmp .ge 128, 3) := by decide +kernel
theorem d27_490 : decode B27 490 = .ok (.iload 6, 2) := by decide +kernel
theorem d27_492 : decode B27 492 = .ok (.sipush 255, 3) := by decide +kernel
theorem d27_495 : decode B27 495 = .ok (.iand, 1) := by decide +kernel
theorem d27_496 : decode B27 496 = .ok (.istore 6, 2) := by decide +kernel
theorem d27_498 : decode B27 498 = .ok (.iload 6, 2) := by decide +kernel
theorem d27_500 : decode B27 500 = .ok (.sipush 244, 3) := by decide +kernel
theorem d27_503 : decode B27 503 = .ok (.if_icmp .gt 23, 3) := by decide +kernel
theorem d27_526 : decode B27 526 = .ok (.iload 5, 2) := by decide +kernel
theorem d27_528 : decode B27 528 = .ok (.ifCond .ne 10, 3) := by decide +kernel
theorem d27_538 : decode B27 538 = .ok (.aload_n 3, 1) := by decide +kernel
theorem d27_539 : decode B27 539 = .ok (.iload 4, 2) := by decide +kernel
theorem d27_541 : decode B27 541 = .ok (.iinc 4 1, 3) := by decide +kernel
theorem d27_544 : decode B27 544 = .ok (.ldc 132, 2) := by decide +kernel
theorem d27_546 : decode B27 546 = .ok (.invokestatic 64, 3) := by decide +kernel
theorem d27_549 : decode B27 549 = .ok (.goto (-549), 3) := by decide +kernel
theorem d27_506 : decode B27 506 = .ok (.iload_n 1, 1) := by decide +kernel
theorem d27_507 : decode B27 507 = .ok (.iload_n 2, 1) := by decide +kernel
theorem d27_508 : decode B27 508 = .ok (.if_icmp .ge 44, 3) := by decide +kernel
theorem d27_552 : decode B27 552 = .ok (.iload 5, 2) := by decide +kernel
theorem d27_554 : decode B27 554 = .ok (.ifCond .ne 10, 3) := by decide +kernel
theorem d27_564 : decode B27 564 = .ok (.iinc 1 1, 3) := by decide +kernel
theorem d27_567 : decode B27 567 = .ok (.aload_n 3, 1) := by decide +kernel
theorem d27_568 : decode B27 568 = .ok (.iload 4, 2) := by decide +kernel
theorem d27_570 : decode B27 570 = .ok (.iinc 4 1, 3) := by decide +kernel
theorem d27_573 : decode B27 573 = .ok (.ldc 132, 2) := by decide +kernel
theorem d27_575 : decode B27 575 = .ok (.invokestatic 64, 3) := by decide +kernel
theorem d27_578 : decode B27 578 = .ok (.iload_n 1, 1) := by decide +kernel
theorem d27_579 : decode B27 579 = .ok (.iload_n 2, 1) := by decide +kernel
theorem d27_580 : decode B27 580 = .ok (.if_icmp .ge 41, 3) := by decide +kernel
theorem d27_595 : decode B27 595 = .ok (.iload 5, 2) := by decide +kernel
theorem d27_597 : decode B27 597 = .ok (.ifCond .ne 10, 3) := by decide +kernel
theorem d27_607 : decode B27 607 = .ok (.aload_n 3, 1) := by decide +kernel
theorem d27_608 : decode B27 608 = .ok (.iload 4, 2) := by decide +kernel
theorem d27_610 : decode B27 610 = .ok (.iinc 4 1, 3) := by decide +kernel
theorem d27_613 : decode B27 613 = .ok (.ldc 132, 2) := by decide +kernel
theorem d27_615 : decode B27 615 = .ok (.invokestatic 64, 3) := by decide +kernel
theorem d27_618 : decode B27 618 = .ok (.goto (-618), 3) := by decide +kernel
theorem d27_50 : decode B27 50 = .ok (.iload_n 1, 1) := by decide +kernel
theorem d27_51 : decode B27 51 = .ok (.iload_n 2, 1) := by decide +kernel
theorem d27_52 : decode B27 52 = .ok (.if_icmp .ge 67, 3) := by decide +kernel
theorem d27_119 : decode B27 119 = .ok (.iload 5, 2) := by decide +kernel
theorem d27_121 : decode B27 121 = .ok (.ifCond .ne 8, 3) := by decide +kernel
theorem d27_129 : decode B27 129 = .ok (.aload_n 3, 1) := by decide +kernel
theorem d27_130 : decode B27 130 = .ok (.iload 4, 2) := by decide +kernel
theorem d27_132 : decode B27 132 = .ok (.iinc 4 1, 3) := by decide +kernel
theorem d27_135 : decode B27 135 = .ok (.ldc 132, 2) := by decide +kernel
theorem d27_137 : decode B27 137 = .ok (.invokestatic 64, 3) := by decide +kernel
theorem d27_140 : decode B27 140 = .ok (.goto 481, 3) := by decide +kernel
theorem rm27_B {l : Launch} {Z : State} {a0 : Array Value} (hw : own_W a0 Z) (b d : Addr) (kb : ClassId) (ya yb yt : Int32) (kd : ClassId) (ua ub uc ud : Int32) {zc : Int32} {fm : Value} {u8 : Addr} {h0 : Heap} {n0 : Nat} (O0 : Old Z n0 h0) (SU : own_SU Z zc fm u8) (V_b : Arv Z h0 b kb .byte (3 : Int32) [.int ya, .int yb, .int yt] (.int 0)) (V_d : Arv Z h0 d kd .byte (6 : Int32) [.int ua, .int ub, .int uc, .int ud, .int 0, .int 0] (.int 0)) (nbd : b ≠ d) (nt : yt < (0 : Int32)) (g_d : n0 ≤ d) : own_M l own_n27 jdk_42_method_38_code 11 (some .int) (own_rm 1 0 0 14) Z h0 #[.ref b, .int 2, .int 3, .ref d, .int 2, .int 1] (fun v h L => v = some (.int 3) ∧ Fr n0 L ∧ Keep h0 h [d] ∧ Arv Z h d kd .byte (6 : Int32) [.int ua, .int ub, .int uc, .int ud, (.int (own_lo (65533 : Int32))), (.int (own_hi (65533 : Int32)))] (.int 0)) := by
  refine own_body (L0 := #[.val (.ref b), .val (.int 2), .val (.int 3), .val (.ref d), .val (.int 2), .val (.int 1), .unset, .unset, .unset, .unset, .unset]) (plainFor_of_name pn_java_lang_String) rfl rfl ?_
  intro p e s m below meth c s₁ f0 Bd hx Hb hml hZ hown X0 e0 pre0
  have hby := Hb.2
  have W := own_q hw
  have N0 := Fr.nil n0
  have O := O0
  have K := Keep.refl h0 [d]
  have B1 : own_El Z h0 b .byte (2 : Int32) (.int yt) := own_el V_b ⟨by decide, by decide⟩ rfl
  have w2 : own_Go p e below f0 s₁ m 39 (own_F3 b (3 : Int32) (3 : Int32) d (2 : Int32) (1 : Int32) yt) [.int (-2), (.int (yt >>> ((5 : Int32) &&& 31)))] := fun t k => by
    refine pre0 t ?_
    refine zil X0 Hb d27_0 rfl <| zil X0 Hb d27_1 rfl <| zcn X0 Hb d27_2 (tlt ((by decide) : (2 : Int32) < (3 : Int32))).2.1 <| zal X0 Hb d27_5 rfl rfl <| zil X0 Hb d27_6 rfl <| zii X0 Hb (L' := (own_F2 b (3 : Int32) (3 : Int32) d (2 : Int32) (1 : Int32))) d27_7 rfl 3 rfl rfl <| zba X0 Hb hZ e0 B1 d27_10 <| ziS X0 Hb (L' := (own_F3 b (3 : Int32) (3 : Int32) d (2 : Int32) (1 : Int32) yt)) d27_11 rfl ?_
    refine ziL X0 Hb d27_13 rfl <| ziy X0 Hb d27_15 ((if0 _ _).trans (tlt (nt : yt < (0 : Int32))).1) 33 (by decide) rfl <| ziL X0 Hb d27_33 rfl <| zic X0 Hb d27_35 5 rfl <| zsr X0 Hb d27_36 <| zbp X0 Hb d27_37 (-2) rfl ?_
    exact k
  by_cases hc39_3 : (yt >>> ((5 : Int32) &&& 31)) = (-2 : Int32)
  · have w4 : own_Go p e below f0 s₁ m 47 (own_F3 b (3 : Int32) (3 : Int32) d (2 : Int32) (1 : Int32) yt) [(.int (yt &&& (30 : Int32)))] := fun t k => by
      refine w2 t ?_
      refine zcn X0 Hb d27_39 (teq hc39_3).2 <| ziL X0 Hb d27_42 rfl <| zbp X0 Hb d27_44 30 rfl <| zan X0 Hb d27_46 ?_
      exact k
    by_cases hc47_5 : (yt &&& (30 : Int32)) = (0 : Int32)
    · have w6 : own_Go p e below f0 s₁ m 149 (own_F3 b (3 : Int32) (3 : Int32) d (2 : Int32) (1 : Int32) yt) [.int (-2), (.int (yt >>> ((4 : Int32) &&& 31)))] := fun t k => by
        refine w4 t ?_
        refine ziy X0 Hb d27_47 ((if0 _ _).trans (teq hc47_5).1) 143 (by decide) rfl <| ziL X0 Hb d27_143 rfl <| zic X0 Hb d27_145 4 rfl <| zsr X0 Hb d27_146 <| zbp X0 Hb d27_147 (-2) rfl ?_
        exact k
      by_cases hc149_7 : (yt >>> ((4 : Int32) &&& 31)) = (-2 : Int32)
      · obtain ⟨_, T8, Lc8, X8, hQ8, st8⟩ := own_cS X0 Hb hZ hown hml (L := (own_F3 b (3 : Int32) (3 : Int32) d (3 : Int32) (1 : Int32) yt)) rfl (rm19_2 hw d (65533 : Int32) kd (6 : Int32) ua ub uc ud (0 : Int32) (0 : Int32) [] O SU V_d (by decide) (by decide) g_d) (W 160 rfl) (W 111 rfl) (W 21 rfl) (W 112 rfl) pd2 e0 d27_343 [.ref d, .int 2, .int 65533] [] rfl rfl (by decide) 0 rfl (by decide)
        obtain ⟨rfl, N8q, K8, V_d_c8⟩ := hQ8
        have N8 := Fr.app N0 N8q
        have V_b := V_b.keep K8 (ninS nbd nin0)
        have O := O.keep K8 (allS g_d all0)
        have K := K.trans K8 (allS (Or.inl (List.mem_of_getElem? (i := 0) rfl)) all0)
        have w9 : own_Go p e below f0 T8 m 623 (own_F3 b (3 : Int32) (3 : Int32) d (3 : Int32) (1 : Int32) yt) [.int 3] := fun t k => by
          refine w6 t ?_
          refine zcn X0 Hb d27_149 (teq hc149_7).2 <| zil X0 Hb d27_152 rfl <| zic X0 Hb d27_153 1 rfl <| zia' X0 Hb d27_154 4 rfl <| zil X0 Hb d27_155 rfl <| zcy X0 Hb d27_156 (flt ((by decide) : ¬ ((4 : Int32) < (3 : Int32)))).2.1 283 (by decide) rfl <| zil X0 Hb d27_283 rfl <| zil X0 Hb d27_284 rfl ?_
          refine zcy X0 Hb d27_285 (flt ((by decide) : ¬ ((3 : Int32) < (3 : Int32)))).2.1 325 (by decide) rfl <| ziL X0 Hb d27_325 rfl <| ziy X0 Hb d27_327 ((if0 _ _).trans (feq ((by decide) : ¬ ((1 : Int32) = (0 : Int32)))).2) 335 (by decide) rfl <| zal X0 Hb d27_335 rfl rfl <| ziL X0 Hb d27_336 rfl <| zii X0 Hb (L' := (own_F3 b (3 : Int32) (3 : Int32) d (3 : Int32) (1 : Int32) yt)) d27_338 rfl 3 rfl rfl <| X0.ldcInt hx hown (mvT hZ (W 165 rfl)) (g := (mkF m 341 (own_F3 b (3 : Int32) (3 : Int32) d (3 : Int32) (1 : Int32) yt) [.int 2, .ref d])) rfl (hb hby d27_341) _ <| st8 _ ?_
          refine zgo X8 Hb d27_346 621 (by decide) rfl <| ziL X8 Hb d27_621 rfl ?_
          exact k
        exact own_oI X8 Hb Bd.notSynchronized Bd.returns w9 d27_623 rfl (by decide) (by decide) ⟨rfl, N8, K, V_d_c8⟩
      · have w10 : own_Go p e below f0 s₁ m 355 (own_F3 b (3 : Int32) (3 : Int32) d (2 : Int32) (1 : Int32) yt) [.int (-2), (.int (yt >>> ((3 : Int32) &&& 31)))] := fun t k => by
          refine w6 t ?_
          refine zcy X0 Hb d27_149 (feq hc149_7).2 349 (by decide) rfl <| ziL X0 Hb d27_349 rfl <| zic X0 Hb d27_351 3 rfl <| zsr X0 Hb d27_352 <| zbp X0 Hb d27_353 (-2) rfl ?_
          exact k
        by_cases hc355_11 : (yt >>> ((3 : Int32) &&& 31)) = (-2 : Int32)
        · have w12 : own_Go p e below f0 s₁ m 503 (own_F3 b (3 : Int32) (3 : Int32) d (2 : Int32) (1 : Int32) (yt &&& (255 : Int32))) [.int 244, (.int (yt &&& (255 : Int32)))] := fun t k => by
            refine w10 t ?_
            refine zcn X0 Hb d27_355 (teq hc355_11).2 <| zil X0 Hb d27_358 rfl <| zic X0 Hb d27_359 2 rfl <| zia' X0 Hb d27_360 5 rfl <| zil X0 Hb d27_361 rfl <| zcy X0 Hb d27_362 (flt ((by decide) : ¬ ((5 : Int32) < (3 : Int32)))).2.1 490 (by decide) rfl <| ziL X0 Hb d27_490 rfl <| zsp X0 Hb d27_492 255 rfl ?_
            refine zan X0 Hb d27_495 <| ziS X0 Hb (L' := (own_F3 b (3 : Int32) (3 : Int32) d (2 : Int32) (1 : Int32) (yt &&& (255 : Int32)))) d27_496 rfl <| ziL X0 Hb d27_498 rfl <| zsp X0 Hb d27_500 244 rfl ?_
            exact k
          by_cases hc503_13 : (244 : Int32) < (yt &&& (255 : Int32))
          · obtain ⟨_, T14, Lc14, X14, hQ14, st14⟩ := own_cS X0 Hb hZ hown hml (L := (own_F3 b (3 : Int32) (3 : Int32) d (3 : Int32) (1 : Int32) (yt &&& (255 : Int32)))) rfl (rm19_2 hw d (65533 : Int32) kd (6 : Int32) ua ub uc ud (0 : Int32) (0 : Int32) [] O SU V_d (by decide) (by decide) g_d) (W 160 rfl) (W 111 rfl) (W 21 rfl) (W 112 rfl) pd2 e0 d27_546 [.ref d, .int 2, .int 65533] [] rfl rfl (by decide) 0 rfl (by decide)
            obtain ⟨rfl, N14q, K14, V_d_c14⟩ := hQ14
            have N14 := Fr.app N0 N14q
            have V_b := V_b.keep K14 (ninS nbd nin0)
            have O := O.keep K14 (allS g_d all0)
            have K := K.trans K14 (allS (Or.inl (List.mem_of_getElem? (i := 0) rfl)) all0)
            have w15 : own_Go p e below f0 T14 m 623 (own_F3 b (3 : Int32) (3 : Int32) d (3 : Int32) (1 : Int32) (yt &&& (255 : Int32))) [.int 3] := fun t k => by
              refine w12 t ?_
              refine zcy X0 Hb d27_503 (tlt hc503_13).2.2.1 526 (by decide) rfl <| ziL X0 Hb d27_526 rfl <| ziy X0 Hb d27_528 ((if0 _ _).trans (feq ((by decide) : ¬ ((1 : Int32) = (0 : Int32)))).2) 538 (by decide) rfl <| zal X0 Hb d27_538 rfl rfl <| ziL X0 Hb d27_539 rfl <| zii X0 Hb (L' := (own_F3 b (3 : Int32) (3 : Int32) d (3 : Int32) (1 : Int32) (yt &&& (255 : Int32)))) d27_541 rfl 3 rfl rfl <| X0.ldcInt hx hown (mvT hZ (W 165 rfl)) (g := (mkF m 544 (own_F3 b (3 : Int32) (3 : Int32) d (3 : Int32) (1 : Int32) (yt &&& (255 : Int32))) [.int 2, .ref d])) rfl (hb hby d27_544) _ <| st14 _ ?_
              refine zgo X14 Hb d27_549 0 (by decide) rfl <| zil X14 Hb d27_0 rfl <| zil X14 Hb d27_1 rfl <| zcy X14 Hb d27_2 (flt ((by decide) : ¬ ((3 : Int32) < (3 : Int32)))).2.1 621 (by decide) rfl <| ziL X14 Hb d27_621 rfl ?_
              exact k
            exact own_oI X14 Hb Bd.notSynchronized Bd.returns w15 d27_623 rfl (by decide) (by decide) ⟨rfl, N14, K, V_d_c14⟩
          · obtain ⟨_, T16, Lc16, X16, hQ16, st16⟩ := own_cS X0 Hb hZ hown hml (L := (own_F3 b (4 : Int32) (3 : Int32) d (3 : Int32) (1 : Int32) (yt &&& (255 : Int32)))) rfl (rm19_2 hw d (65533 : Int32) kd (6 : Int32) ua ub uc ud (0 : Int32) (0 : Int32) [] O SU V_d (by decide) (by decide) g_d) (W 160 rfl) (W 111 rfl) (W 21 rfl) (W 112 rfl) pd2 e0 d27_575 [.ref d, .int 2, .int 65533] [] rfl rfl (by decide) 0 rfl (by decide)
            obtain ⟨rfl, N16q, K16, V_d_c16⟩ := hQ16
            have N16 := Fr.app N0 N16q
            have V_b := V_b.keep K16 (ninS nbd nin0)
            have O := O.keep K16 (allS g_d all0)
            have K := K.trans K16 (allS (Or.inl (List.mem_of_getElem? (i := 0) rfl)) all0)
            have w17 : own_Go p e below f0 T16 m 623 (own_F3 b (4 : Int32) (3 : Int32) d (3 : Int32) (1 : Int32) (yt &&& (255 : Int32))) [.int 3] := fun t k => by
              refine w12 t ?_
              refine zcn X0 Hb d27_503 (flt hc503_13).2.2.1 <| zil X0 Hb d27_506 rfl <| zil X0 Hb d27_507 rfl <| zcy X0 Hb d27_508 (flt ((by decide) : ¬ ((3 : Int32) < (3 : Int32)))).2.1 552 (by decide) rfl <| ziL X0 Hb d27_552 rfl <| ziy X0 Hb d27_554 ((if0 _ _).trans (feq ((by decide) : ¬ ((1 : Int32) = (0 : Int32)))).2) 564 (by decide) rfl <| zii X0 Hb (L' := (own_F3 b (4 : Int32) (3 : Int32) d (2 : Int32) (1 : Int32) (yt &&& (255 : Int32)))) d27_564 rfl 4 rfl rfl <| zal X0 Hb d27_567 rfl rfl ?_
              refine ziL X0 Hb d27_568 rfl <| zii X0 Hb (L' := (own_F3 b (4 : Int32) (3 : Int32) d (3 : Int32) (1 : Int32) (yt &&& (255 : Int32)))) d27_570 rfl 3 rfl rfl <| X0.ldcInt hx hown (mvT hZ (W 165 rfl)) (g := (mkF m 573 (own_F3 b (4 : Int32) (3 : Int32) d (3 : Int32) (1 : Int32) (yt &&& (255 : Int32))) [.int 2, .ref d])) rfl (hb hby d27_573) _ <| st16 _ <| zil X16 Hb d27_578 rfl <| zil X16 Hb d27_579 rfl <| zcy X16 Hb d27_580 (flt ((by decide) : ¬ ((4 : Int32) < (3 : Int32)))).2.1 621 (by decide) rfl <| ziL X16 Hb d27_621 rfl ?_
              exact k
            exact own_oI X16 Hb Bd.notSynchronized Bd.returns w17 d27_623 rfl (by decide) (by decide) ⟨rfl, N16, K, V_d_c16⟩
        · obtain ⟨_, T18, Lc18, X18, hQ18, st18⟩ := own_cS X0 Hb hZ hown hml (L := (own_F3 b (3 : Int32) (3 : Int32) d (3 : Int32) (1 : Int32) yt)) rfl (rm19_2 hw d (65533 : Int32) kd (6 : Int32) ua ub uc ud (0 : Int32) (0 : Int32) [] O SU V_d (by decide) (by decide) g_d) (W 160 rfl) (W 111 rfl) (W 21 rfl) (W 112 rfl) pd2 e0 d27_615 [.ref d, .int 2, .int 65533] [] rfl rfl (by decide) 0 rfl (by decide)
          obtain ⟨rfl, N18q, K18, V_d_c18⟩ := hQ18
          have N18 := Fr.app N0 N18q
          have V_b := V_b.keep K18 (ninS nbd nin0)
          have O := O.keep K18 (allS g_d all0)
          have K := K.trans K18 (allS (Or.inl (List.mem_of_getElem? (i := 0) rfl)) all0)
          have w19 : own_Go p e below f0 T18 m 623 (own_F3 b (3 : Int32) (3 : Int32) d (3 : Int32) (1 : Int32) yt) [.int 3] := fun t k => by
            refine w10 t ?_
            refine zcy X0 Hb d27_355 (feq hc355_11).2 595 (by decide) rfl <| ziL X0 Hb d27_595 rfl <| ziy X0 Hb d27_597 ((if0 _ _).trans (feq ((by decide) : ¬ ((1 : Int32) = (0 : Int32)))).2) 607 (by decide) rfl <| zal X0 Hb d27_607 rfl rfl <| ziL X0 Hb d27_608 rfl <| zii X0 Hb (L' := (own_F3 b (3 : Int32) (3 : Int32) d (3 : Int32) (1 : Int32) yt)) d27_610 rfl 3 rfl rfl <| X0.ldcInt hx hown (mvT hZ (W 165 rfl)) (g := (mkF m 613 (own_F3 b (3 : Int32) (3 : Int32) d (3 : Int32) (1 : Int32) yt) [.int 2, .ref d])) rfl (hb hby d27_613) _ <| st18 _ ?_
            refine zgo X18 Hb d27_618 0 (by decide) rfl <| zil X18 Hb d27_0 rfl <| zil X18 Hb d27_1 rfl <| zcy X18 Hb d27_2 (flt ((by decide) : ¬ ((3 : Int32) < (3 : Int32)))).2.1 621 (by decide) rfl <| ziL X18 Hb d27_621 rfl ?_
            exact k
          exact own_oI X18 Hb Bd.notSynchronized Bd.returns w19 d27_623 rfl (by decide) (by decide) ⟨rfl, N18, K, V_d_c18⟩
    · obtain ⟨_, T20, Lc20, X20, hQ20, st20⟩ := own_cS X0 Hb hZ hown hml (L := (own_F3 b (3 : Int32) (3 : Int32) d (3 : Int32) (1 : Int32) yt)) rfl (rm19_2 hw d (65533 : Int32) kd (6 : Int32) ua ub uc ud (0 : Int32) (0 : Int32) [] O SU V_d (by decide) (by decide) g_d) (W 160 rfl) (W 111 rfl) (W 21 rfl) (W 112 rfl) pd2 e0 d27_137 [.ref d, .int 2, .int 65533] [] rfl rfl (by decide) 0 rfl (by decide)
      obtain ⟨rfl, N20q, K20, V_d_c20⟩ := hQ20
      have N20 := Fr.app N0 N20q
      have V_b := V_b.keep K20 (ninS nbd nin0)
      have O := O.keep K20 (allS g_d all0)
      have K := K.trans K20 (allS (Or.inl (List.mem_of_getElem? (i := 0) rfl)) all0)
      have w21 : own_Go p e below f0 T20 m 623 (own_F3 b (3 : Int32) (3 : Int32) d (3 : Int32) (1 : Int32) yt) [.int 3] := fun t k => by
        refine w4 t ?_
        refine zin X0 Hb d27_47 ((if0 _ _).trans (feq hc47_5).1) <| zil X0 Hb d27_50 rfl <| zil X0 Hb d27_51 rfl <| zcy X0 Hb d27_52 (flt ((by decide) : ¬ ((3 : Int32) < (3 : Int32)))).2.1 119 (by decide) rfl <| ziL X0 Hb d27_119 rfl <| ziy X0 Hb d27_121 ((if0 _ _).trans (feq ((by decide) : ¬ ((1 : Int32) = (0 : Int32)))).2) 129 (by decide) rfl <| zal X0 Hb d27_129 rfl rfl <| ziL X0 Hb d27_130 rfl ?_
        refine zii X0 Hb (L' := (own_F3 b (3 : Int32) (3 : Int32) d (3 : Int32) (1 : Int32) yt)) d27_132 rfl 3 rfl rfl <| X0.ldcInt hx hown (mvT hZ (W 165 rfl)) (g := (mkF m 135 (own_F3 b (3 : Int32) (3 : Int32) d (3 : Int32) (1 : Int32) yt) [.int 2, .ref d])) rfl (hb hby d27_135) _ <| st20 _ <| zgo X20 Hb d27_140 621 (by decide) rfl <| ziL X20 Hb d27_621 rfl ?_
        exact k
      exact own_oI X20 Hb Bd.notSynchronized Bd.returns w21 d27_623 rfl (by decide) (by decide) ⟨rfl, N20, K, V_d_c20⟩
  · have w22 : own_Go p e below f0 s₁ m 149 (own_F3 b (3 : Int32) (3 : Int32) d (2 : Int32) (1 : Int32) yt) [.int (-2), (.int (yt >>> ((4 : Int32) &&& 31)))] := fun t k => by
      refine w2 t ?_
      refine zcy X0 Hb d27_39 (feq hc39_3).2 143 (by decide) rfl <| ziL X0 Hb d27_143 rfl <| zic X0 Hb d27_145 4 rfl <| zsr X0 Hb d27_146 <| zbp X0 Hb d27_147 (-2) rfl ?_
      exact k
    by_cases hc149_23 : (yt >>> ((4 : Int32) &&& 31)) = (-2 : Int32)
    · obtain ⟨_, T24, Lc24, X24, hQ24, st24⟩ := own_cS X0 Hb hZ hown hml (L := (own_F3 b (3 : Int32) (3 : Int32) d (3 : Int32) (1 : Int32) yt)) rfl (rm19_2 hw d (65533 : Int32) kd (6 : Int32) ua ub uc ud (0 : Int32) (0 : Int32) [] O SU V_d (by decide) (by decide) g_d) (W 160 rfl) (W 111 rfl) (W 21 rfl) (W 112 rfl) pd2 e0 d27_343 [.ref d, .int 2, .int 65533] [] rfl rfl (by decide) 0 rfl (by decide)
      obtain ⟨rfl, N24q, K24, V_d_c24⟩ := hQ24
      have N24 := Fr.app N0 N24q
      have V_b := V_b.keep K24 (ninS nbd nin0)
      have O := O.keep K24 (allS g_d all0)
      have K := K.trans K24 (allS (Or.inl (List.mem_of_getElem? (i := 0) rfl)) all0)
      have w25 : own_Go p e below f0 T24 m 623 (own_F3 b (3 : Int32) (3 : Int32) d (3 : Int32) (1 : Int32) yt) [.int 3] := fun t k => by
        refine w22 t ?_
        refine zcn X0 Hb d27_149 (teq hc149_23).2 <| zil X0 Hb d27_152 rfl <| zic X0 Hb d27_153 1 rfl <| zia' X0 Hb d27_154 4 rfl <| zil X0 Hb d27_155 rfl <| zcy X0 Hb d27_156 (flt ((by decide) : ¬ ((4 : Int32) < (3 : Int32)))).2.1 283 (by decide) rfl <| zil X0 Hb d27_283 rfl <| zil X0 Hb d27_284 rfl ?_
        refine zcy X0 Hb d27_285 (flt ((by decide) : ¬ ((3 : Int32) < (3 : Int32)))).2.1 325 (by decide) rfl <| ziL X0 Hb d27_325 rfl <| ziy X0 Hb d27_327 ((if0 _ _).trans (feq ((by decide) : ¬ ((1 : Int32) = (0 : Int32)))).2) 335 (by decide) rfl <| zal X0 Hb d27_335 rfl rfl <| ziL X0 Hb d27_336 rfl <| zii X0 Hb (L' := (own_F3 b (3 : Int32) (3 : Int32) d (3 : Int32) (1 : Int32) yt)) d27_338 rfl 3 rfl rfl <| X0.ldcInt hx hown (mvT hZ (W 165 rfl)) (g := (mkF m 341 (own_F3 b (3 : Int32) (3 : Int32) d (3 : Int32) (1 : Int32) yt) [.int 2, .ref d])) rfl (hb hby d27_341) _ <| st24 _ ?_
        refine zgo X24 Hb d27_346 621 (by decide) rfl <| ziL X24 Hb d27_621 rfl ?_
        exact k
      exact own_oI X24 Hb Bd.notSynchronized Bd.returns w25 d27_623 rfl (by decide) (by decide) ⟨rfl, N24, K, V_d_c24⟩
    · have w26 : own_Go p e below f0 s₁ m 355 (own_F3 b (3 : Int32) (3 : Int32) d (2 : Int32) (1 : Int32) yt) [.int (-2), (.int (yt >>> ((3 : Int32) &&& 31)))] := fun t k => by
        refine w22 t ?_
        refine zcy X0 Hb d27_149 (feq hc149_23).2 349 (by decide) rfl <| ziL X0 Hb d27_349 rfl <| zic X0 Hb d27_351 3 rfl <| zsr X0 Hb d27_352 <| zbp X0 Hb d27_353 (-2) rfl ?_
        exact k
      by_cases hc355_27 : (yt >>> ((3 : Int32) &&& 31)) = (-2 : Int32)
      · have w28 : own_Go p e below f0 s₁ m 503 (own_F3 b (3 : Int32) (3 : Int32) d (2 : Int32) (1 : Int32) (yt &&& (255 : Int32))) [.int 244, (.int (yt &&& (255 : Int32)))] := fun t k => by
          refine w26 t ?_
          refine zcn X0 Hb d27_355 (teq hc355_27).2 <| zil X0 Hb d27_358 rfl <| zic X0 Hb d27_359 2 rfl <| zia' X0 Hb d27_360 5 rfl <| zil X0 Hb d27_361 rfl <| zcy X0 Hb d27_362 (flt ((by decide) : ¬ ((5 : Int32) < (3 : Int32)))).2.1 490 (by decide) rfl <| ziL X0 Hb d27_490 rfl <| zsp X0 Hb d27_492 255 rfl ?_
          refine zan X0 Hb d27_495 <| ziS X0 Hb (L' := (own_F3 b (3 : Int32) (3 : Int32) d (2 : Int32) (1 : Int32) (yt &&& (255 : Int32)))) d27_496 rfl <| ziL X0 Hb d27_498 rfl <| zsp X0 Hb d27_500 244 rfl ?_
          exact k
        by_cases hc503_29 : (244 : Int32) < (yt &&& (255 : Int32))
        · obtain ⟨_, T30, Lc30, X30, hQ30, st30⟩ := own_cS X0 Hb hZ hown hml (L := (own_F3 b (3 : Int32) (3 : Int32) d (3 : Int32) (1 : Int32) (yt &&& (255 : Int32)))) rfl (rm19_2 hw d (65533 : Int32) kd (6 : Int32) ua ub uc ud (0 : Int32) (0 : Int32) [] O SU V_d (by decide) (by decide) g_d) (W 160 rfl) (W 111 rfl) (W 21 rfl) (W 112 rfl) pd2 e0 d27_546 [.ref d, .int 2, .int 65533] [] rfl rfl (by decide) 0 rfl (by decide)
          obtain ⟨rfl, N30q, K30, V_d_c30⟩ := hQ30
          have N30 := Fr.app N0 N30q
          have V_b := V_b.keep K30 (ninS nbd nin0)
          have O := O.keep K30 (allS g_d all0)
          have K := K.trans K30 (allS (Or.inl (List.mem_of_getElem? (i := 0) rfl)) all0)
          have w31 : own_Go p e below f0 T30 m 623 (own_F3 b (3 : Int32) (3 : Int32) d (3 : Int32) (1 : Int32) (yt &&& (255 : Int32))) [.int 3] := fun t k => by
            refine w28 t ?_
            refine zcy X0 Hb d27_503 (tlt hc503_29).2.2.1 526 (by decide) rfl <| ziL X0 Hb d27_526 rfl <| ziy X0 Hb d27_528 ((if0 _ _).trans (feq ((by decide) : ¬ ((1 : Int32) = (0 : Int32)))).2) 538 (by decide) rfl <| zal X0 Hb d27_538 rfl rfl <| ziL X0 Hb d27_539 rfl <| zii X0 Hb (L' := (own_F3 b (3 : Int32) (3 : Int32) d (3 : Int32) (1 : Int32) (yt &&& (255 : Int32)))) d27_541 rfl 3 rfl rfl <| X0.ldcInt hx hown (mvT hZ (W 165 rfl)) (g := (mkF m 544 (own_F3 b (3 : Int32) (3 : Int32) d (3 : Int32) (1 : Int32) (yt &&& (255 : Int32))) [.int 2, .ref d])) rfl (hb hby d27_544) _ <| st30 _ ?_
            refine zgo X30 Hb d27_549 0 (by decide) rfl <| zil X30 Hb d27_0 rfl <| zil X30 Hb d27_1 rfl <| zcy X30 Hb d27_2 (flt ((by decide) : ¬ ((3 : Int32) < (3 : Int32)))).2.1 621 (by decide) rfl <| ziL X30 Hb d27_621 rfl ?_
            exact k
          exact own_oI X30 Hb Bd.notSynchronized Bd.returns w31 d27_623 rfl (by decide) (by decide) ⟨rfl, N30, K, V_d_c30⟩
        · obtain ⟨_, T32, Lc32, X32, hQ32, st32⟩ := own_cS X0 Hb hZ hown hml (L := (own_F3 b (4 : Int32) (3 : Int32) d (3 : Int32) (1 : Int32) (yt &&& (255 : Int32)))) rfl (rm19_2 hw d (65533 : Int32) kd (6 : Int32) ua ub uc ud (0 : Int32) (0 : Int32) [] O SU V_d (by decide) (by decide) g_d) (W 160 rfl) (W 111 rfl) (W 21 rfl) (W 112 rfl) pd2 e0 d27_575 [.ref d, .int 2, .int 65533] [] rfl rfl (by decide) 0 rfl (by decide)
          obtain ⟨rfl, N32q, K32, V_d_c32⟩ := hQ32
          have N32 := Fr.app N0 N32q
          have V_b := V_b.keep K32 (ninS nbd nin0)
          have O := O.keep K32 (allS g_d all0)
          have K := K.trans K32 (allS (Or.inl (List.mem_of_getElem? (i := 0) rfl)) all0)
          have w33 : own_Go p e below f0 T32 m 623 (own_F3 b (4 : Int32) (3 : Int32) d (3 : Int32) (1 : Int32) (yt &&& (255 : Int32))) [.int 3] := fun t k => by
            refine w28 t ?_
            refine zcn X0 Hb d27_503 (flt hc503_29).2.2.1 <| zil X0 Hb d27_506 rfl <| zil X0 Hb d27_507 rfl <| zcy X0 Hb d27_508 (flt ((by decide) : ¬ ((3 : Int32) < (3 : Int32)))).2.1 552 (by decide) rfl <| ziL X0 Hb d27_552 rfl <| ziy X0 Hb d27_554 ((if0 _ _).trans (feq ((by decide) : ¬ ((1 : Int32) = (0 : Int32)))).2) 564 (by decide) rfl <| zii X0 Hb (L' := (own_F3 b (4 : Int32) (3 : Int32) d (2 : Int32) (1 : Int32) (yt &&& (255 : Int32)))) d27_564 rfl 4 rfl rfl <| zal X0 Hb d27_567 rfl rfl ?_
            refine ziL X0 Hb d27_568 rfl <| zii X0 Hb (L' := (own_F3 b (4 : Int32) (3 : Int32) d (3 : Int32) (1 : Int32) (yt &&& (255 : Int32)))) d27_570 rfl 3 rfl rfl <| X0.ldcInt hx hown (mvT hZ (W 165 rfl)) (g := (mkF m 573 (own_F3 b (4 : Int32) (3 : Int32) d (3 : Int32) (1 : Int32) (yt &&& (255 : Int32))) [.int 2, .ref d])) rfl (hb hby d27_573) _ <| st32 _ <| zil X32 Hb d27_578 rfl <| zil X32 Hb d27_579 rfl <| zcy X32 Hb d27_580 (flt ((by decide) : ¬ ((4 : Int32) < (3 : Int32)))).2.1 621 (by decide) rfl <| ziL X32 Hb d27_621 rfl ?_
            exact k
          exact own_oI X32 Hb Bd.notSynchronized Bd.returns w33 d27_623 rfl (by decide) (by decide) ⟨rfl, N32, K, V_d_c32⟩
      · obtain ⟨_, T34, Lc34, X34, hQ34, st34⟩ := own_cS X0 Hb hZ hown hml (L := (own_F3 b (3 : Int32) (3 : Int32) d (3 : Int32) (1 : Int32) yt)) rfl (rm19_2 hw d (65533 : Int32) kd (6 : Int32) ua ub uc ud (0 : Int32) (0 : Int32) [] O SU V_d (by decide) (by decide) g_d) (W 160 rfl) (W 111 rfl) (W 21 rfl) (W 112 rfl) pd2 e0 d27_615 [.ref d, .int 2, .int 65533] [] rfl rfl (by decide) 0 rfl (by decide)
        obtain ⟨rfl, N34q, K34, V_d_c34⟩ := hQ34
        have N34 := Fr.app N0 N34q
        have V_b := V_b.keep K34 (ninS nbd nin0)
        have O := O.keep K34 (allS g_d all0)
        have K := K.trans K34 (allS (Or.inl (List.mem_of_getElem? (i := 0) rfl)) all0)
        have w35 : own_Go p e below f0 T34 m 623 (own_F3 b (3 : Int32) (3 : Int32) d (3 : Int32) (1 : Int32) yt) [.int 3] := fun t k => by
          refine w26 t ?_
          refine zcy X0 Hb d27_355 (feq hc355_27).2 595 (by decide) rfl <| ziL X0 Hb d27_595 rfl <| ziy X0 Hb d27_597 ((if0 _ _).trans (feq ((by decide) : ¬ ((1 : Int32) = (0 : Int32)))).2) 607 (by decide) rfl <| zal X0 Hb d27_607 rfl rfl <| ziL X0 Hb d27_608 rfl <| zii X0 Hb (L' := (own_F3 b (3 : Int32) (3 : Int32) d (3 : Int32) (1 : Int32) yt)) d27_610 rfl 3 rfl rfl <| X0.ldcInt hx hown (mvT hZ (W 165 rfl)) (g := (mkF m 613 (own_F3 b (3 : Int32) (3 : Int32) d (3 : Int32) (1 : Int32) yt) [.int 2, .ref d])) rfl (hb hby d27_613) _ <| st34 _ ?_
          refine zgo X34 Hb d27_618 0 (by decide) rfl <| zil X34 Hb d27_0 rfl <| zil X34 Hb d27_1 rfl <| zcy X34 Hb d27_2 (flt ((by decide) : ¬ ((3 : Int32) < (3 : Int32)))).2.1 621 (by decide) rfl <| ziL X34 Hb d27_621 rfl ?_
          exact k
        exact own_oI X34 Hb Bd.notSynchronized Bd.returns w35 d27_623 rfl (by decide) (by decide) ⟨rfl, N34, K, V_d_c34⟩
theorem rm27_Cb {l : Launch} {Z : State} {a0 : Array Value} (hw : own_W a0 Z) (b d : Addr) (kb : ClassId) (ya yb yc yt : Int32) (kd : ClassId) (ua ub uc ud : Int32) {zc : Int32} {fm : Value} {u8 : Addr} {h0 : Heap} {n0 : Nat} (O0 : Old Z n0 h0) (SU : own_SU Z zc fm u8) (V_b : Arv Z h0 b kb .byte (4 : Int32) [.int ya, .int yb, .int yc, .int yt] (.int 0)) (V_d : Arv Z h0 d kd .byte (8 : Int32) [.int ua, .int ub, .int uc, .int ud, .int 0, .int 0, .int 0, .int 0] (.int 0)) (nbd : b ≠ d) (nt : yt < (0 : Int32)) (g_d : n0 ≤ d) : own_M l own_n27 jdk_42_method_38_code 11 (some .int) (own_rm 1 0 0 14) Z h0 #[.ref b, .int 3, .int 4, .ref d, .int 2, .int 1] (fun v h L => v = some (.int 3) ∧ Fr n0 L ∧ Keep h0 h [d] ∧ Arv Z h d kd .byte (8 : Int32) [.int ua, .int ub, .int uc, .int ud, (.int (own_lo (65533 : Int32))), (.int (own_hi (65533 : Int32))), .int 0, .int 0] (.int 0)) := by
  refine own_body (L0 := #[.val (.ref b), .val (.int 3), .val (.int 4), .val (.ref d), .val (.int 2), .val (.int 1), .unset, .unset, .unset, .unset, .unset]) (plainFor_of_name pn_java_lang_String) rfl rfl ?_
  intro p e s m below meth c s₁ f0 Bd hx Hb hml hZ hown X0 e0 pre0
  have hby := Hb.2
  have W := own_q hw
  have N0 := Fr.nil n0
  have O := O0
  have K := Keep.refl h0 [d]
  have B1 : own_El Z h0 b .byte (3 : Int32) (.int yt) := own_el V_b ⟨by decide, by decide⟩ rfl
  have w2 : own_Go p e below f0 s₁ m 39 (own_F3 b (4 : Int32) (4 : Int32) d (2 : Int32) (1 : Int32) yt) [.int (-2), (.int (yt >>> ((5 : Int32) &&& 31)))] := fun t k => by
    refine pre0 t ?_
    refine zil X0 Hb d27_0 rfl <| zil X0 Hb d27_1 rfl <| zcn X0 Hb d27_2 (tlt ((by decide) : (3 : Int32) < (4 : Int32))).2.1 <| zal X0 Hb d27_5 rfl rfl <| zil X0 Hb d27_6 rfl <| zii X0 Hb (L' := (own_F2 b (4 : Int32) (4 : Int32) d (2 : Int32) (1 : Int32))) d27_7 rfl 4 rfl rfl <| zba X0 Hb hZ e0 B1 d27_10 <| ziS X0 Hb (L' := (own_F3 b (4 : Int32) (4 : Int32) d (2 : Int32) (1 : Int32) yt)) d27_11 rfl ?_
    refine ziL X0 Hb d27_13 rfl <| ziy X0 Hb d27_15 ((if0 _ _).trans (tlt (nt : yt < (0 : Int32))).1) 33 (by decide) rfl <| ziL X0 Hb d27_33 rfl <| zic X0 Hb d27_35 5 rfl <| zsr X0 Hb d27_36 <| zbp X0 Hb d27_37 (-2) rfl ?_
    exact k
  by_cases hc39_3 : (yt >>> ((5 : Int32) &&& 31)) = (-2 : Int32)
  · have w4 : own_Go p e below f0 s₁ m 47 (own_F3 b (4 : Int32) (4 : Int32) d (2 : Int32) (1 : Int32) yt) [(.int (yt &&& (30 : Int32)))] := fun t k => by
      refine w2 t ?_
      refine zcn X0 Hb d27_39 (teq hc39_3).2 <| ziL X0 Hb d27_42 rfl <| zbp X0 Hb d27_44 30 rfl <| zan X0 Hb d27_46 ?_
      exact k
    by_cases hc47_5 : (yt &&& (30 : Int32)) = (0 : Int32)
    · have w6 : own_Go p e below f0 s₁ m 149 (own_F3 b (4 : Int32) (4 : Int32) d (2 : Int32) (1 : Int32) yt) [.int (-2), (.int (yt >>> ((4 : Int32) &&& 31)))] := fun t k => by
        refine w4 t ?_
        refine ziy X0 Hb d27_47 ((if0 _ _).trans (teq hc47_5).1) 143 (by decide) rfl <| ziL X0 Hb d27_143 rfl <| zic X0 Hb d27_145 4 rfl <| zsr X0 Hb d27_146 <| zbp X0 Hb d27_147 (-2) rfl ?_
        exact k
      by_cases hc149_7 : (yt >>> ((4 : Int32) &&& 31)) = (-2 : Int32)
      · obtain ⟨_, T8, Lc8, X8, hQ8, st8⟩ := own_cS X0 Hb hZ hown hml (L := (own_F3 b (4 : Int32) (4 : Int32) d (3 : Int32) (1 : Int32) yt)) rfl (rm19_2 hw d (65533 : Int32) kd (8 : Int32) ua ub uc ud (0 : Int32) (0 : Int32) [.int 0, .int 0] O SU V_d (by decide) (by decide) g_d) (W 160 rfl) (W 111 rfl) (W 21 rfl) (W 112 rfl) pd2 e0 d27_343 [.ref d, .int 2, .int 65533] [] rfl rfl (by decide) 0 rfl (by decide)
        obtain ⟨rfl, N8q, K8, V_d_c8⟩ := hQ8
        have N8 := Fr.app N0 N8q
        have V_b := V_b.keep K8 (ninS nbd nin0)
        have O := O.keep K8 (allS g_d all0)
        have K := K.trans K8 (allS (Or.inl (List.mem_of_getElem? (i := 0) rfl)) all0)
        have w9 : own_Go p e below f0 T8 m 623 (own_F3 b (4 : Int32) (4 : Int32) d (3 : Int32) (1 : Int32) yt) [.int 3] := fun t k => by
          refine w6 t ?_
          refine zcn X0 Hb d27_149 (teq hc149_7).2 <| zil X0 Hb d27_152 rfl <| zic X0 Hb d27_153 1 rfl <| zia' X0 Hb d27_154 5 rfl <| zil X0 Hb d27_155 rfl <| zcy X0 Hb d27_156 (flt ((by decide) : ¬ ((5 : Int32) < (4 : Int32)))).2.1 283 (by decide) rfl <| zil X0 Hb d27_283 rfl <| zil X0 Hb d27_284 rfl ?_
          refine zcy X0 Hb d27_285 (flt ((by decide) : ¬ ((4 : Int32) < (4 : Int32)))).2.1 325 (by decide) rfl <| ziL X0 Hb d27_325 rfl <| ziy X0 Hb d27_327 ((if0 _ _).trans (feq ((by decide) : ¬ ((1 : Int32) = (0 : Int32)))).2) 335 (by decide) rfl <| zal X0 Hb d27_335 rfl rfl <| ziL X0 Hb d27_336 rfl <| zii X0 Hb (L' := (own_F3 b (4 : Int32) (4 : Int32) d (3 : Int32) (1 : Int32) yt)) d27_338 rfl 3 rfl rfl <| X0.ldcInt hx hown (mvT hZ (W 165 rfl)) (g := (mkF m 341 (own_F3 b (4 : Int32) (4 : Int32) d (3 : Int32) (1 : Int32) yt) [.int 2, .ref d])) rfl (hb hby d27_341) _ <| st8 _ ?_
          refine zgo X8 Hb d27_346 621 (by decide) rfl <| ziL X8 Hb d27_621 rfl ?_
          exact k
        exact own_oI X8 Hb Bd.notSynchronized Bd.returns w9 d27_623 rfl (by decide) (by decide) ⟨rfl, N8, K, V_d_c8⟩
      · have w10 : own_Go p e below f0 s₁ m 355 (own_F3 b (4 : Int32) (4 : Int32) d (2 : Int32) (1 : Int32) yt) [.int (-2), (.int (yt >>> ((3 : Int32) &&& 31)))] := fun t k => by
          refine w6 t ?_
          refine zcy X0 Hb d27_149 (feq hc149_7).2 349 (by decide) rfl <| ziL X0 Hb d27_349 rfl <| zic X0 Hb d27_351 3 rfl <| zsr X0 Hb d27_352 <| zbp X0 Hb d27_353 (-2) rfl ?_
          exact k
        by_cases hc355_11 : (yt >>> ((3 : Int32) &&& 31)) = (-2 : Int32)
        · have w12 : own_Go p e below f0 s₁ m 503 (own_F3 b (4 : Int32) (4 : Int32) d (2 : Int32) (1 : Int32) (yt &&& (255 : Int32))) [.int 244, (.int (yt &&& (255 : Int32)))] := fun t k => by
            refine w10 t ?_
            refine zcn X0 Hb d27_355 (teq hc355_11).2 <| zil X0 Hb d27_358 rfl <| zic X0 Hb d27_359 2 rfl <| zia' X0 Hb d27_360 6 rfl <| zil X0 Hb d27_361 rfl <| zcy X0 Hb d27_362 (flt ((by decide) : ¬ ((6 : Int32) < (4 : Int32)))).2.1 490 (by decide) rfl <| ziL X0 Hb d27_490 rfl <| zsp X0 Hb d27_492 255 rfl ?_
            refine zan X0 Hb d27_495 <| ziS X0 Hb (L' := (own_F3 b (4 : Int32) (4 : Int32) d (2 : Int32) (1 : Int32) (yt &&& (255 : Int32)))) d27_496 rfl <| ziL X0 Hb d27_498 rfl <| zsp X0 Hb d27_500 244 rfl ?_
            exact k
          by_cases hc503_13 : (244 : Int32) < (yt &&& (255 : Int32))
          · obtain ⟨_, T14, Lc14, X14, hQ14, st14⟩ := own_cS X0 Hb hZ hown hml (L := (own_F3 b (4 : Int32) (4 : Int32) d (3 : Int32) (1 : Int32) (yt &&& (255 : Int32)))) rfl (rm19_2 hw d (65533 : Int32) kd (8 : Int32) ua ub uc ud (0 : Int32) (0 : Int32) [.int 0, .int 0] O SU V_d (by decide) (by decide) g_d) (W 160 rfl) (W 111 rfl) (W 21 rfl) (W 112 rfl) pd2 e0 d27_546 [.ref d, .int 2, .int 65533] [] rfl rfl (by decide) 0 rfl (by decide)
            obtain ⟨rfl, N14q, K14, V_d_c14⟩ := hQ14
            have N14 := Fr.app N0 N14q
            have V_b := V_b.keep K14 (ninS nbd nin0)
            have O := O.keep K14 (allS g_d all0)
            have K := K.trans K14 (allS (Or.inl (List.mem_of_getElem? (i := 0) rfl)) all0)
            have w15 : own_Go p e below f0 T14 m 623 (own_F3 b (4 : Int32) (4 : Int32) d (3 : Int32) (1 : Int32) (yt &&& (255 : Int32))) [.int 3] := fun t k => by
              refine w12 t ?_
              refine zcy X0 Hb d27_503 (tlt hc503_13).2.2.1 526 (by decide) rfl <| ziL X0 Hb d27_526 rfl <| ziy X0 Hb d27_528 ((if0 _ _).trans (feq ((by decide) : ¬ ((1 : Int32) = (0 : Int32)))).2) 538 (by decide) rfl <| zal X0 Hb d27_538 rfl rfl <| ziL X0 Hb d27_539 rfl <| zii X0 Hb (L' := (own_F3 b (4 : Int32) (4 : Int32) d (3 : Int32) (1 : Int32) (yt &&& (255 : Int32)))) d27_541 rfl 3 rfl rfl <| X0.ldcInt hx hown (mvT hZ (W 165 rfl)) (g := (mkF m 544 (own_F3 b (4 : Int32) (4 : Int32) d (3 : Int32) (1 : Int32) (yt &&& (255 : Int32))) [.int 2, .ref d])) rfl (hb hby d27_544) _ <| st14 _ ?_
              refine zgo X14 Hb d27_549 0 (by decide) rfl <| zil X14 Hb d27_0 rfl <| zil X14 Hb d27_1 rfl <| zcy X14 Hb d27_2 (flt ((by decide) : ¬ ((4 : Int32) < (4 : Int32)))).2.1 621 (by decide) rfl <| ziL X14 Hb d27_621 rfl ?_
              exact k
            exact own_oI X14 Hb Bd.notSynchronized Bd.returns w15 d27_623 rfl (by decide) (by decide) ⟨rfl, N14, K, V_d_c14⟩
          · obtain ⟨_, T16, Lc16, X16, hQ16, st16⟩ := own_cS X0 Hb hZ hown hml (L := (own_F3 b (5 : Int32) (4 : Int32) d (3 : Int32) (1 : Int32) (yt &&& (255 : Int32)))) rfl (rm19_2 hw d (65533 : Int32) kd (8 : Int32) ua ub uc ud (0 : Int32) (0 : Int32) [.int 0, .int 0] O SU V_d (by decide) (by decide) g_d) (W 160 rfl) (W 111 rfl) (W 21 rfl) (W 112 rfl) pd2 e0 d27_575 [.ref d, .int 2, .int 65533] [] rfl rfl (by decide) 0 rfl (by decide)
            obtain ⟨rfl, N16q, K16, V_d_c16⟩ := hQ16
            have N16 := Fr.app N0 N16q
            have V_b := V_b.keep K16 (ninS nbd nin0)
            have O := O.keep K16 (allS g_d all0)
            have K := K.trans K16 (allS (Or.inl (List.mem_of_getElem? (i := 0) rfl)) all0)
            have w17 : own_Go p e below f0 T16 m 623 (own_F3 b (5 : Int32) (4 : Int32) d (3 : Int32) (1 : Int32) (yt &&& (255 : Int32))) [.int 3] := fun t k => by
              refine w12 t ?_
              refine zcn X0 Hb d27_503 (flt hc503_13).2.2.1 <| zil X0 Hb d27_506 rfl <| zil X0 Hb d27_507 rfl <| zcy X0 Hb d27_508 (flt ((by decide) : ¬ ((4 : Int32) < (4 : Int32)))).2.1 552 (by decide) rfl <| ziL X0 Hb d27_552 rfl <| ziy X0 Hb d27_554 ((if0 _ _).trans (feq ((by decide) : ¬ ((1 : Int32) = (0 : Int32)))).2) 564 (by decide) rfl <| zii X0 Hb (L' := (own_F3 b (5 : Int32) (4 : Int32) d (2 : Int32) (1 : Int32) (yt &&& (255 : Int32)))) d27_564 rfl 5 rfl rfl <| zal X0 Hb d27_567 rfl rfl ?_
              refine ziL X0 Hb d27_568 rfl <| zii X0 Hb (L' := (own_F3 b (5 : Int32) (4 : Int32) d (3 : Int32) (1 : Int32) (yt &&& (255 : Int32)))) d27_570 rfl 3 rfl rfl <| X0.ldcInt hx hown (mvT hZ (W 165 rfl)) (g := (mkF m 573 (own_F3 b (5 : Int32) (4 : Int32) d (3 : Int32) (1 : Int32) (yt &&& (255 : Int32))) [.int 2, .ref d])) rfl (hb hby d27_573) _ <| st16 _ <| zil X16 Hb d27_578 rfl <| zil X16 Hb d27_579 rfl <| zcy X16 Hb d27_580 (flt ((by decide) : ¬ ((5 : Int32) < (4 : Int32)))).2.1 621 (by decide) rfl <| ziL X16 Hb d27_621 rfl ?_
              exact k
            exact own_oI X16 Hb Bd.notSynchronized Bd.returns w17 d27_623 rfl (by decide) (by decide) ⟨rfl, N16, K, V_d_c16⟩
        · obtain ⟨_, T18, Lc18, X18, hQ18, st18⟩ := own_cS X0 Hb hZ hown hml (L := (own_F3 b (4 : Int32) (4 : Int32) d (3 : Int32) (1 : Int32) yt)) rfl (rm19_2 hw d (65533 : Int32) kd (8 : Int32) ua ub uc ud (0 : Int32) (0 : Int32) [.int 0, .int 0] O SU V_d (by decide) (by decide) g_d) (W 160 rfl) (W 111 rfl) (W 21 rfl) (W 112 rfl) pd2 e0 d27_615 [.ref d, .int 2, .int 65533] [] rfl rfl (by decide) 0 rfl (by decide)
          obtain ⟨rfl, N18q, K18, V_d_c18⟩ := hQ18
          have N18 := Fr.app N0 N18q
          have V_b := V_b.keep K18 (ninS nbd nin0)
          have O := O.keep K18 (allS g_d all0)
          have K := K.trans K18 (allS (Or.inl (List.mem_of_getElem? (i := 0) rfl)) all0)
          have w19 : own_Go p e below f0 T18 m 623 (own_F3 b (4 : Int32) (4 : Int32) d (3 : Int32) (1 : Int32) yt) [.int 3] := fun t k => by
            refine w10 t ?_
            refine zcy X0 Hb d27_355 (feq hc355_11).2 595 (by decide) rfl <| ziL X0 Hb d27_595 rfl <| ziy X0 Hb d27_597 ((if0 _ _).trans (feq ((by decide) : ¬ ((1 : Int32) = (0 : Int32)))).2) 607 (by decide) rfl <| zal X0 Hb d27_607 rfl rfl <| ziL X0 Hb d27_608 rfl <| zii X0 Hb (L' := (own_F3 b (4 : Int32) (4 : Int32) d (3 : Int32) (1 : Int32) yt)) d27_610 rfl 3 rfl rfl <| X0.ldcInt hx hown (mvT hZ (W 165 rfl)) (g := (mkF m 613 (own_F3 b (4 : Int32) (4 : Int32) d (3 : Int32) (1 : Int32) yt) [.int 2, .ref d])) rfl (hb hby d27_613) _ <| st18 _ ?_
            refine zgo X18 Hb d27_618 0 (by decide) rfl <| zil X18 Hb d27_0 rfl <| zil X18 Hb d27_1 rfl <| zcy X18 Hb d27_2 (flt ((by decide) : ¬ ((4 : Int32) < (4 : Int32)))).2.1 621 (by decide) rfl <| ziL X18 Hb d27_621 rfl ?_
            exact k
          exact own_oI X18 Hb Bd.notSynchronized Bd.returns w19 d27_623 rfl (by decide) (by decide) ⟨rfl, N18, K, V_d_c18⟩
    · obtain ⟨_, T20, Lc20, X20, hQ20, st20⟩ := own_cS X0 Hb hZ hown hml (L := (own_F3 b (4 : Int32) (4 : Int32) d (3 : Int32) (1 : Int32) yt)) rfl (rm19_2 hw d (65533 : Int32) kd (8 : Int32) ua ub uc ud (0 : Int32) (0 : Int32) [.int 0, .int 0] O SU V_d (by decide) (by decide) g_d) (W 160 rfl) (W 111 rfl) (W 21 rfl) (W 112 rfl) pd2 e0 d27_137 [.ref d, .int 2, .int 65533] [] rfl rfl (by decide) 0 rfl (by decide)
      obtain ⟨rfl, N20q, K20, V_d_c20⟩ := hQ20
      have N20 := Fr.app N0 N20q
      have V_b := V_b.keep K20 (ninS nbd nin0)
      have O := O.keep K20 (allS g_d all0)
      have K := K.trans K20 (allS (Or.inl (List.mem_of_getElem? (i := 0) rfl)) all0)
      have w21 : own_Go p e below f0 T20 m 623 (own_F3 b (4 : Int32) (4 : Int32) d (3 : Int32) (1 : Int32) yt) [.int 3] := fun t k => by
        refine w4 t ?_
        refine zin X0 Hb d27_47 ((if0 _ _).trans (feq hc47_5).1) <| zil X0 Hb d27_50 rfl <| zil X0 Hb d27_51 rfl <| zcy X0 Hb d27_52 (flt ((by decide) : ¬ ((4 : Int32) < (4 : Int32)))).2.1 119 (by decide) rfl <| ziL X0 Hb d27_119 rfl <| ziy X0 Hb d27_121 ((if0 _ _).trans (feq ((by decide) : ¬ ((1 : Int32) = (0 : Int32)))).2) 129 (by decide) rfl <| zal X0 Hb d27_129 rfl rfl <| ziL X0 Hb d27_130 rfl ?_
        refine zii X0 Hb (L' := (own_F3 b (4 : Int32) (4 : Int32) d (3 : Int32) (1 : Int32) yt)) d27_132 rfl 3 rfl rfl <| X0.ldcInt hx hown (mvT hZ (W 165 rfl)) (g := (mkF m 135 (own_F3 b (4 : Int32) (4 : Int32) d (3 : Int32) (1 : Int32) yt) [.int 2, .ref d])) rfl (hb hby d27_135) _ <| st20 _ <| zgo X20 Hb d27_140 621 (by decide) rfl <| ziL X20 Hb d27_621 rfl ?_
        exact k
      exact own_oI X20 Hb Bd.notSynchronized Bd.returns w21 d27_623 rfl (by decide) (by decide) ⟨rfl, N20, K, V_d_c20⟩
  · have w22 : own_Go p e below f0 s₁ m 149 (own_F3 b (4 : Int32) (4 : Int32) d (2 : Int32) (1 : Int32) yt) [.int (-2), (.int (yt >>> ((4 : Int32) &&& 31)))] := fun t k => by
      refine w2 t ?_
      refine zcy X0 Hb d27_39 (feq hc39_3).2 143 (by decide) rfl <| ziL X0 Hb d27_143 rfl <| zic X0 Hb d27_145 4 rfl <| zsr X0 Hb d27_146 <| zbp X0 Hb d27_147 (-2) rfl ?_
      exact k
    by_cases hc149_23 : (yt >>> ((4 : Int32) &&& 31)) = (-2 : Int32)
    · obtain ⟨_, T24, Lc24, X24, hQ24, st24⟩ := own_cS X0 Hb hZ hown hml (L := (own_F3 b (4 : Int32) (4 : Int32) d (3 : Int32) (1 : Int32) yt)) rfl (rm19_2 hw d (65533 : Int32) kd (8 : Int32) ua ub uc ud (0 : Int32) (0 : Int32) [.int 0, .int 0] O SU V_d (by decide) (by decide) g_d) (W 160 rfl) (W 111 rfl) (W 21 rfl) (W 112 rfl) pd2 e0 d27_343 [.ref d, .int 2, .int 65533] [] rfl rfl (by decide) 0 rfl (by decide)
      obtain ⟨rfl, N24q, K24, V_d_c24⟩ := hQ24
      have N24 := Fr.app N0 N24q
      have V_b := V_b.keep K24 (ninS nbd nin0)
      have O := O.keep K24 (allS g_d all0)
      have K := K.trans K24 (allS (Or.inl (List.mem_of_getElem? (i := 0) rfl)) all0)
      have w25 : own_Go p e below f0 T24 m 623 (own_F3 b (4 : Int32) (4 : Int32) d (3 : Int32) (1 : Int32) yt) [.int 3] := fun t k => by
        refine w22 t ?_
        refine zcn X0 Hb d27_149 (teq hc149_23).2 <| zil X0 Hb d27_152 rfl <| zic X0 Hb d27_153 1 rfl <| zia' X0 Hb d27_154 5 rfl <| zil X0 Hb d27_155 rfl <| zcy X0 Hb d27_156 (flt ((by decide) : ¬ ((5 : Int32) < (4 : Int32)))).2.1 283 (by decide) rfl <| zil X0 Hb d27_283 rfl <| zil X0 Hb d27_284 rfl ?_
        refine zcy X0 Hb d27_285 (flt ((by decide) : ¬ ((4 : Int32) < (4 : Int32)))).2.1 325 (by decide) rfl <| ziL X0 Hb d27_325 rfl <| ziy X0 Hb d27_327 ((if0 _ _).trans (feq ((by decide) : ¬ ((1 : Int32) = (0 : Int32)))).2) 335 (by decide) rfl <| zal X0 Hb d27_335 rfl rfl <| ziL X0 Hb d27_336 rfl <| zii X0 Hb (L' := (own_F3 b (4 : Int32) (4 : Int32) d (3 : Int32) (1 : Int32) yt)) d27_338 rfl 3 rfl rfl <| X0.ldcInt hx hown (mvT hZ (W 165 rfl)) (g := (mkF m 341 (own_F3 b (4 : Int32) (4 : Int32) d (3 : Int32) (1 : Int32) yt) [.int 2, .ref d])) rfl (hb hby d27_341) _ <| st24 _ ?_
        refine zgo X24 Hb d27_346 621 (by decide) rfl <| ziL X24 Hb d27_621 rfl ?_
        exact k
      exact own_oI X24 Hb Bd.notSynchronized Bd.returns w25 d27_623 rfl (by decide) (by decide) ⟨rfl, N24, K, V_d_c24⟩
    · have w26 : own_Go p e below f0 s₁ m 355 (own_F3 b (4 : Int32) (4 : Int32) d (2 : Int32) (1 : Int32) yt) [.int (-2), (.int (yt >>> ((3 : Int32) &&& 31)))] := fun t k => by
        refine w22 t ?_
        refine zcy X0 Hb d27_149 (feq hc149_23).2 349 (by decide) rfl <| ziL X0 Hb d27_349 rfl <| zic X0 Hb d27_351 3 rfl <| zsr X0 Hb d27_352 <| zbp X0 Hb d27_353 (-2) rfl ?_
        exact k
      by_cases hc355_27 : (yt >>> ((3 : Int32) &&& 31)) = (-2 : Int32)
      · have w28 : own_Go p e below f0 s₁ m 503 (own_F3 b (4 : Int32) (4 : Int32) d (2 : Int32) (1 : Int32) (yt &&& (255 : Int32))) [.int 244, (.int (yt &&& (255 : Int32)))] := fun t k => by
          refine w26 t ?_
          refine zcn X0 Hb d27_355 (teq hc355_27).2 <| zil X0 Hb d27_358 rfl <| zic X0 Hb d27_359 2 rfl <| zia' X0 Hb d27_360 6 rfl <| zil X0 Hb d27_361 rfl <| zcy X0 Hb d27_362 (flt ((by decide) : ¬ ((6 : Int32) < (4 : Int32)))).2.1 490 (by decide) rfl <| ziL X0 Hb d27_490 rfl <| zsp X0 Hb d27_492 255 rfl ?_
          refine zan X0 Hb d27_495 <| ziS X0 Hb (L' := (own_F3 b (4 : Int32) (4 : Int32) d (2 : Int32) (1 : Int32) (yt &&& (255 : Int32)))) d27_496 rfl <| ziL X0 Hb d27_498 rfl <| zsp X0 Hb d27_500 244 rfl ?_
          exact k
        by_cases hc503_29 : (244 : Int32) < (yt &&& (255 : Int32))
        · obtain ⟨_, T30, Lc30, X30, hQ30, st30⟩ := own_cS X0 Hb hZ hown hml (L := (own_F3 b (4 : Int32) (4 : Int32) d (3 : Int32) (1 : Int32) (yt &&& (255 : Int32)))) rfl (rm19_2 hw d (65533 : Int32) kd (8 : Int32) ua ub uc ud (0 : Int32) (0 : Int32) [.int 0, .int 0] O SU V_d (by decide) (by decide) g_d) (W 160 rfl) (W 111 rfl) (W 21 rfl) (W 112 rfl) pd2 e0 d27_546 [.ref d, .int 2, .int 65533] [] rfl rfl (by decide) 0 rfl (by decide)
          obtain ⟨rfl, N30q, K30, V_d_c30⟩ := hQ30
          have N30 := Fr.app N0 N30q
          have V_b := V_b.keep K30 (ninS nbd nin0)
          have O := O.keep K30 (allS g_d all0)
          have K := K.trans K30 (allS (Or.inl (List.mem_of_getElem? (i := 0) rfl)) all0)
          have w31 : own_Go p e below f0 T30 m 623 (own_F3 b (4 : Int32) (4 : Int32) d (3 : Int32) (1 : Int32) (yt &&& (255 : Int32))) [.int 3] := fun t k => by
            refine w28 t ?_
            refine zcy X0 Hb d27_503 (tlt hc503_29).2.2.1 526 (by decide) rfl <| ziL X0 Hb d27_526 rfl <| ziy X0 Hb d27_528 ((if0 _ _).trans (feq ((by decide) : ¬ ((1 : Int32) = (0 : Int32)))).2) 538 (by decide) rfl <| zal X0 Hb d27_538 rfl rfl <| ziL X0 Hb d27_539 rfl <| zii X0 Hb (L' := (own_F3 b (4 : Int32) (4 : Int32) d (3 : Int32) (1 : Int32) (yt &&& (255 : Int32)))) d27_541 rfl 3 rfl rfl <| X0.ldcInt hx hown (mvT hZ (W 165 rfl)) (g := (mkF m 544 (own_F3 b (4 : Int32) (4 : Int32) d (3 : Int32) (1 : Int32) (yt &&& (255 : Int32))) [.int 2, .ref d])) rfl (hb hby d27_544) _ <| st30 _ ?_
            refine zgo X30 Hb d27_549 0 (by decide) rfl <| zil X30 Hb d27_0 rfl <| zil X30 Hb d27_1 rfl <| zcy X30 Hb d27_2 (flt ((by decide) : ¬ ((4 : Int32) < (4 : Int32)))).2.1 621 (by decide) rfl <| ziL X30 Hb d27_621 rfl ?_
            exact k
          exact own_oI X30 Hb Bd.notSynchronized Bd.returns w31 d27_623 rfl (by decide) (by decide) ⟨rfl, N30, K, V_d_c30⟩
        · obtain ⟨_, T32, Lc32, X32, hQ32, st32⟩ := own_cS X0 Hb hZ hown hml (L := (own_F3 b (5 : Int32) (4 : Int32) d (3 : Int32) (1 : Int32) (yt &&& (255 : Int32)))) rfl (rm19_2 hw d (65533 : Int32) kd (8 : Int32) ua ub uc ud (0 : Int32) (0 : Int32) [.int 0, .int 0] O SU V_d (by decide) (by decide) g_d) (W 160 rfl) (W 111 rfl) (W 21 rfl) (W 112 rfl) pd2 e0 d27_575 [.ref d, .int 2, .int 65533] [] rfl rfl (by decide) 0 rfl (by decide)
          obtain ⟨rfl, N32q, K32, V_d_c32⟩ := hQ32
          have N32 := Fr.app N0 N32q
          have V_b := V_b.keep K32 (ninS nbd nin0)
          have O := O.keep K32 (allS g_d all0)
          have K := K.trans K32 (allS (Or.inl (List.mem_of_getElem? (i := 0) rfl)) all0)
          have w33 : own_Go p e below f0 T32 m 623 (own_F3 b (5 : Int32) (4 : Int32) d (3 : Int32) (1 : Int32) (yt &&& (255 : Int32))) [.int 3] := fun t k => by
            refine w28 t ?_
            refine zcn X0 Hb d27_503 (flt hc503_29).2.2.1 <| zil X0 Hb d27_506 rfl <| zil X0 Hb d27_507 rfl <| zcy X0 Hb d27_508 (flt ((by decide) : ¬ ((4 : Int32) < (4 : Int32)))).2.1 552 (by decide) rfl <| ziL X0 Hb d27_552 rfl <| ziy X0 Hb d27_554 ((if0 _ _).trans (feq ((by decide) : ¬ ((1 : Int32) = (0 : Int32)))).2) 564 (by decide) rfl <| zii X0 Hb (L' := (own_F3 b (5 : Int32) (4 : Int32) d (2 : Int32) (1 : Int32) (yt &&& (255 : Int32)))) d27_564 rfl 5 rfl rfl <| zal X0 Hb d27_567 rfl rfl ?_
            refine ziL X0 Hb d27_568 rfl <| zii X0 Hb (L' := (own_F3 b (5 : Int32) (4 : Int32) d (3 : Int32) (1 : Int32) (yt &&& (255 : Int32)))) d27_570 rfl 3 rfl rfl <| X0.ldcInt hx hown (mvT hZ (W 165 rfl)) (g := (mkF m 573 (own_F3 b (5 : Int32) (4 : Int32) d (3 : Int32) (1 : Int32) (yt &&& (255 : Int32))) [.int 2, .ref d])) rfl (hb hby d27_573) _ <| st32 _ <| zil X32 Hb d27_578 rfl <| zil X32 Hb d27_579 rfl <| zcy X32 Hb d27_580 (flt ((by decide) : ¬ ((5 : Int32) < (4 : Int32)))).2.1 621 (by decide) rfl <| ziL X32 Hb d27_621 rfl ?_
            exact k
          exact own_oI X32 Hb Bd.notSynchronized Bd.returns w33 d27_623 rfl (by decide) (by decide) ⟨rfl, N32, K, V_d_c32⟩
      · obtain ⟨_, T34, Lc34, X34, hQ34, st34⟩ := own_cS X0 Hb hZ hown hml (L := (own_F3 b (4 : Int32) (4 : Int32) d (3 : Int32) (1 : Int32) yt)) rfl (rm19_2 hw d (65533 : Int32) kd (8 : Int32) ua ub uc ud (0 : Int32) (0 : Int32) [.int 0, .int 0] O SU V_d (by decide) (by decide) g_d) (W 160 rfl) (W 111 rfl) (W 21 rfl) (W 112 rfl) pd2 e0 d27_615 [.ref d, .int 2, .int 65533] [] rfl rfl (by decide) 0 rfl (by decide)
        obtain ⟨rfl, N34q, K34, V_d_c34⟩ := hQ34
        have N34 := Fr.app N0 N34q
        have V_b := V_b.keep K34 (ninS nbd nin0)
        have O := O.keep K34 (allS g_d all0)
        have K := K.trans K34 (allS (Or.inl (List.mem_of_getElem? (i := 0) rfl)) all0)
        have w35 : own_Go p e below f0 T34 m 623 (own_F3 b (4 : Int32) (4 : Int32) d (3 : Int32) (1 : Int32) yt) [.int 3] := fun t k => by
          refine w26 t ?_
          refine zcy X0 Hb d27_355 (feq hc355_27).2 595 (by decide) rfl <| ziL X0 Hb d27_595 rfl <| ziy X0 Hb d27_597 ((if0 _ _).trans (feq ((by decide) : ¬ ((1 : Int32) = (0 : Int32)))).2) 607 (by decide) rfl <| zal X0 Hb d27_607 rfl rfl <| ziL X0 Hb d27_608 rfl <| zii X0 Hb (L' := (own_F3 b (4 : Int32) (4 : Int32) d (3 : Int32) (1 : Int32) yt)) d27_610 rfl 3 rfl rfl <| X0.ldcInt hx hown (mvT hZ (W 165 rfl)) (g := (mkF m 613 (own_F3 b (4 : Int32) (4 : Int32) d (3 : Int32) (1 : Int32) yt) [.int 2, .ref d])) rfl (hb hby d27_613) _ <| st34 _ ?_
          refine zgo X34 Hb d27_618 0 (by decide) rfl <| zil X34 Hb d27_0 rfl <| zil X34 Hb d27_1 rfl <| zcy X34 Hb d27_2 (flt ((by decide) : ¬ ((4 : Int32) < (4 : Int32)))).2.1 621 (by decide) rfl <| ziL X34 Hb d27_621 rfl ?_
          exact k
        exact own_oI X34 Hb Bd.notSynchronized Bd.returns w35 d27_623 rfl (by decide) (by decide) ⟨rfl, N34, K, V_d_c34⟩
theorem d27_55 : decode B27 55 = .ok (.aload_n 0, 1) := by decide +kernel
theorem d27_56 : decode B27 56 = .ok (.iload_n 1, 1) := by decide +kernel
theorem d27_57 : decode B27 57 = .ok (.iinc 1 1, 3) := by decide +kernel
theorem d27_60 : decode B27 60 = .ok (.baload, 1) := by decide +kernel
theorem d27_61 : decode B27 61 = .ok (.istore 7, 2) := by decide +kernel
def own_F4 (x0 : Addr) (x1 : Int32) (x2 : Int32) (x3 : Addr) (x4 : Int32) (x5 : Int32) (x6 : Int32) (x7 : Int32) : Array Slot := #[.val (.ref x0), .val (.int x1), .val (.int x2), .val (.ref x3), .val (.int x4), .val (.int x5), .val (.int x6), .val (.int x7), .unset, .unset, .unset]
theorem d27_63 : decode B27 63 = .ok (.iload 7, 2) := by decide +kernel
theorem d27_65 : decode B27 65 = .ok (.invokestatic 385, 3) := by decide +kernel
theorem pd14 : parseMethodDescriptor "(I)Z" = some ⟨[.int], some .boolean⟩ := by decide +kernel
theorem d27_68 : decode B27 68 = .ok (.ifCond .eq 32, 3) := by decide +kernel
theorem d27_100 : decode B27 100 = .ok (.aload_n 3, 1) := by decide +kernel
theorem d27_101 : decode B27 101 = .ok (.iload 4, 2) := by decide +kernel
theorem d27_103 : decode B27 103 = .ok (.iinc 4 1, 3) := by decide +kernel
theorem d27_106 : decode B27 106 = .ok (.iload 6, 2) := by decide +kernel
theorem d27_108 : decode B27 108 = .ok (.iload 7, 2) := by decide +kernel
theorem d27_110 : decode B27 110 = .ok (.invokestatic 98, 3) := by decide +kernel
theorem pd15 : parseMethodDescriptor "(II)C" = some ⟨[.int, .int], some .char⟩ := by decide +kernel
theorem d27_113 : decode B27 113 = .ok (.invokestatic 64, 3) := by decide +kernel
theorem d27_116 : decode B27 116 = .ok (.goto (-116), 3) := by decide +kernel
theorem d27_18 : decode B27 18 = .ok (.aload_n 3, 1) := by decide +kernel
theorem d27_19 : decode B27 19 = .ok (.iload 4, 2) := by decide +kernel
theorem d27_21 : decode B27 21 = .ok (.iinc 4 1, 3) := by decide +kernel
theorem d27_24 : decode B27 24 = .ok (.iload 6, 2) := by decide +kernel
theorem d27_26 : decode B27 26 = .ok (.i2c, 1) := by decide +kernel
theorem d27_27 : decode B27 27 = .ok (.invokestatic 64, 3) := by decide +kernel
theorem d27_30 : decode B27 30 = .ok (.goto 588, 3) := by decide +kernel
theorem rm27_D {l : Launch} {Z : State} {a0 : Array Value} (hw : own_W a0 Z) (b d : Addr) (kb : ClassId) (ya yb yc yt cw : Int32) (kd : ClassId) (ua ub : Int32) {zc : Int32} {fm : Value} {u8 : Addr} {h0 : Heap} {n0 : Nat} (O0 : Old Z n0 h0) (SU : own_SU Z zc fm u8) (V_b : Arv Z h0 b kb .byte (4 : Int32) [.int ya, .int yb, .int yc, .int yt] (.int 0)) (V_d : Arv Z h0 d kd .byte (8 : Int32) [.int ua, .int ub, .int 0, .int 0, .int 0, .int 0, .int 0, .int 0] (.int 0)) (nbd : b ≠ d) (hp : own_P2 cw yb yc) (g_d : n0 ≤ d) : own_M l own_n27 jdk_42_method_38_code 11 (some .int) (own_rm 1 0 0 15) Z h0 #[.ref b, .int 1, .int 4, .ref d, .int 1, .int 1] (fun v h L => v = some (.int 3) ∧ Fr n0 L ∧ Keep h0 h [d] ∧ Arv Z h d kd .byte (8 : Int32) [.int ua, .int ub, .int (own_lo cw), .int (own_hi cw), (.int (own_lo (own_tl yt))), (.int (own_hi (own_tl yt))), .int 0, .int 0] (.int 0)) := by
  refine own_body (L0 := #[.val (.ref b), .val (.int 1), .val (.int 4), .val (.ref d), .val (.int 1), .val (.int 1), .unset, .unset, .unset, .unset, .unset]) (plainFor_of_name pn_java_lang_String) rfl rfl ?_
  intro p e s m below meth c s₁ f0 Bd hx Hb hml hZ hown X0 e0 pre0
  have hby := Hb.2
  have W := own_q hw
  have N0 := Fr.nil n0
  have O := O0
  have K := Keep.refl h0 [d]
  have B1 : own_El Z h0 b .byte (1 : Int32) (.int yb) := own_el V_b ⟨by decide, by decide⟩ rfl
  have B2 : own_El Z h0 b .byte (2 : Int32) (.int yc) := own_el V_b ⟨by decide, by decide⟩ rfl
  obtain ⟨_, T3, Lc3, X3, hQ3, st3⟩ := own_cS X0 Hb hZ hown hml (L := (own_F4 b (3 : Int32) (4 : Int32) d (1 : Int32) (1 : Int32) yb yc)) rfl (rm35 hw yc O hp.2.2.2.1) (W 177 rfl) (W 178 rfl) (W 7 rfl) (W 179 rfl) pd14 e0 d27_65 [.int yc] [] rfl rfl (by decide) 0 rfl (by decide)
  obtain ⟨rfl, N3q, eh3⟩ := hQ3
  have N3 := Fr.app N0 N3q
  obtain ⟨_, T4, Lc4, X4, hQ4, st4⟩ := own_cS X3 Hb hZ hown hml (L := (own_F4 b (3 : Int32) (4 : Int32) d (2 : Int32) (1 : Int32) yb yc)) rfl (rm36 hw yb yc cw O hp.2.2.2.2.2.1) (W 180 rfl) (W 181 rfl) (W 7 rfl) (W 182 rfl) pd15 eh3 d27_110 [.int yb, .int yc] [.int 1, .ref d] rfl rfl (by decide) 2 rfl (by decide)
  obtain ⟨rfl, N4q, eh4⟩ := hQ4
  have N4 := Fr.app N3 N4q
  obtain ⟨_, T5, Lc5, X5, hQ5, st5⟩ := own_cS X4 Hb hZ hown hml (L := (own_F4 b (3 : Int32) (4 : Int32) d (2 : Int32) (1 : Int32) yb yc)) rfl (rm19_1 hw d cw kd (8 : Int32) ua ub (0 : Int32) (0 : Int32) [.int 0, .int 0, .int 0, .int 0] O SU V_d (by decide) (by decide) g_d) (W 160 rfl) (W 111 rfl) (W 21 rfl) (W 112 rfl) pd2 eh4 d27_113 [.ref d, .int 1, .int cw] [] rfl rfl (by decide) 0 rfl (by decide)
  obtain ⟨rfl, N5q, K5, V_d_c5⟩ := hQ5
  have N5 := Fr.app N4 N5q
  have V_b := V_b.keep K5 (ninS nbd nin0)
  have O := O.keep K5 (allS g_d all0)
  have K := K.trans K5 (allS (Or.inl (List.mem_of_getElem? (i := 0) rfl)) all0)
  have B6 : own_El Z (T5.heap) b .byte (3 : Int32) (.int yt) := own_el V_b ⟨by decide, by decide⟩ rfl
  have w7 : own_Go p e below f0 T5 m 15 (own_F4 b (4 : Int32) (4 : Int32) d (2 : Int32) (1 : Int32) yt yc) [.int yt] := fun t k => by
    refine pre0 t ?_
    refine zil X0 Hb d27_0 rfl <| zil X0 Hb d27_1 rfl <| zcn X0 Hb d27_2 (tlt ((by decide) : (1 : Int32) < (4 : Int32))).2.1 <| zal X0 Hb d27_5 rfl rfl <| zil X0 Hb d27_6 rfl <| zii X0 Hb (L' := (own_F2 b (2 : Int32) (4 : Int32) d (1 : Int32) (1 : Int32))) d27_7 rfl 2 rfl rfl <| zba X0 Hb hZ e0 B1 d27_10 <| ziS X0 Hb (L' := (own_F3 b (2 : Int32) (4 : Int32) d (1 : Int32) (1 : Int32) yb)) d27_11 rfl ?_
    refine ziL X0 Hb d27_13 rfl <| ziy X0 Hb d27_15 ((if0 _ _).trans (tlt (hp.1 : yb < (0 : Int32))).1) 33 (by decide) rfl <| ziL X0 Hb d27_33 rfl <| zic X0 Hb d27_35 5 rfl <| zsr X0 Hb d27_36 <| zbp X0 Hb d27_37 (-2) rfl <| zcn X0 Hb d27_39 (teq (hp.2.1 : (yb >>> ((5 : Int32) &&& 31)) = (-2 : Int32))).2 <| ziL X0 Hb d27_42 rfl ?_
    refine zbp X0 Hb d27_44 30 rfl <| zan X0 Hb d27_46 <| zin X0 Hb d27_47 ((if0 _ _).trans (feq (hp.2.2.1 : ¬ ((yb &&& (30 : Int32)) = (0 : Int32)))).1) <| zil X0 Hb d27_50 rfl <| zil X0 Hb d27_51 rfl <| zcn X0 Hb d27_52 (tlt ((by decide) : (2 : Int32) < (4 : Int32))).2.1 <| zal X0 Hb d27_55 rfl rfl <| zil X0 Hb d27_56 rfl ?_
    refine zii X0 Hb (L' := (own_F3 b (3 : Int32) (4 : Int32) d (1 : Int32) (1 : Int32) yb)) d27_57 rfl 3 rfl rfl <| zba X0 Hb hZ e0 B2 d27_60 <| ziS X0 Hb (L' := (own_F4 b (3 : Int32) (4 : Int32) d (1 : Int32) (1 : Int32) yb yc)) d27_61 rfl <| ziL X0 Hb d27_63 rfl <| st3 _ <| ziy X3 Hb d27_68 ((if0 _ _).trans (teq (rfl : (0 : Int32) = (0 : Int32))).1) 100 (by decide) rfl <| zal X3 Hb d27_100 rfl rfl <| ziL X3 Hb d27_101 rfl ?_
    refine zii X3 Hb (L' := (own_F4 b (3 : Int32) (4 : Int32) d (2 : Int32) (1 : Int32) yb yc)) d27_103 rfl 2 rfl rfl <| ziL X3 Hb d27_106 rfl <| ziL X3 Hb d27_108 rfl <| st4 _ <| st5 _ <| zgo X5 Hb d27_116 0 (by decide) rfl <| zil X5 Hb d27_0 rfl <| zil X5 Hb d27_1 rfl ?_
    refine zcn X5 Hb d27_2 (tlt ((by decide) : (3 : Int32) < (4 : Int32))).2.1 <| zal X5 Hb d27_5 rfl rfl <| zil X5 Hb d27_6 rfl <| zii X5 Hb (L' := (own_F4 b (4 : Int32) (4 : Int32) d (2 : Int32) (1 : Int32) yb yc)) d27_7 rfl 4 rfl rfl <| zba X5 Hb hZ rfl B6 d27_10 <| ziS X5 Hb (L' := (own_F4 b (4 : Int32) (4 : Int32) d (2 : Int32) (1 : Int32) yt yc)) d27_11 rfl <| ziL X5 Hb d27_13 rfl ?_
    exact k
  by_cases hc15_8 : yt < (0 : Int32)
  · have w9 : own_Go p e below f0 T5 m 39 (own_F4 b (4 : Int32) (4 : Int32) d (2 : Int32) (1 : Int32) yt yc) [.int (-2), (.int (yt >>> ((5 : Int32) &&& 31)))] := fun t k => by
      refine w7 t ?_
      refine ziy X5 Hb d27_15 ((if0 _ _).trans (tlt hc15_8).1) 33 (by decide) rfl <| ziL X5 Hb d27_33 rfl <| zic X5 Hb d27_35 5 rfl <| zsr X5 Hb d27_36 <| zbp X5 Hb d27_37 (-2) rfl ?_
      exact k
    by_cases hc39_10 : (yt >>> ((5 : Int32) &&& 31)) = (-2 : Int32)
    · have w11 : own_Go p e below f0 T5 m 47 (own_F4 b (4 : Int32) (4 : Int32) d (2 : Int32) (1 : Int32) yt yc) [(.int (yt &&& (30 : Int32)))] := fun t k => by
        refine w9 t ?_
        refine zcn X5 Hb d27_39 (teq hc39_10).2 <| ziL X5 Hb d27_42 rfl <| zbp X5 Hb d27_44 30 rfl <| zan X5 Hb d27_46 ?_
        exact k
      by_cases hc47_12 : (yt &&& (30 : Int32)) = (0 : Int32)
      · have w13 : own_Go p e below f0 T5 m 149 (own_F4 b (4 : Int32) (4 : Int32) d (2 : Int32) (1 : Int32) yt yc) [.int (-2), (.int (yt >>> ((4 : Int32) &&& 31)))] := fun t k => by
          refine w11 t ?_
          refine ziy X5 Hb d27_47 ((if0 _ _).trans (teq hc47_12).1) 143 (by decide) rfl <| ziL X5 Hb d27_143 rfl <| zic X5 Hb d27_145 4 rfl <| zsr X5 Hb d27_146 <| zbp X5 Hb d27_147 (-2) rfl ?_
          exact k
        by_cases hc149_14 : (yt >>> ((4 : Int32) &&& 31)) = (-2 : Int32)
        · obtain ⟨_, T15, Lc15, X15, hQ15, st15⟩ := own_cS X5 Hb hZ hown hml (L := (own_F4 b (4 : Int32) (4 : Int32) d (3 : Int32) (1 : Int32) yt yc)) rfl (rm19_2 hw d (65533 : Int32) kd (8 : Int32) ua ub (own_lo cw) (own_hi cw) (0 : Int32) (0 : Int32) [.int 0, .int 0] O SU V_d_c5 (by decide) (by decide) g_d) (W 160 rfl) (W 111 rfl) (W 21 rfl) (W 112 rfl) pd2 rfl d27_343 [.ref d, .int 2, .int 65533] [] rfl rfl (by decide) 0 rfl (by decide)
          obtain ⟨rfl, N15q, K15, V_d_c15⟩ := hQ15
          have N15 := Fr.app N5 N15q
          have V_b := V_b.keep K15 (ninS nbd nin0)
          have O := O.keep K15 (allS g_d all0)
          have K := K.trans K15 (allS (Or.inl (List.mem_of_getElem? (i := 0) rfl)) all0)
          have w16 : own_Go p e below f0 T15 m 623 (own_F4 b (4 : Int32) (4 : Int32) d (3 : Int32) (1 : Int32) yt yc) [.int 3] := fun t k => by
            refine w13 t ?_
            refine zcn X5 Hb d27_149 (teq hc149_14).2 <| zil X5 Hb d27_152 rfl <| zic X5 Hb d27_153 1 rfl <| zia' X5 Hb d27_154 5 rfl <| zil X5 Hb d27_155 rfl <| zcy X5 Hb d27_156 (flt ((by decide) : ¬ ((5 : Int32) < (4 : Int32)))).2.1 283 (by decide) rfl <| zil X5 Hb d27_283 rfl <| zil X5 Hb d27_284 rfl ?_
            refine zcy X5 Hb d27_285 (flt ((by decide) : ¬ ((4 : Int32) < (4 : Int32)))).2.1 325 (by decide) rfl <| ziL X5 Hb d27_325 rfl <| ziy X5 Hb d27_327 ((if0 _ _).trans (feq ((by decide) : ¬ ((1 : Int32) = (0 : Int32)))).2) 335 (by decide) rfl <| zal X5 Hb d27_335 rfl rfl <| ziL X5 Hb d27_336 rfl <| zii X5 Hb (L' := (own_F4 b (4 : Int32) (4 : Int32) d (3 : Int32) (1 : Int32) yt yc)) d27_338 rfl 3 rfl rfl <| X5.ldcInt hx hown (mvT hZ (W 165 rfl)) (g := (mkF m 341 (own_F4 b (4 : Int32) (4 : Int32) d (3 : Int32) (1 : Int32) yt yc) [.int 2, .ref d])) rfl (hb hby d27_341) _ <| st15 _ ?_
            refine zgo X15 Hb d27_346 621 (by decide) rfl <| ziL X15 Hb d27_621 rfl ?_
            exact k
          exact own_oI X15 Hb Bd.notSynchronized Bd.returns w16 d27_623 rfl (by decide) (by decide) ⟨rfl, N15, K, (by rw [own_tlP hc15_8]; exact V_d_c15)⟩
        · have w17 : own_Go p e below f0 T5 m 355 (own_F4 b (4 : Int32) (4 : Int32) d (2 : Int32) (1 : Int32) yt yc) [.int (-2), (.int (yt >>> ((3 : Int32) &&& 31)))] := fun t k => by
            refine w13 t ?_
            refine zcy X5 Hb d27_149 (feq hc149_14).2 349 (by decide) rfl <| ziL X5 Hb d27_349 rfl <| zic X5 Hb d27_351 3 rfl <| zsr X5 Hb d27_352 <| zbp X5 Hb d27_353 (-2) rfl ?_
            exact k
          by_cases hc355_18 : (yt >>> ((3 : Int32) &&& 31)) = (-2 : Int32)
          · have w19 : own_Go p e below f0 T5 m 503 (own_F4 b (4 : Int32) (4 : Int32) d (2 : Int32) (1 : Int32) (yt &&& (255 : Int32)) yc) [.int 244, (.int (yt &&& (255 : Int32)))] := fun t k => by
              refine w17 t ?_
              refine zcn X5 Hb d27_355 (teq hc355_18).2 <| zil X5 Hb d27_358 rfl <| zic X5 Hb d27_359 2 rfl <| zia' X5 Hb d27_360 6 rfl <| zil X5 Hb d27_361 rfl <| zcy X5 Hb d27_362 (flt ((by decide) : ¬ ((6 : Int32) < (4 : Int32)))).2.1 490 (by decide) rfl <| ziL X5 Hb d27_490 rfl <| zsp X5 Hb d27_492 255 rfl ?_
              refine zan X5 Hb d27_495 <| ziS X5 Hb (L' := (own_F4 b (4 : Int32) (4 : Int32) d (2 : Int32) (1 : Int32) (yt &&& (255 : Int32)) yc)) d27_496 rfl <| ziL X5 Hb d27_498 rfl <| zsp X5 Hb d27_500 244 rfl ?_
              exact k
            by_cases hc503_20 : (244 : Int32) < (yt &&& (255 : Int32))
            · obtain ⟨_, T21, Lc21, X21, hQ21, st21⟩ := own_cS X5 Hb hZ hown hml (L := (own_F4 b (4 : Int32) (4 : Int32) d (3 : Int32) (1 : Int32) (yt &&& (255 : Int32)) yc)) rfl (rm19_2 hw d (65533 : Int32) kd (8 : Int32) ua ub (own_lo cw) (own_hi cw) (0 : Int32) (0 : Int32) [.int 0, .int 0] O SU V_d_c5 (by decide) (by decide) g_d) (W 160 rfl) (W 111 rfl) (W 21 rfl) (W 112 rfl) pd2 rfl d27_546 [.ref d, .int 2, .int 65533] [] rfl rfl (by decide) 0 rfl (by decide)
              obtain ⟨rfl, N21q, K21, V_d_c21⟩ := hQ21
              have N21 := Fr.app N5 N21q
              have V_b := V_b.keep K21 (ninS nbd nin0)
              have O := O.keep K21 (allS g_d all0)
              have K := K.trans K21 (allS (Or.inl (List.mem_of_getElem? (i := 0) rfl)) all0)
              have w22 : own_Go p e below f0 T21 m 623 (own_F4 b (4 : Int32) (4 : Int32) d (3 : Int32) (1 : Int32) (yt &&& (255 : Int32)) yc) [.int 3] := fun t k => by
                refine w19 t ?_
                refine zcy X5 Hb d27_503 (tlt hc503_20).2.2.1 526 (by decide) rfl <| ziL X5 Hb d27_526 rfl <| ziy X5 Hb d27_528 ((if0 _ _).trans (feq ((by decide) : ¬ ((1 : Int32) = (0 : Int32)))).2) 538 (by decide) rfl <| zal X5 Hb d27_538 rfl rfl <| ziL X5 Hb d27_539 rfl <| zii X5 Hb (L' := (own_F4 b (4 : Int32) (4 : Int32) d (3 : Int32) (1 : Int32) (yt &&& (255 : Int32)) yc)) d27_541 rfl 3 rfl rfl <| X5.ldcInt hx hown (mvT hZ (W 165 rfl)) (g := (mkF m 544 (own_F4 b (4 : Int32) (4 : Int32) d (3 : Int32) (1 : Int32) (yt &&& (255 : Int32)) yc) [.int 2, .ref d])) rfl (hb hby d27_544) _ <| st21 _ ?_
                refine zgo X21 Hb d27_549 0 (by decide) rfl <| zil X21 Hb d27_0 rfl <| zil X21 Hb d27_1 rfl <| zcy X21 Hb d27_2 (flt ((by decide) : ¬ ((4 : Int32) < (4 : Int32)))).2.1 621 (by decide) rfl <| ziL X21 Hb d27_621 rfl ?_
                exact k
              exact own_oI X21 Hb Bd.notSynchronized Bd.returns w22 d27_623 rfl (by decide) (by decide) ⟨rfl, N21, K, (by rw [own_tlP hc15_8]; exact V_d_c21)⟩
            · obtain ⟨_, T23, Lc23, X23, hQ23, st23⟩ := own_cS X5 Hb hZ hown hml (L := (own_F4 b (5 : Int32) (4 : Int32) d (3 : Int32) (1 : Int32) (yt &&& (255 : Int32)) yc)) rfl (rm19_2 hw d (65533 : Int32) kd (8 : Int32) ua ub (own_lo cw) (own_hi cw) (0 : Int32) (0 : Int32) [.int 0, .int 0] O SU V_d_c5 (by decide) (by decide) g_d) (W 160 rfl) (W 111 rfl) (W 21 rfl) (W 112 rfl) pd2 rfl d27_575 [.ref d, .int 2, .int 65533] [] rfl rfl (by decide) 0 rfl (by decide)
              obtain ⟨rfl, N23q, K23, V_d_c23⟩ := hQ23
              have N23 := Fr.app N5 N23q
              have V_b := V_b.keep K23 (ninS nbd nin0)
              have O := O.keep K23 (allS g_d all0)
              have K := K.trans K23 (allS (Or.inl (List.mem_of_getElem? (i := 0) rfl)) all0)
              have w24 : own_Go p e below f0 T23 m 623 (own_F4 b (5 : Int32) (4 : Int32) d (3 : Int32) (1 : Int32) (yt &&& (255 : Int32)) yc) [.int 3] := fun t k => by
                refine w19 t ?_
                refine zcn X5 Hb d27_503 (flt hc503_20).2.2.1 <| zil X5 Hb d27_506 rfl <| zil X5 Hb d27_507 rfl <| zcy X5 Hb d27_508 (flt ((by decide) : ¬ ((4 : Int32) < (4 : Int32)))).2.1 552 (by decide) rfl <| ziL X5 Hb d27_552 rfl <| ziy X5 Hb d27_554 ((if0 _ _).trans (feq ((by decide) : ¬ ((1 : Int32) = (0 : Int32)))).2) 564 (by decide) rfl <| zii X5 Hb (L' := (own_F4 b (5 : Int32) (4 : Int32) d (2 : Int32) (1 : Int32) (yt &&& (255 : Int32)) yc)) d27_564 rfl 5 rfl rfl <| zal X5 Hb d27_567 rfl rfl ?_
                refine ziL X5 Hb d27_568 rfl <| zii X5 Hb (L' := (own_F4 b (5 : Int32) (4 : Int32) d (3 : Int32) (1 : Int32) (yt &&& (255 : Int32)) yc)) d27_570 rfl 3 rfl rfl <| X5.ldcInt hx hown (mvT hZ (W 165 rfl)) (g := (mkF m 573 (own_F4 b (5 : Int32) (4 : Int32) d (3 : Int32) (1 : Int32) (yt &&& (255 : Int32)) yc) [.int 2, .ref d])) rfl (hb hby d27_573) _ <| st23 _ <| zil X23 Hb d27_578 rfl <| zil X23 Hb d27_579 rfl <| zcy X23 Hb d27_580 (flt ((by decide) : ¬ ((5 : Int32) < (4 : Int32)))).2.1 621 (by decide) rfl <| ziL X23 Hb d27_621 rfl ?_
                exact k
              exact own_oI X23 Hb Bd.notSynchronized Bd.returns w24 d27_623 rfl (by decide) (by decide) ⟨rfl, N23, K, (by rw [own_tlP hc15_8]; exact V_d_c23)⟩
          · obtain ⟨_, T25, Lc25, X25, hQ25, st25⟩ := own_cS X5 Hb hZ hown hml (L := (own_F4 b (4 : Int32) (4 : Int32) d (3 : Int32) (1 : Int32) yt yc)) rfl (rm19_2 hw d (65533 : Int32) kd (8 : Int32) ua ub (own_lo cw) (own_hi cw) (0 : Int32) (0 : Int32) [.int 0, .int 0] O SU V_d_c5 (by decide) (by decide) g_d) (W 160 rfl) (W 111 rfl) (W 21 rfl) (W 112 rfl) pd2 rfl d27_615 [.ref d, .int 2, .int 65533] [] rfl rfl (by decide) 0 rfl (by decide)
            obtain ⟨rfl, N25q, K25, V_d_c25⟩ := hQ25
            have N25 := Fr.app N5 N25q
            have V_b := V_b.keep K25 (ninS nbd nin0)
            have O := O.keep K25 (allS g_d all0)
            have K := K.trans K25 (allS (Or.inl (List.mem_of_getElem? (i := 0) rfl)) all0)
            have w26 : own_Go p e below f0 T25 m 623 (own_F4 b (4 : Int32) (4 : Int32) d (3 : Int32) (1 : Int32) yt yc) [.int 3] := fun t k => by
              refine w17 t ?_
              refine zcy X5 Hb d27_355 (feq hc355_18).2 595 (by decide) rfl <| ziL X5 Hb d27_595 rfl <| ziy X5 Hb d27_597 ((if0 _ _).trans (feq ((by decide) : ¬ ((1 : Int32) = (0 : Int32)))).2) 607 (by decide) rfl <| zal X5 Hb d27_607 rfl rfl <| ziL X5 Hb d27_608 rfl <| zii X5 Hb (L' := (own_F4 b (4 : Int32) (4 : Int32) d (3 : Int32) (1 : Int32) yt yc)) d27_610 rfl 3 rfl rfl <| X5.ldcInt hx hown (mvT hZ (W 165 rfl)) (g := (mkF m 613 (own_F4 b (4 : Int32) (4 : Int32) d (3 : Int32) (1 : Int32) yt yc) [.int 2, .ref d])) rfl (hb hby d27_613) _ <| st25 _ ?_
              refine zgo X25 Hb d27_618 0 (by decide) rfl <| zil X25 Hb d27_0 rfl <| zil X25 Hb d27_1 rfl <| zcy X25 Hb d27_2 (flt ((by decide) : ¬ ((4 : Int32) < (4 : Int32)))).2.1 621 (by decide) rfl <| ziL X25 Hb d27_621 rfl ?_
              exact k
            exact own_oI X25 Hb Bd.notSynchronized Bd.returns w26 d27_623 rfl (by decide) (by decide) ⟨rfl, N25, K, (by rw [own_tlP hc15_8]; exact V_d_c25)⟩
      · obtain ⟨_, T27, Lc27, X27, hQ27, st27⟩ := own_cS X5 Hb hZ hown hml (L := (own_F4 b (4 : Int32) (4 : Int32) d (3 : Int32) (1 : Int32) yt yc)) rfl (rm19_2 hw d (65533 : Int32) kd (8 : Int32) ua ub (own_lo cw) (own_hi cw) (0 : Int32) (0 : Int32) [.int 0, .int 0] O SU V_d_c5 (by decide) (by decide) g_d) (W 160 rfl) (W 111 rfl) (W 21 rfl) (W 112 rfl) pd2 rfl d27_137 [.ref d, .int 2, .int 65533] [] rfl rfl (by decide) 0 rfl (by decide)
        obtain ⟨rfl, N27q, K27, V_d_c27⟩ := hQ27
        have N27 := Fr.app N5 N27q
        have V_b := V_b.keep K27 (ninS nbd nin0)
        have O := O.keep K27 (allS g_d all0)
        have K := K.trans K27 (allS (Or.inl (List.mem_of_getElem? (i := 0) rfl)) all0)
        have w28 : own_Go p e below f0 T27 m 623 (own_F4 b (4 : Int32) (4 : Int32) d (3 : Int32) (1 : Int32) yt yc) [.int 3] := fun t k => by
          refine w11 t ?_
          refine zin X5 Hb d27_47 ((if0 _ _).trans (feq hc47_12).1) <| zil X5 Hb d27_50 rfl <| zil X5 Hb d27_51 rfl <| zcy X5 Hb d27_52 (flt ((by decide) : ¬ ((4 : Int32) < (4 : Int32)))).2.1 119 (by decide) rfl <| ziL X5 Hb d27_119 rfl <| ziy X5 Hb d27_121 ((if0 _ _).trans (feq ((by decide) : ¬ ((1 : Int32) = (0 : Int32)))).2) 129 (by decide) rfl <| zal X5 Hb d27_129 rfl rfl <| ziL X5 Hb d27_130 rfl ?_
          refine zii X5 Hb (L' := (own_F4 b (4 : Int32) (4 : Int32) d (3 : Int32) (1 : Int32) yt yc)) d27_132 rfl 3 rfl rfl <| X5.ldcInt hx hown (mvT hZ (W 165 rfl)) (g := (mkF m 135 (own_F4 b (4 : Int32) (4 : Int32) d (3 : Int32) (1 : Int32) yt yc) [.int 2, .ref d])) rfl (hb hby d27_135) _ <| st27 _ <| zgo X27 Hb d27_140 621 (by decide) rfl <| ziL X27 Hb d27_621 rfl ?_
          exact k
        exact own_oI X27 Hb Bd.notSynchronized Bd.returns w28 d27_623 rfl (by decide) (by decide) ⟨rfl, N27, K, (by rw [own_tlP hc15_8]; exact V_d_c27)⟩
    · have w29 : own_Go p e below f0 T5 m 149 (own_F4 b (4 : Int32) (4 : Int32) d (2 : Int32) (1 : Int32) yt yc) [.int (-2), (.int (yt >>> ((4 : Int32) &&& 31)))] := fun t k => by
        refine w9 t ?_
        refine zcy X5 Hb d27_39 (feq hc39_10).2 143 (by decide) rfl <| ziL X5 Hb d27_143 rfl <| zic X5 Hb d27_145 4 rfl <| zsr X5 Hb d27_146 <| zbp X5 Hb d27_147 (-2) rfl ?_
        exact k
      by_cases hc149_30 : (yt >>> ((4 : Int32) &&& 31)) = (-2 : Int32)
      · obtain ⟨_, T31, Lc31, X31, hQ31, st31⟩ := own_cS X5 Hb hZ hown hml (L := (own_F4 b (4 : Int32) (4 : Int32) d (3 : Int32) (1 : Int32) yt yc)) rfl (rm19_2 hw d (65533 : Int32) kd (8 : Int32) ua ub (own_lo cw) (own_hi cw) (0 : Int32) (0 : Int32) [.int 0, .int 0] O SU V_d_c5 (by decide) (by decide) g_d) (W 160 rfl) (W 111 rfl) (W 21 rfl) (W 112 rfl) pd2 rfl d27_343 [.ref d, .int 2, .int 65533] [] rfl rfl (by decide) 0 rfl (by decide)
        obtain ⟨rfl, N31q, K31, V_d_c31⟩ := hQ31
        have N31 := Fr.app N5 N31q
        have V_b := V_b.keep K31 (ninS nbd nin0)
        have O := O.keep K31 (allS g_d all0)
        have K := K.trans K31 (allS (Or.inl (List.mem_of_getElem? (i := 0) rfl)) all0)
        have w32 : own_Go p e below f0 T31 m 623 (own_F4 b (4 : Int32) (4 : Int32) d (3 : Int32) (1 : Int32) yt yc) [.int 3] := fun t k => by
          refine w29 t ?_
          refine zcn X5 Hb d27_149 (teq hc149_30).2 <| zil X5 Hb d27_152 rfl <| zic X5 Hb d27_153 1 rfl <| zia' X5 Hb d27_154 5 rfl <| zil X5 Hb d27_155 rfl <| zcy X5 Hb d27_156 (flt ((by decide) : ¬ ((5 : Int32) < (4 : Int32)))).2.1 283 (by decide) rfl <| zil X5 Hb d27_283 rfl <| zil X5 Hb d27_284 rfl ?_
          refine zcy X5 Hb d27_285 (flt ((by decide) : ¬ ((4 : Int32) < (4 : Int32)))).2.1 325 (by decide) rfl <| ziL X5 Hb d27_325 rfl <| ziy X5 Hb d27_327 ((if0 _ _).trans (feq ((by decide) : ¬ ((1 : Int32) = (0 : Int32)))).2) 335 (by decide) rfl <| zal X5 Hb d27_335 rfl rfl <| ziL X5 Hb d27_336 rfl <| zii X5 Hb (L' := (own_F4 b (4 : Int32) (4 : Int32) d (3 : Int32) (1 : Int32) yt yc)) d27_338 rfl 3 rfl rfl <| X5.ldcInt hx hown (mvT hZ (W 165 rfl)) (g := (mkF m 341 (own_F4 b (4 : Int32) (4 : Int32) d (3 : Int32) (1 : Int32) yt yc) [.int 2, .ref d])) rfl (hb hby d27_341) _ <| st31 _ ?_
          refine zgo X31 Hb d27_346 621 (by decide) rfl <| ziL X31 Hb d27_621 rfl ?_
          exact k
        exact own_oI X31 Hb Bd.notSynchronized Bd.returns w32 d27_623 rfl (by decide) (by decide) ⟨rfl, N31, K, (by rw [own_tlP hc15_8]; exact V_d_c31)⟩
      · have w33 : own_Go p e below f0 T5 m 355 (own_F4 b (4 : Int32) (4 : Int32) d (2 : Int32) (1 : Int32) yt yc) [.int (-2), (.int (yt >>> ((3 : Int32) &&& 31)))] := fun t k => by
          refine w29 t ?_
          refine zcy X5 Hb d27_149 (feq hc149_30).2 349 (by decide) rfl <| ziL X5 Hb d27_349 rfl <| zic X5 Hb d27_351 3 rfl <| zsr X5 Hb d27_352 <| zbp X5 Hb d27_353 (-2) rfl ?_
          exact k
        by_cases hc355_34 : (yt >>> ((3 : Int32) &&& 31)) = (-2 : Int32)
        · have w35 : own_Go p e below f0 T5 m 503 (own_F4 b (4 : Int32) (4 : Int32) d (2 : Int32) (1 : Int32) (yt &&& (255 : Int32)) yc) [.int 244, (.int (yt &&& (255 : Int32)))] := fun t k => by
            refine w33 t ?_
            refine zcn X5 Hb d27_355 (teq hc355_34).2 <| zil X5 Hb d27_358 rfl <| zic X5 Hb d27_359 2 rfl <| zia' X5 Hb d27_360 6 rfl <| zil X5 Hb d27_361 rfl <| zcy X5 Hb d27_362 (flt ((by decide) : ¬ ((6 : Int32) < (4 : Int32)))).2.1 490 (by decide) rfl <| ziL X5 Hb d27_490 rfl <| zsp X5 Hb d27_492 255 rfl ?_
            refine zan X5 Hb d27_495 <| ziS X5 Hb (L' := (own_F4 b (4 : Int32) (4 : Int32) d (2 : Int32) (1 : Int32) (yt &&& (255 : Int32)) yc)) d27_496 rfl <| ziL X5 Hb d27_498 rfl <| zsp X5 Hb d27_500 244 rfl ?_
            exact k
          by_cases hc503_36 : (244 : Int32) < (yt &&& (255 : Int32))
          · obtain ⟨_, T37, Lc37, X37, hQ37, st37⟩ := own_cS X5 Hb hZ hown hml (L := (own_F4 b (4 : Int32) (4 : Int32) d (3 : Int32) (1 : Int32) (yt &&& (255 : Int32)) yc)) rfl (rm19_2 hw d (65533 : Int32) kd (8 : Int32) ua ub (own_lo cw) (own_hi cw) (0 : Int32) (0 : Int32) [.int 0, .int 0] O SU V_d_c5 (by decide) (by decide) g_d) (W 160 rfl) (W 111 rfl) (W 21 rfl) (W 112 rfl) pd2 rfl d27_546 [.ref d, .int 2, .int 65533] [] rfl rfl (by decide) 0 rfl (by decide)
            obtain ⟨rfl, N37q, K37, V_d_c37⟩ := hQ37
            have N37 := Fr.app N5 N37q
            have V_b := V_b.keep K37 (ninS nbd nin0)
            have O := O.keep K37 (allS g_d all0)
            have K := K.trans K37 (allS (Or.inl (List.mem_of_getElem? (i := 0) rfl)) all0)
            have w38 : own_Go p e below f0 T37 m 623 (own_F4 b (4 : Int32) (4 : Int32) d (3 : Int32) (1 : Int32) (yt &&& (255 : Int32)) yc) [.int 3] := fun t k => by
              refine w35 t ?_
              refine zcy X5 Hb d27_503 (tlt hc503_36).2.2.1 526 (by decide) rfl <| ziL X5 Hb d27_526 rfl <| ziy X5 Hb d27_528 ((if0 _ _).trans (feq ((by decide) : ¬ ((1 : Int32) = (0 : Int32)))).2) 538 (by decide) rfl <| zal X5 Hb d27_538 rfl rfl <| ziL X5 Hb d27_539 rfl <| zii X5 Hb (L' := (own_F4 b (4 : Int32) (4 : Int32) d (3 : Int32) (1 : Int32) (yt &&& (255 : Int32)) yc)) d27_541 rfl 3 rfl rfl <| X5.ldcInt hx hown (mvT hZ (W 165 rfl)) (g := (mkF m 544 (own_F4 b (4 : Int32) (4 : Int32) d (3 : Int32) (1 : Int32) (yt &&& (255 : Int32)) yc) [.int 2, .ref d])) rfl (hb hby d27_544) _ <| st37 _ ?_
              refine zgo X37 Hb d27_549 0 (by decide) rfl <| zil X37 Hb d27_0 rfl <| zil X37 Hb d27_1 rfl <| zcy X37 Hb d27_2 (flt ((by decide) : ¬ ((4 : Int32) < (4 : Int32)))).2.1 621 (by decide) rfl <| ziL X37 Hb d27_621 rfl ?_
              exact k
            exact own_oI X37 Hb Bd.notSynchronized Bd.returns w38 d27_623 rfl (by decide) (by decide) ⟨rfl, N37, K, (by rw [own_tlP hc15_8]; exact V_d_c37)⟩
          · obtain ⟨_, T39, Lc39, X39, hQ39, st39⟩ := own_cS X5 Hb hZ hown hml (L := (own_F4 b (5 : Int32) (4 : Int32) d (3 : Int32) (1 : Int32) (yt &&& (255 : Int32)) yc)) rfl (rm19_2 hw d (65533 : Int32) kd (8 : Int32) ua ub (own_lo cw) (own_hi cw) (0 : Int32) (0 : Int32) [.int 0, .int 0] O SU V_d_c5 (by decide) (by decide) g_d) (W 160 rfl) (W 111 rfl) (W 21 rfl) (W 112 rfl) pd2 rfl d27_575 [.ref d, .int 2, .int 65533] [] rfl rfl (by decide) 0 rfl (by decide)
            obtain ⟨rfl, N39q, K39, V_d_c39⟩ := hQ39
            have N39 := Fr.app N5 N39q
            have V_b := V_b.keep K39 (ninS nbd nin0)
            have O := O.keep K39 (allS g_d all0)
            have K := K.trans K39 (allS (Or.inl (List.mem_of_getElem? (i := 0) rfl)) all0)
            have w40 : own_Go p e below f0 T39 m 623 (own_F4 b (5 : Int32) (4 : Int32) d (3 : Int32) (1 : Int32) (yt &&& (255 : Int32)) yc) [.int 3] := fun t k => by
              refine w35 t ?_
              refine zcn X5 Hb d27_503 (flt hc503_36).2.2.1 <| zil X5 Hb d27_506 rfl <| zil X5 Hb d27_507 rfl <| zcy X5 Hb d27_508 (flt ((by decide) : ¬ ((4 : Int32) < (4 : Int32)))).2.1 552 (by decide) rfl <| ziL X5 Hb d27_552 rfl <| ziy X5 Hb d27_554 ((if0 _ _).trans (feq ((by decide) : ¬ ((1 : Int32) = (0 : Int32)))).2) 564 (by decide) rfl <| zii X5 Hb (L' := (own_F4 b (5 : Int32) (4 : Int32) d (2 : Int32) (1 : Int32) (yt &&& (255 : Int32)) yc)) d27_564 rfl 5 rfl rfl <| zal X5 Hb d27_567 rfl rfl ?_
              refine ziL X5 Hb d27_568 rfl <| zii X5 Hb (L' := (own_F4 b (5 : Int32) (4 : Int32) d (3 : Int32) (1 : Int32) (yt &&& (255 : Int32)) yc)) d27_570 rfl 3 rfl rfl <| X5.ldcInt hx hown (mvT hZ (W 165 rfl)) (g := (mkF m 573 (own_F4 b (5 : Int32) (4 : Int32) d (3 : Int32) (1 : Int32) (yt &&& (255 : Int32)) yc) [.int 2, .ref d])) rfl (hb hby d27_573) _ <| st39 _ <| zil X39 Hb d27_578 rfl <| zil X39 Hb d27_579 rfl <| zcy X39 Hb d27_580 (flt ((by decide) : ¬ ((5 : Int32) < (4 : Int32)))).2.1 621 (by decide) rfl <| ziL X39 Hb d27_621 rfl ?_
              exact k
            exact own_oI X39 Hb Bd.notSynchronized Bd.returns w40 d27_623 rfl (by decide) (by decide) ⟨rfl, N39, K, (by rw [own_tlP hc15_8]; exact V_d_c39)⟩
        · obtain ⟨_, T41, Lc41, X41, hQ41, st41⟩ := own_cS X5 Hb hZ hown hml (L := (own_F4 b (4 : Int32) (4 : Int32) d (3 : Int32) (1 : Int32) yt yc)) rfl (rm19_2 hw d (65533 : Int32) kd (8 : Int32) ua ub (own_lo cw) (own_hi cw) (0 : Int32) (0 : Int32) [.int 0, .int 0] O SU V_d_c5 (by decide) (by decide) g_d) (W 160 rfl) (W 111 rfl) (W 21 rfl) (W 112 rfl) pd2 rfl d27_615 [.ref d, .int 2, .int 65533] [] rfl rfl (by decide) 0 rfl (by decide)
          obtain ⟨rfl, N41q, K41, V_d_c41⟩ := hQ41
          have N41 := Fr.app N5 N41q
          have V_b := V_b.keep K41 (ninS nbd nin0)
          have O := O.keep K41 (allS g_d all0)
          have K := K.trans K41 (allS (Or.inl (List.mem_of_getElem? (i := 0) rfl)) all0)
          have w42 : own_Go p e below f0 T41 m 623 (own_F4 b (4 : Int32) (4 : Int32) d (3 : Int32) (1 : Int32) yt yc) [.int 3] := fun t k => by
            refine w33 t ?_
            refine zcy X5 Hb d27_355 (feq hc355_34).2 595 (by decide) rfl <| ziL X5 Hb d27_595 rfl <| ziy X5 Hb d27_597 ((if0 _ _).trans (feq ((by decide) : ¬ ((1 : Int32) = (0 : Int32)))).2) 607 (by decide) rfl <| zal X5 Hb d27_607 rfl rfl <| ziL X5 Hb d27_608 rfl <| zii X5 Hb (L' := (own_F4 b (4 : Int32) (4 : Int32) d (3 : Int32) (1 : Int32) yt yc)) d27_610 rfl 3 rfl rfl <| X5.ldcInt hx hown (mvT hZ (W 165 rfl)) (g := (mkF m 613 (own_F4 b (4 : Int32) (4 : Int32) d (3 : Int32) (1 : Int32) yt yc) [.int 2, .ref d])) rfl (hb hby d27_613) _ <| st41 _ ?_
            refine zgo X41 Hb d27_618 0 (by decide) rfl <| zil X41 Hb d27_0 rfl <| zil X41 Hb d27_1 rfl <| zcy X41 Hb d27_2 (flt ((by decide) : ¬ ((4 : Int32) < (4 : Int32)))).2.1 621 (by decide) rfl <| ziL X41 Hb d27_621 rfl ?_
            exact k
          exact own_oI X41 Hb Bd.notSynchronized Bd.returns w42 d27_623 rfl (by decide) (by decide) ⟨rfl, N41, K, (by rw [own_tlP hc15_8]; exact V_d_c41)⟩
  · obtain ⟨_, T43, Lc43, X43, hQ43, st43⟩ := own_cS X5 Hb hZ hown hml (L := (own_F4 b (4 : Int32) (4 : Int32) d (3 : Int32) (1 : Int32) yt yc)) rfl (rm19_2 hw d (yt.toUInt32.toUInt16.toUInt32.toInt32) kd (8 : Int32) ua ub (own_lo cw) (own_hi cw) (0 : Int32) (0 : Int32) [.int 0, .int 0] O SU V_d_c5 (by decide) (by decide) g_d) (W 160 rfl) (W 111 rfl) (W 21 rfl) (W 112 rfl) pd2 rfl d27_27 [.ref d, .int 2, .int (yt.toUInt32.toUInt16.toUInt32.toInt32)] [] rfl rfl (by decide) 0 rfl (by decide)
    obtain ⟨rfl, N43q, K43, V_d_c43⟩ := hQ43
    have N43 := Fr.app N5 N43q
    have V_b := V_b.keep K43 (ninS nbd nin0)
    have O := O.keep K43 (allS g_d all0)
    have K := K.trans K43 (allS (Or.inl (List.mem_of_getElem? (i := 0) rfl)) all0)
    have w44 : own_Go p e below f0 T43 m 623 (own_F4 b (4 : Int32) (4 : Int32) d (3 : Int32) (1 : Int32) yt yc) [.int 3] := fun t k => by
      refine w7 t ?_
      refine zin X5 Hb d27_15 ((if0 _ _).trans (flt hc15_8).1) <| zal X5 Hb d27_18 rfl rfl <| ziL X5 Hb d27_19 rfl <| zii X5 Hb (L' := (own_F4 b (4 : Int32) (4 : Int32) d (3 : Int32) (1 : Int32) yt yc)) d27_21 rfl 3 rfl rfl <| ziL X5 Hb d27_24 rfl <| zik X5 Hb d27_26 <| st43 _ <| zgo X43 Hb d27_30 618 (by decide) rfl ?_
      refine zgo X43 Hb d27_618 0 (by decide) rfl <| zil X43 Hb d27_0 rfl <| zil X43 Hb d27_1 rfl <| zcy X43 Hb d27_2 (flt ((by decide) : ¬ ((4 : Int32) < (4 : Int32)))).2.1 621 (by decide) rfl <| ziL X43 Hb d27_621 rfl ?_
      exact k
    exact own_oI X43 Hb Bd.notSynchronized Bd.returns w44 d27_623 rfl (by decide) (by decide) ⟨rfl, N43, K, (by rw [own_tlN hc15_8]; exact V_d_c43)⟩
theorem d27_159 : decode B27 159 = .ok (.aload_n 0, 1) := by decide +kernel
theorem d27_160 : decode B27 160 = .ok (.iload_n 1, 1) := by decide +kernel
theorem d27_161 : decode B27 161 = .ok (.iinc 1 1, 3) := by decide +kernel
theorem d27_164 : decode B27 164 = .ok (.baload, 1) := by decide +kernel
theorem d27_165 : decode B27 165 = .ok (.istore 7, 2) := by decide +kernel
theorem d27_167 : decode B27 167 = .ok (.aload_n 0, 1) := by decide +kernel
theorem d27_168 : decode B27 168 = .ok (.iload_n 1, 1) := by decide +kernel
theorem d27_169 : decode B27 169 = .ok (.iinc 1 1, 3) := by decide +kernel
theorem d27_172 : decode B27 172 = .ok (.baload, 1) := by decide +kernel
theorem d27_173 : decode B27 173 = .ok (.istore 8, 2) := by decide +kernel
def own_F5 (x0 : Addr) (x1 : Int32) (x2 : Int32) (x3 : Addr) (x4 : Int32) (x5 : Int32) (x6 : Int32) (x7 : Int32) (x8 : Int32) : Array Slot := #[.val (.ref x0), .val (.int x1), .val (.int x2), .val (.ref x3), .val (.int x4), .val (.int x5), .val (.int x6), .val (.int x7), .val (.int x8), .unset, .unset]
theorem d27_175 : decode B27 175 = .ok (.iload 6, 2) := by decide +kernel
theorem d27_177 : decode B27 177 = .ok (.iload 7, 2) := by decide +kernel
theorem d27_179 : decode B27 179 = .ok (.iload 8, 2) := by decide +kernel
theorem d27_181 : decode B27 181 = .ok (.invokestatic 392, 3) := by decide +kernel
theorem pd16 : parseMethodDescriptor "(III)Z" = some ⟨[.int, .int, .int], some .boolean⟩ := by decide +kernel
theorem d27_184 : decode B27 184 = .ok (.ifCond .eq 40, 3) := by decide +kernel
theorem d27_224 : decode B27 224 = .ok (.iload 6, 2) := by decide +kernel
theorem d27_226 : decode B27 226 = .ok (.iload 7, 2) := by decide +kernel
theorem d27_228 : decode B27 228 = .ok (.iload 8, 2) := by decide +kernel
theorem d27_230 : decode B27 230 = .ok (.invokestatic 400, 3) := by decide +kernel
theorem pd17 : parseMethodDescriptor "(III)C" = some ⟨[.int, .int, .int], some .char⟩ := by decide +kernel
theorem d27_233 : decode B27 233 = .ok (.istore 9, 2) := by decide +kernel
def own_F6 (x0 : Addr) (x1 : Int32) (x2 : Int32) (x3 : Addr) (x4 : Int32) (x5 : Int32) (x6 : Int32) (x7 : Int32) (x8 : Int32) (x9 : Int32) : Array Slot := #[.val (.ref x0), .val (.int x1), .val (.int x2), .val (.ref x3), .val (.int x4), .val (.int x5), .val (.int x6), .val (.int x7), .val (.int x8), .val (.int x9), .unset]
theorem d27_235 : decode B27 235 = .ok (.iload 9, 2) := by decide +kernel
theorem d27_237 : decode B27 237 = .ok (.invokestatic 404, 3) := by decide +kernel
theorem pd18 : parseMethodDescriptor "(C)Z" = some ⟨[.char], some .boolean⟩ := by decide +kernel
theorem d27_240 : decode B27 240 = .ok (.ifCond .eq 29, 3) := by decide +kernel
theorem d27_269 : decode B27 269 = .ok (.aload_n 3, 1) := by decide +kernel
theorem d27_270 : decode B27 270 = .ok (.iload 4, 2) := by decide +kernel
theorem d27_272 : decode B27 272 = .ok (.iinc 4 1, 3) := by decide +kernel
theorem d27_275 : decode B27 275 = .ok (.iload 9, 2) := by decide +kernel
theorem d27_277 : decode B27 277 = .ok (.invokestatic 64, 3) := by decide +kernel
theorem d27_280 : decode B27 280 = .ok (.goto (-280), 3) := by decide +kernel
theorem rm27_E {l : Launch} {Z : State} {a0 : Array Value} (hw : own_W a0 Z) (b d : Addr) (kb : ClassId) (ya yb yc yd yt cw : Int32) (kd : ClassId) (ua ub : Int32) {zc : Int32} {fm : Value} {u8 : Addr} {h0 : Heap} {n0 : Nat} (O0 : Old Z n0 h0) (SU : own_SU Z zc fm u8) (V_b : Arv Z h0 b kb .byte (5 : Int32) [.int ya, .int yb, .int yc, .int yd, .int yt] (.int 0)) (V_d : Arv Z h0 d kd .byte (10 : Int32) [.int ua, .int ub, .int 0, .int 0, .int 0, .int 0, .int 0, .int 0, .int 0, .int 0] (.int 0)) (nbd : b ≠ d) (hp : own_P3 cw yb yc yd) (hs : ¬ cw < (55296 : Int32) → ¬ cw < (57344 : Int32)) (g_d : n0 ≤ d) : own_M l own_n27 jdk_42_method_38_code 11 (some .int) (own_rm 1 0 0 14) Z h0 #[.ref b, .int 1, .int 5, .ref d, .int 1, .int 1] (fun v h L => v = some (.int 3) ∧ Fr n0 L ∧ Keep h0 h [d] ∧ Arv Z h d kd .byte (10 : Int32) [.int ua, .int ub, .int (own_lo cw), .int (own_hi cw), (.int (own_lo (own_tl yt))), (.int (own_hi (own_tl yt))), .int 0, .int 0, .int 0, .int 0] (.int 0)) := by
  refine own_body (L0 := #[.val (.ref b), .val (.int 1), .val (.int 5), .val (.ref d), .val (.int 1), .val (.int 1), .unset, .unset, .unset, .unset, .unset]) (plainFor_of_name pn_java_lang_String) rfl rfl ?_
  intro p e s m below meth c s₁ f0 Bd hx Hb hml hZ hown X0 e0 pre0
  have hby := Hb.2
  have W := own_q hw
  have N0 := Fr.nil n0
  have O := O0
  have K := Keep.refl h0 [d]
  have B1 : own_El Z h0 b .byte (1 : Int32) (.int yb) := own_el V_b ⟨by decide, by decide⟩ rfl
  have B2 : own_El Z h0 b .byte (2 : Int32) (.int yc) := own_el V_b ⟨by decide, by decide⟩ rfl
  have B3 : own_El Z h0 b .byte (3 : Int32) (.int yd) := own_el V_b ⟨by decide, by decide⟩ rfl
  obtain ⟨_, T4, Lc4, X4, hQ4, st4⟩ := own_cS X0 Hb hZ hown hml (L := (own_F5 b (4 : Int32) (5 : Int32) d (1 : Int32) (1 : Int32) yb yc yd)) rfl (rm37 hw yb yc yd O hp.2.2.2.2.1 hp.2.2.2.2.2.1 hp.2.2.2.2.2.2.1) (W 183 rfl) (W 184 rfl) (W 7 rfl) (W 185 rfl) pd16 e0 d27_181 [.int yb, .int yc, .int yd] [] rfl rfl (by decide) 0 rfl (by decide)
  obtain ⟨rfl, N4q, eh4⟩ := hQ4
  have N4 := Fr.app N0 N4q
  obtain ⟨_, T5, Lc5, X5, hQ5, st5⟩ := own_cS X4 Hb hZ hown hml (L := (own_F5 b (4 : Int32) (5 : Int32) d (1 : Int32) (1 : Int32) yb yc yd)) rfl (rm38 hw yb yc yd cw O hp.2.2.2.2.2.2.2) (W 186 rfl) (W 187 rfl) (W 7 rfl) (W 188 rfl) pd17 eh4 d27_230 [.int yb, .int yc, .int yd] [] rfl rfl (by decide) 0 rfl (by decide)
  obtain ⟨rfl, N5q, eh5⟩ := hQ5
  have N5 := Fr.app N4 N5q
  obtain ⟨_, T6, Lc6, X6, hQ6, st6⟩ := own_cS X5 Hb hZ hown hml (L := (own_F6 b (4 : Int32) (5 : Int32) d (1 : Int32) (1 : Int32) yb yc yd cw)) rfl (rm39 hw cw O hs) (W 190 rfl) (W 191 rfl) (W 152 rfl) (W 192 rfl) pd18 eh5 d27_237 [.int cw] [] rfl rfl (by decide) 0 rfl (by decide)
  obtain ⟨rfl, N6q, eh6⟩ := hQ6
  have N6 := Fr.app N5 N6q
  obtain ⟨_, T7, Lc7, X7, hQ7, st7⟩ := own_cS X6 Hb hZ hown hml (L := (own_F6 b (4 : Int32) (5 : Int32) d (2 : Int32) (1 : Int32) yb yc yd cw)) rfl (rm19_1 hw d cw kd (10 : Int32) ua ub (0 : Int32) (0 : Int32) [.int 0, .int 0, .int 0, .int 0, .int 0, .int 0] O SU V_d (by decide) (by decide) g_d) (W 160 rfl) (W 111 rfl) (W 21 rfl) (W 112 rfl) pd2 eh6 d27_277 [.ref d, .int 1, .int cw] [] rfl rfl (by decide) 0 rfl (by decide)
  obtain ⟨rfl, N7q, K7, V_d_c7⟩ := hQ7
  have N7 := Fr.app N6 N7q
  have V_b := V_b.keep K7 (ninS nbd nin0)
  have O := O.keep K7 (allS g_d all0)
  have K := K.trans K7 (allS (Or.inl (List.mem_of_getElem? (i := 0) rfl)) all0)
  have B8 : own_El Z (T7.heap) b .byte (4 : Int32) (.int yt) := own_el V_b ⟨by decide, by decide⟩ rfl
  have w9 : own_Go p e below f0 T7 m 15 (own_F6 b (5 : Int32) (5 : Int32) d (2 : Int32) (1 : Int32) yt yc yd cw) [.int yt] := fun t k => by
    refine pre0 t ?_
    refine zil X0 Hb d27_0 rfl <| zil X0 Hb d27_1 rfl <| zcn X0 Hb d27_2 (tlt ((by decide) : (1 : Int32) < (5 : Int32))).2.1 <| zal X0 Hb d27_5 rfl rfl <| zil X0 Hb d27_6 rfl <| zii X0 Hb (L' := (own_F2 b (2 : Int32) (5 : Int32) d (1 : Int32) (1 : Int32))) d27_7 rfl 2 rfl rfl <| zba X0 Hb hZ e0 B1 d27_10 <| ziS X0 Hb (L' := (own_F3 b (2 : Int32) (5 : Int32) d (1 : Int32) (1 : Int32) yb)) d27_11 rfl ?_
    refine ziL X0 Hb d27_13 rfl <| ziy X0 Hb d27_15 ((if0 _ _).trans (tlt (hp.1 : yb < (0 : Int32))).1) 33 (by decide) rfl <| ziL X0 Hb d27_33 rfl <| zic X0 Hb d27_35 5 rfl <| zsr X0 Hb d27_36 <| zbp X0 Hb d27_37 (-2) rfl <| zcy X0 Hb d27_39 (feq (hp.2.1 : ¬ ((yb >>> ((5 : Int32) &&& 31)) = (-2 : Int32)))).2 143 (by decide) rfl <| ziL X0 Hb d27_143 rfl ?_
    refine zic X0 Hb d27_145 4 rfl <| zsr X0 Hb d27_146 <| zbp X0 Hb d27_147 (-2) rfl <| zcn X0 Hb d27_149 (teq (hp.2.2.1 : (yb >>> ((4 : Int32) &&& 31)) = (-2 : Int32))).2 <| zil X0 Hb d27_152 rfl <| zic X0 Hb d27_153 1 rfl <| zia' X0 Hb d27_154 3 rfl <| zil X0 Hb d27_155 rfl ?_
    refine zcn X0 Hb d27_156 (tlt ((by decide) : (3 : Int32) < (5 : Int32))).2.1 <| zal X0 Hb d27_159 rfl rfl <| zil X0 Hb d27_160 rfl <| zii X0 Hb (L' := (own_F3 b (3 : Int32) (5 : Int32) d (1 : Int32) (1 : Int32) yb)) d27_161 rfl 3 rfl rfl <| zba X0 Hb hZ e0 B2 d27_164 <| ziS X0 Hb (L' := (own_F4 b (3 : Int32) (5 : Int32) d (1 : Int32) (1 : Int32) yb yc)) d27_165 rfl <| zal X0 Hb d27_167 rfl rfl <| zil X0 Hb d27_168 rfl ?_
    refine zii X0 Hb (L' := (own_F4 b (4 : Int32) (5 : Int32) d (1 : Int32) (1 : Int32) yb yc)) d27_169 rfl 4 rfl rfl <| zba X0 Hb hZ e0 B3 d27_172 <| ziS X0 Hb (L' := (own_F5 b (4 : Int32) (5 : Int32) d (1 : Int32) (1 : Int32) yb yc yd)) d27_173 rfl <| ziL X0 Hb d27_175 rfl <| ziL X0 Hb d27_177 rfl <| ziL X0 Hb d27_179 rfl <| st4 _ <| ziy X4 Hb d27_184 ((if0 _ _).trans (teq (rfl : (0 : Int32) = (0 : Int32))).1) 224 (by decide) rfl ?_
    refine ziL X4 Hb d27_224 rfl <| ziL X4 Hb d27_226 rfl <| ziL X4 Hb d27_228 rfl <| st5 _ <| ziS X5 Hb (L' := (own_F6 b (4 : Int32) (5 : Int32) d (1 : Int32) (1 : Int32) yb yc yd cw)) d27_233 rfl <| ziL X5 Hb d27_235 rfl <| st6 _ <| ziy X6 Hb d27_240 ((if0 _ _).trans (teq (rfl : (0 : Int32) = (0 : Int32))).1) 269 (by decide) rfl ?_
    refine zal X6 Hb d27_269 rfl rfl <| ziL X6 Hb d27_270 rfl <| zii X6 Hb (L' := (own_F6 b (4 : Int32) (5 : Int32) d (2 : Int32) (1 : Int32) yb yc yd cw)) d27_272 rfl 2 rfl rfl <| ziL X6 Hb d27_275 rfl <| st7 _ <| zgo X7 Hb d27_280 0 (by decide) rfl <| zil X7 Hb d27_0 rfl <| zil X7 Hb d27_1 rfl ?_
    refine zcn X7 Hb d27_2 (tlt ((by decide) : (4 : Int32) < (5 : Int32))).2.1 <| zal X7 Hb d27_5 rfl rfl <| zil X7 Hb d27_6 rfl <| zii X7 Hb (L' := (own_F6 b (5 : Int32) (5 : Int32) d (2 : Int32) (1 : Int32) yb yc yd cw)) d27_7 rfl 5 rfl rfl <| zba X7 Hb hZ rfl B8 d27_10 <| ziS X7 Hb (L' := (own_F6 b (5 : Int32) (5 : Int32) d (2 : Int32) (1 : Int32) yt yc yd cw)) d27_11 rfl <| ziL X7 Hb d27_13 rfl ?_
    exact k
  by_cases hc15_10 : yt < (0 : Int32)
  · have w11 : own_Go p e below f0 T7 m 39 (own_F6 b (5 : Int32) (5 : Int32) d (2 : Int32) (1 : Int32) yt yc yd cw) [.int (-2), (.int (yt >>> ((5 : Int32) &&& 31)))] := fun t k => by
      refine w9 t ?_
      refine ziy X7 Hb d27_15 ((if0 _ _).trans (tlt hc15_10).1) 33 (by decide) rfl <| ziL X7 Hb d27_33 rfl <| zic X7 Hb d27_35 5 rfl <| zsr X7 Hb d27_36 <| zbp X7 Hb d27_37 (-2) rfl ?_
      exact k
    by_cases hc39_12 : (yt >>> ((5 : Int32) &&& 31)) = (-2 : Int32)
    · have w13 : own_Go p e below f0 T7 m 47 (own_F6 b (5 : Int32) (5 : Int32) d (2 : Int32) (1 : Int32) yt yc yd cw) [(.int (yt &&& (30 : Int32)))] := fun t k => by
        refine w11 t ?_
        refine zcn X7 Hb d27_39 (teq hc39_12).2 <| ziL X7 Hb d27_42 rfl <| zbp X7 Hb d27_44 30 rfl <| zan X7 Hb d27_46 ?_
        exact k
      by_cases hc47_14 : (yt &&& (30 : Int32)) = (0 : Int32)
      · have w15 : own_Go p e below f0 T7 m 149 (own_F6 b (5 : Int32) (5 : Int32) d (2 : Int32) (1 : Int32) yt yc yd cw) [.int (-2), (.int (yt >>> ((4 : Int32) &&& 31)))] := fun t k => by
          refine w13 t ?_
          refine ziy X7 Hb d27_47 ((if0 _ _).trans (teq hc47_14).1) 143 (by decide) rfl <| ziL X7 Hb d27_143 rfl <| zic X7 Hb d27_145 4 rfl <| zsr X7 Hb d27_146 <| zbp X7 Hb d27_147 (-2) rfl ?_
          exact k
        by_cases hc149_16 : (yt >>> ((4 : Int32) &&& 31)) = (-2 : Int32)
        · obtain ⟨_, T17, Lc17, X17, hQ17, st17⟩ := own_cS X7 Hb hZ hown hml (L := (own_F6 b (5 : Int32) (5 : Int32) d (3 : Int32) (1 : Int32) yt yc yd cw)) rfl (rm19_2 hw d (65533 : Int32) kd (10 : Int32) ua ub (own_lo cw) (own_hi cw) (0 : Int32) (0 : Int32) [.int 0, .int 0, .int 0, .int 0] O SU V_d_c7 (by decide) (by decide) g_d) (W 160 rfl) (W 111 rfl) (W 21 rfl) (W 112 rfl) pd2 rfl d27_343 [.ref d, .int 2, .int 65533] [] rfl rfl (by decide) 0 rfl (by decide)
          obtain ⟨rfl, N17q, K17, V_d_c17⟩ := hQ17
          have N17 := Fr.app N7 N17q
          have V_b := V_b.keep K17 (ninS nbd nin0)
          have O := O.keep K17 (allS g_d all0)
          have K := K.trans K17 (allS (Or.inl (List.mem_of_getElem? (i := 0) rfl)) all0)
          have w18 : own_Go p e below f0 T17 m 623 (own_F6 b (5 : Int32) (5 : Int32) d (3 : Int32) (1 : Int32) yt yc yd cw) [.int 3] := fun t k => by
            refine w15 t ?_
            refine zcn X7 Hb d27_149 (teq hc149_16).2 <| zil X7 Hb d27_152 rfl <| zic X7 Hb d27_153 1 rfl <| zia' X7 Hb d27_154 6 rfl <| zil X7 Hb d27_155 rfl <| zcy X7 Hb d27_156 (flt ((by decide) : ¬ ((6 : Int32) < (5 : Int32)))).2.1 283 (by decide) rfl <| zil X7 Hb d27_283 rfl <| zil X7 Hb d27_284 rfl ?_
            refine zcy X7 Hb d27_285 (flt ((by decide) : ¬ ((5 : Int32) < (5 : Int32)))).2.1 325 (by decide) rfl <| ziL X7 Hb d27_325 rfl <| ziy X7 Hb d27_327 ((if0 _ _).trans (feq ((by decide) : ¬ ((1 : Int32) = (0 : Int32)))).2) 335 (by decide) rfl <| zal X7 Hb d27_335 rfl rfl <| ziL X7 Hb d27_336 rfl <| zii X7 Hb (L' := (own_F6 b (5 : Int32) (5 : Int32) d (3 : Int32) (1 : Int32) yt yc yd cw)) d27_338 rfl 3 rfl rfl <| X7.ldcInt hx hown (mvT hZ (W 165 rfl)) (g := (mkF m 341 (own_F6 b (5 : Int32) (5 : Int32) d (3 : Int32) (1 : Int32) yt yc yd cw) [.int 2, .ref d])) rfl (hb hby d27_341) _ <| st17 _ ?_
            refine zgo X17 Hb d27_346 621 (by decide) rfl <| ziL X17 Hb d27_621 rfl ?_
            exact k
          exact own_oI X17 Hb Bd.notSynchronized Bd.returns w18 d27_623 rfl (by decide) (by decide) ⟨rfl, N17, K, (by rw [own_tlP hc15_10]; exact V_d_c17)⟩
        · have w19 : own_Go p e below f0 T7 m 355 (own_F6 b (5 : Int32) (5 : Int32) d (2 : Int32) (1 : Int32) yt yc yd cw) [.int (-2), (.int (yt >>> ((3 : Int32) &&& 31)))] := fun t k => by
            refine w15 t ?_
            refine zcy X7 Hb d27_149 (feq hc149_16).2 349 (by decide) rfl <| ziL X7 Hb d27_349 rfl <| zic X7 Hb d27_351 3 rfl <| zsr X7 Hb d27_352 <| zbp X7 Hb d27_353 (-2) rfl ?_
            exact k
          by_cases hc355_20 : (yt >>> ((3 : Int32) &&& 31)) = (-2 : Int32)
          · have w21 : own_Go p e below f0 T7 m 503 (own_F6 b (5 : Int32) (5 : Int32) d (2 : Int32) (1 : Int32) (yt &&& (255 : Int32)) yc yd cw) [.int 244, (.int (yt &&& (255 : Int32)))] := fun t k => by
              refine w19 t ?_
              refine zcn X7 Hb d27_355 (teq hc355_20).2 <| zil X7 Hb d27_358 rfl <| zic X7 Hb d27_359 2 rfl <| zia' X7 Hb d27_360 7 rfl <| zil X7 Hb d27_361 rfl <| zcy X7 Hb d27_362 (flt ((by decide) : ¬ ((7 : Int32) < (5 : Int32)))).2.1 490 (by decide) rfl <| ziL X7 Hb d27_490 rfl <| zsp X7 Hb d27_492 255 rfl ?_
              refine zan X7 Hb d27_495 <| ziS X7 Hb (L' := (own_F6 b (5 : Int32) (5 : Int32) d (2 : Int32) (1 : Int32) (yt &&& (255 : Int32)) yc yd cw)) d27_496 rfl <| ziL X7 Hb d27_498 rfl <| zsp X7 Hb d27_500 244 rfl ?_
              exact k
            by_cases hc503_22 : (244 : Int32) < (yt &&& (255 : Int32))
            · obtain ⟨_, T23, Lc23, X23, hQ23, st23⟩ := own_cS X7 Hb hZ hown hml (L := (own_F6 b (5 : Int32) (5 : Int32) d (3 : Int32) (1 : Int32) (yt &&& (255 : Int32)) yc yd cw)) rfl (rm19_2 hw d (65533 : Int32) kd (10 : Int32) ua ub (own_lo cw) (own_hi cw) (0 : Int32) (0 : Int32) [.int 0, .int 0, .int 0, .int 0] O SU V_d_c7 (by decide) (by decide) g_d) (W 160 rfl) (W 111 rfl) (W 21 rfl) (W 112 rfl) pd2 rfl d27_546 [.ref d, .int 2, .int 65533] [] rfl rfl (by decide) 0 rfl (by decide)
              obtain ⟨rfl, N23q, K23, V_d_c23⟩ := hQ23
              have N23 := Fr.app N7 N23q
              have V_b := V_b.keep K23 (ninS nbd nin0)
              have O := O.keep K23 (allS g_d all0)
              have K := K.trans K23 (allS (Or.inl (List.mem_of_getElem? (i := 0) rfl)) all0)
              have w24 : own_Go p e below f0 T23 m 623 (own_F6 b (5 : Int32) (5 : Int32) d (3 : Int32) (1 : Int32) (yt &&& (255 : Int32)) yc yd cw) [.int 3] := fun t k => by
                refine w21 t ?_
                refine zcy X7 Hb d27_503 (tlt hc503_22).2.2.1 526 (by decide) rfl <| ziL X7 Hb d27_526 rfl <| ziy X7 Hb d27_528 ((if0 _ _).trans (feq ((by decide) : ¬ ((1 : Int32) = (0 : Int32)))).2) 538 (by decide) rfl <| zal X7 Hb d27_538 rfl rfl <| ziL X7 Hb d27_539 rfl <| zii X7 Hb (L' := (own_F6 b (5 : Int32) (5 : Int32) d (3 : Int32) (1 : Int32) (yt &&& (255 : Int32)) yc yd cw)) d27_541 rfl 3 rfl rfl <| X7.ldcInt hx hown (mvT hZ (W 165 rfl)) (g := (mkF m 544 (own_F6 b (5 : Int32) (5 : Int32) d (3 : Int32) (1 : Int32) (yt &&& (255 : Int32)) yc yd cw) [.int 2, .ref d])) rfl (hb hby d27_544) _ <| st23 _ ?_
                refine zgo X23 Hb d27_549 0 (by decide) rfl <| zil X23 Hb d27_0 rfl <| zil X23 Hb d27_1 rfl <| zcy X23 Hb d27_2 (flt ((by decide) : ¬ ((5 : Int32) < (5 : Int32)))).2.1 621 (by decide) rfl <| ziL X23 Hb d27_621 rfl ?_
                exact k
              exact own_oI X23 Hb Bd.notSynchronized Bd.returns w24 d27_623 rfl (by decide) (by decide) ⟨rfl, N23, K, (by rw [own_tlP hc15_10]; exact V_d_c23)⟩
            · obtain ⟨_, T25, Lc25, X25, hQ25, st25⟩ := own_cS X7 Hb hZ hown hml (L := (own_F6 b (6 : Int32) (5 : Int32) d (3 : Int32) (1 : Int32) (yt &&& (255 : Int32)) yc yd cw)) rfl (rm19_2 hw d (65533 : Int32) kd (10 : Int32) ua ub (own_lo cw) (own_hi cw) (0 : Int32) (0 : Int32) [.int 0, .int 0, .int 0, .int 0] O SU V_d_c7 (by decide) (by decide) g_d) (W 160 rfl) (W 111 rfl) (W 21 rfl) (W 112 rfl) pd2 rfl d27_575 [.ref d, .int 2, .int 65533] [] rfl rfl (by decide) 0 rfl (by decide)
              obtain ⟨rfl, N25q, K25, V_d_c25⟩ := hQ25
              have N25 := Fr.app N7 N25q
              have V_b := V_b.keep K25 (ninS nbd nin0)
              have O := O.keep K25 (allS g_d all0)
              have K := K.trans K25 (allS (Or.inl (List.mem_of_getElem? (i := 0) rfl)) all0)
              have w26 : own_Go p e below f0 T25 m 623 (own_F6 b (6 : Int32) (5 : Int32) d (3 : Int32) (1 : Int32) (yt &&& (255 : Int32)) yc yd cw) [.int 3] := fun t k => by
                refine w21 t ?_
                refine zcn X7 Hb d27_503 (flt hc503_22).2.2.1 <| zil X7 Hb d27_506 rfl <| zil X7 Hb d27_507 rfl <| zcy X7 Hb d27_508 (flt ((by decide) : ¬ ((5 : Int32) < (5 : Int32)))).2.1 552 (by decide) rfl <| ziL X7 Hb d27_552 rfl <| ziy X7 Hb d27_554 ((if0 _ _).trans (feq ((by decide) : ¬ ((1 : Int32) = (0 : Int32)))).2) 564 (by decide) rfl <| zii X7 Hb (L' := (own_F6 b (6 : Int32) (5 : Int32) d (2 : Int32) (1 : Int32) (yt &&& (255 : Int32)) yc yd cw)) d27_564 rfl 6 rfl rfl <| zal X7 Hb d27_567 rfl rfl ?_
                refine ziL X7 Hb d27_568 rfl <| zii X7 Hb (L' := (own_F6 b (6 : Int32) (5 : Int32) d (3 : Int32) (1 : Int32) (yt &&& (255 : Int32)) yc yd cw)) d27_570 rfl 3 rfl rfl <| X7.ldcInt hx hown (mvT hZ (W 165 rfl)) (g := (mkF m 573 (own_F6 b (6 : Int32) (5 : Int32) d (3 : Int32) (1 : Int32) (yt &&& (255 : Int32)) yc yd cw) [.int 2, .ref d])) rfl (hb hby d27_573) _ <| st25 _ <| zil X25 Hb d27_578 rfl <| zil X25 Hb d27_579 rfl <| zcy X25 Hb d27_580 (flt ((by decide) : ¬ ((6 : Int32) < (5 : Int32)))).2.1 621 (by decide) rfl <| ziL X25 Hb d27_621 rfl ?_
                exact k
              exact own_oI X25 Hb Bd.notSynchronized Bd.returns w26 d27_623 rfl (by decide) (by decide) ⟨rfl, N25, K, (by rw [own_tlP hc15_10]; exact V_d_c25)⟩
          · obtain ⟨_, T27, Lc27, X27, hQ27, st27⟩ := own_cS X7 Hb hZ hown hml (L := (own_F6 b (5 : Int32) (5 : Int32) d (3 : Int32) (1 : Int32) yt yc yd cw)) rfl (rm19_2 hw d (65533 : Int32) kd (10 : Int32) ua ub (own_lo cw) (own_hi cw) (0 : Int32) (0 : Int32) [.int 0, .int 0, .int 0, .int 0] O SU V_d_c7 (by decide) (by decide) g_d) (W 160 rfl) (W 111 rfl) (W 21 rfl) (W 112 rfl) pd2 rfl d27_615 [.ref d, .int 2, .int 65533] [] rfl rfl (by decide) 0 rfl (by decide)
            obtain ⟨rfl, N27q, K27, V_d_c27⟩ := hQ27
            have N27 := Fr.app N7 N27q
            have V_b := V_b.keep K27 (ninS nbd nin0)
            have O := O.keep K27 (allS g_d all0)
            have K := K.trans K27 (allS (Or.inl (List.mem_of_getElem? (i := 0) rfl)) all0)
            have w28 : own_Go p e below f0 T27 m 623 (own_F6 b (5 : Int32) (5 : Int32) d (3 : Int32) (1 : Int32) yt yc yd cw) [.int 3] := fun t k => by
              refine w19 t ?_
              refine zcy X7 Hb d27_355 (feq hc355_20).2 595 (by decide) rfl <| ziL X7 Hb d27_595 rfl <| ziy X7 Hb d27_597 ((if0 _ _).trans (feq ((by decide) : ¬ ((1 : Int32) = (0 : Int32)))).2) 607 (by decide) rfl <| zal X7 Hb d27_607 rfl rfl <| ziL X7 Hb d27_608 rfl <| zii X7 Hb (L' := (own_F6 b (5 : Int32) (5 : Int32) d (3 : Int32) (1 : Int32) yt yc yd cw)) d27_610 rfl 3 rfl rfl <| X7.ldcInt hx hown (mvT hZ (W 165 rfl)) (g := (mkF m 613 (own_F6 b (5 : Int32) (5 : Int32) d (3 : Int32) (1 : Int32) yt yc yd cw) [.int 2, .ref d])) rfl (hb hby d27_613) _ <| st27 _ ?_
              refine zgo X27 Hb d27_618 0 (by decide) rfl <| zil X27 Hb d27_0 rfl <| zil X27 Hb d27_1 rfl <| zcy X27 Hb d27_2 (flt ((by decide) : ¬ ((5 : Int32) < (5 : Int32)))).2.1 621 (by decide) rfl <| ziL X27 Hb d27_621 rfl ?_
              exact k
            exact own_oI X27 Hb Bd.notSynchronized Bd.returns w28 d27_623 rfl (by decide) (by decide) ⟨rfl, N27, K, (by rw [own_tlP hc15_10]; exact V_d_c27)⟩
      · obtain ⟨_, T29, Lc29, X29, hQ29, st29⟩ := own_cS X7 Hb hZ hown hml (L := (own_F6 b (5 : Int32) (5 : Int32) d (3 : Int32) (1 : Int32) yt yc yd cw)) rfl (rm19_2 hw d (65533 : Int32) kd (10 : Int32) ua ub (own_lo cw) (own_hi cw) (0 : Int32) (0 : Int32) [.int 0, .int 0, .int 0, .int 0] O SU V_d_c7 (by decide) (by decide) g_d) (W 160 rfl) (W 111 rfl) (W 21 rfl) (W 112 rfl) pd2 rfl d27_137 [.ref d, .int 2, .int 65533] [] rfl rfl (by decide) 0 rfl (by decide)
        obtain ⟨rfl, N29q, K29, V_d_c29⟩ := hQ29
        have N29 := Fr.app N7 N29q
        have V_b := V_b.keep K29 (ninS nbd nin0)
        have O := O.keep K29 (allS g_d all0)
        have K := K.trans K29 (allS (Or.inl (List.mem_of_getElem? (i := 0) rfl)) all0)
        have w30 : own_Go p e below f0 T29 m 623 (own_F6 b (5 : Int32) (5 : Int32) d (3 : Int32) (1 : Int32) yt yc yd cw) [.int 3] := fun t k => by
          refine w13 t ?_
          refine zin X7 Hb d27_47 ((if0 _ _).trans (feq hc47_14).1) <| zil X7 Hb d27_50 rfl <| zil X7 Hb d27_51 rfl <| zcy X7 Hb d27_52 (flt ((by decide) : ¬ ((5 : Int32) < (5 : Int32)))).2.1 119 (by decide) rfl <| ziL X7 Hb d27_119 rfl <| ziy X7 Hb d27_121 ((if0 _ _).trans (feq ((by decide) : ¬ ((1 : Int32) = (0 : Int32)))).2) 129 (by decide) rfl <| zal X7 Hb d27_129 rfl rfl <| ziL X7 Hb d27_130 rfl ?_
          refine zii X7 Hb (L' := (own_F6 b (5 : Int32) (5 : Int32) d (3 : Int32) (1 : Int32) yt yc yd cw)) d27_132 rfl 3 rfl rfl <| X7.ldcInt hx hown (mvT hZ (W 165 rfl)) (g := (mkF m 135 (own_F6 b (5 : Int32) (5 : Int32) d (3 : Int32) (1 : Int32) yt yc yd cw) [.int 2, .ref d])) rfl (hb hby d27_135) _ <| st29 _ <| zgo X29 Hb d27_140 621 (by decide) rfl <| ziL X29 Hb d27_621 rfl ?_
          exact k
        exact own_oI X29 Hb Bd.notSynchronized Bd.returns w30 d27_623 rfl (by decide) (by decide) ⟨rfl, N29, K, (by rw [own_tlP hc15_10]; exact V_d_c29)⟩
    · have w31 : own_Go p e below f0 T7 m 149 (own_F6 b (5 : Int32) (5 : Int32) d (2 : Int32) (1 : Int32) yt yc yd cw) [.int (-2), (.int (yt >>> ((4 : Int32) &&& 31)))] := fun t k => by
        refine w11 t ?_
        refine zcy X7 Hb d27_39 (feq hc39_12).2 143 (by decide) rfl <| ziL X7 Hb d27_143 rfl <| zic X7 Hb d27_145 4 rfl <| zsr X7 Hb d27_146 <| zbp X7 Hb d27_147 (-2) rfl ?_
        exact k
      by_cases hc149_32 : (yt >>> ((4 : Int32) &&& 31)) = (-2 : Int32)
      · obtain ⟨_, T33, Lc33, X33, hQ33, st33⟩ := own_cS X7 Hb hZ hown hml (L := (own_F6 b (5 : Int32) (5 : Int32) d (3 : Int32) (1 : Int32) yt yc yd cw)) rfl (rm19_2 hw d (65533 : Int32) kd (10 : Int32) ua ub (own_lo cw) (own_hi cw) (0 : Int32) (0 : Int32) [.int 0, .int 0, .int 0, .int 0] O SU V_d_c7 (by decide) (by decide) g_d) (W 160 rfl) (W 111 rfl) (W 21 rfl) (W 112 rfl) pd2 rfl d27_343 [.ref d, .int 2, .int 65533] [] rfl rfl (by decide) 0 rfl (by decide)
        obtain ⟨rfl, N33q, K33, V_d_c33⟩ := hQ33
        have N33 := Fr.app N7 N33q
        have V_b := V_b.keep K33 (ninS nbd nin0)
        have O := O.keep K33 (allS g_d all0)
        have K := K.trans K33 (allS (Or.inl (List.mem_of_getElem? (i := 0) rfl)) all0)
        have w34 : own_Go p e below f0 T33 m 623 (own_F6 b (5 : Int32) (5 : Int32) d (3 : Int32) (1 : Int32) yt yc yd cw) [.int 3] := fun t k => by
          refine w31 t ?_
          refine zcn X7 Hb d27_149 (teq hc149_32).2 <| zil X7 Hb d27_152 rfl <| zic X7 Hb d27_153 1 rfl <| zia' X7 Hb d27_154 6 rfl <| zil X7 Hb d27_155 rfl <| zcy X7 Hb d27_156 (flt ((by decide) : ¬ ((6 : Int32) < (5 : Int32)))).2.1 283 (by decide) rfl <| zil X7 Hb d27_283 rfl <| zil X7 Hb d27_284 rfl ?_
          refine zcy X7 Hb d27_285 (flt ((by decide) : ¬ ((5 : Int32) < (5 : Int32)))).2.1 325 (by decide) rfl <| ziL X7 Hb d27_325 rfl <| ziy X7 Hb d27_327 ((if0 _ _).trans (feq ((by decide) : ¬ ((1 : Int32) = (0 : Int32)))).2) 335 (by decide) rfl <| zal X7 Hb d27_335 rfl rfl <| ziL X7 Hb d27_336 rfl <| zii X7 Hb (L' := (own_F6 b (5 : Int32) (5 : Int32) d (3 : Int32) (1 : Int32) yt yc yd cw)) d27_338 rfl 3 rfl rfl <| X7.ldcInt hx hown (mvT hZ (W 165 rfl)) (g := (mkF m 341 (own_F6 b (5 : Int32) (5 : Int32) d (3 : Int32) (1 : Int32) yt yc yd cw) [.int 2, .ref d])) rfl (hb hby d27_341) _ <| st33 _ ?_
          refine zgo X33 Hb d27_346 621 (by decide) rfl <| ziL X33 Hb d27_621 rfl ?_
          exact k
        exact own_oI X33 Hb Bd.notSynchronized Bd.returns w34 d27_623 rfl (by decide) (by decide) ⟨rfl, N33, K, (by rw [own_tlP hc15_10]; exact V_d_c33)⟩
      · have w35 : own_Go p e below f0 T7 m 355 (own_F6 b (5 : Int32) (5 : Int32) d (2 : Int32) (1 : Int32) yt yc yd cw) [.int (-2), (.int (yt >>> ((3 : Int32) &&& 31)))] := fun t k => by
          refine w31 t ?_
          refine zcy X7 Hb d27_149 (feq hc149_32).2 349 (by decide) rfl <| ziL X7 Hb d27_349 rfl <| zic X7 Hb d27_351 3 rfl <| zsr X7 Hb d27_352 <| zbp X7 Hb d27_353 (-2) rfl ?_
          exact k
        by_cases hc355_36 : (yt >>> ((3 : Int32) &&& 31)) = (-2 : Int32)
        · have w37 : own_Go p e below f0 T7 m 503 (own_F6 b (5 : Int32) (5 : Int32) d (2 : Int32) (1 : Int32) (yt &&& (255 : Int32)) yc yd cw) [.int 244, (.int (yt &&& (255 : Int32)))] := fun t k => by
            refine w35 t ?_
            refine zcn X7 Hb d27_355 (teq hc355_36).2 <| zil X7 Hb d27_358 rfl <| zic X7 Hb d27_359 2 rfl <| zia' X7 Hb d27_360 7 rfl <| zil X7 Hb d27_361 rfl <| zcy X7 Hb d27_362 (flt ((by decide) : ¬ ((7 : Int32) < (5 : Int32)))).2.1 490 (by decide) rfl <| ziL X7 Hb d27_490 rfl <| zsp X7 Hb d27_492 255 rfl ?_
            refine zan X7 Hb d27_495 <| ziS X7 Hb (L' := (own_F6 b (5 : Int32) (5 : Int32) d (2 : Int32) (1 : Int32) (yt &&& (255 : Int32)) yc yd cw)) d27_496 rfl <| ziL X7 Hb d27_498 rfl <| zsp X7 Hb d27_500 244 rfl ?_
            exact k
          by_cases hc503_38 : (244 : Int32) < (yt &&& (255 : Int32))
          · obtain ⟨_, T39, Lc39, X39, hQ39, st39⟩ := own_cS X7 Hb hZ hown hml (L := (own_F6 b (5 : Int32) (5 : Int32) d (3 : Int32) (1 : Int32) (yt &&& (255 : Int32)) yc yd cw)) rfl (rm19_2 hw d (65533 : Int32) kd (10 : Int32) ua ub (own_lo cw) (own_hi cw) (0 : Int32) (0 : Int32) [.int 0, .int 0, .int 0, .int 0] O SU V_d_c7 (by decide) (by decide) g_d) (W 160 rfl) (W 111 rfl) (W 21 rfl) (W 112 rfl) pd2 rfl d27_546 [.ref d, .int 2, .int 65533] [] rfl rfl (by decide) 0 rfl (by decide)
            obtain ⟨rfl, N39q, K39, V_d_c39⟩ := hQ39
            have N39 := Fr.app N7 N39q
            have V_b := V_b.keep K39 (ninS nbd nin0)
            have O := O.keep K39 (allS g_d all0)
            have K := K.trans K39 (allS (Or.inl (List.mem_of_getElem? (i := 0) rfl)) all0)
            have w40 : own_Go p e below f0 T39 m 623 (own_F6 b (5 : Int32) (5 : Int32) d (3 : Int32) (1 : Int32) (yt &&& (255 : Int32)) yc yd cw) [.int 3] := fun t k => by
              refine w37 t ?_
              refine zcy X7 Hb d27_503 (tlt hc503_38).2.2.1 526 (by decide) rfl <| ziL X7 Hb d27_526 rfl <| ziy X7 Hb d27_528 ((if0 _ _).trans (feq ((by decide) : ¬ ((1 : Int32) = (0 : Int32)))).2) 538 (by decide) rfl <| zal X7 Hb d27_538 rfl rfl <| ziL X7 Hb d27_539 rfl <| zii X7 Hb (L' := (own_F6 b (5 : Int32) (5 : Int32) d (3 : Int32) (1 : Int32) (yt &&& (255 : Int32)) yc yd cw)) d27_541 rfl 3 rfl rfl <| X7.ldcInt hx hown (mvT hZ (W 165 rfl)) (g := (mkF m 544 (own_F6 b (5 : Int32) (5 : Int32) d (3 : Int32) (1 : Int32) (yt &&& (255 : Int32)) yc yd cw) [.int 2, .ref d])) rfl (hb hby d27_544) _ <| st39 _ ?_
              refine zgo X39 Hb d27_549 0 (by decide) rfl <| zil X39 Hb d27_0 rfl <| zil X39 Hb d27_1 rfl <| zcy X39 Hb d27_2 (flt ((by decide) : ¬ ((5 : Int32) < (5 : Int32)))).2.1 621 (by decide) rfl <| ziL X39 Hb d27_621 rfl ?_
              exact k
            exact own_oI X39 Hb Bd.notSynchronized Bd.returns w40 d27_623 rfl (by decide) (by decide) ⟨rfl, N39, K, (by rw [own_tlP hc15_10]; exact V_d_c39)⟩
          · obtain ⟨_, T41, Lc41, X41, hQ41, st41⟩ := own_cS X7 Hb hZ hown hml (L := (own_F6 b (6 : Int32) (5 : Int32) d (3 : Int32) (1 : Int32) (yt &&& (255 : Int32)) yc yd cw)) rfl (rm19_2 hw d (65533 : Int32) kd (10 : Int32) ua ub (own_lo cw) (own_hi cw) (0 : Int32) (0 : Int32) [.int 0, .int 0, .int 0, .int 0] O SU V_d_c7 (by decide) (by decide) g_d) (W 160 rfl) (W 111 rfl) (W 21 rfl) (W 112 rfl) pd2 rfl d27_575 [.ref d, .int 2, .int 65533] [] rfl rfl (by decide) 0 rfl (by decide)
            obtain ⟨rfl, N41q, K41, V_d_c41⟩ := hQ41
            have N41 := Fr.app N7 N41q
            have V_b := V_b.keep K41 (ninS nbd nin0)
            have O := O.keep K41 (allS g_d all0)
            have K := K.trans K41 (allS (Or.inl (List.mem_of_getElem? (i := 0) rfl)) all0)
            have w42 : own_Go p e below f0 T41 m 623 (own_F6 b (6 : Int32) (5 : Int32) d (3 : Int32) (1 : Int32) (yt &&& (255 : Int32)) yc yd cw) [.int 3] := fun t k => by
              refine w37 t ?_
              refine zcn X7 Hb d27_503 (flt hc503_38).2.2.1 <| zil X7 Hb d27_506 rfl <| zil X7 Hb d27_507 rfl <| zcy X7 Hb d27_508 (flt ((by decide) : ¬ ((5 : Int32) < (5 : Int32)))).2.1 552 (by decide) rfl <| ziL X7 Hb d27_552 rfl <| ziy X7 Hb d27_554 ((if0 _ _).trans (feq ((by decide) : ¬ ((1 : Int32) = (0 : Int32)))).2) 564 (by decide) rfl <| zii X7 Hb (L' := (own_F6 b (6 : Int32) (5 : Int32) d (2 : Int32) (1 : Int32) (yt &&& (255 : Int32)) yc yd cw)) d27_564 rfl 6 rfl rfl <| zal X7 Hb d27_567 rfl rfl ?_
              refine ziL X7 Hb d27_568 rfl <| zii X7 Hb (L' := (own_F6 b (6 : Int32) (5 : Int32) d (3 : Int32) (1 : Int32) (yt &&& (255 : Int32)) yc yd cw)) d27_570 rfl 3 rfl rfl <| X7.ldcInt hx hown (mvT hZ (W 165 rfl)) (g := (mkF m 573 (own_F6 b (6 : Int32) (5 : Int32) d (3 : Int32) (1 : Int32) (yt &&& (255 : Int32)) yc yd cw) [.int 2, .ref d])) rfl (hb hby d27_573) _ <| st41 _ <| zil X41 Hb d27_578 rfl <| zil X41 Hb d27_579 rfl <| zcy X41 Hb d27_580 (flt ((by decide) : ¬ ((6 : Int32) < (5 : Int32)))).2.1 621 (by decide) rfl <| ziL X41 Hb d27_621 rfl ?_
              exact k
            exact own_oI X41 Hb Bd.notSynchronized Bd.returns w42 d27_623 rfl (by decide) (by decide) ⟨rfl, N41, K, (by rw [own_tlP hc15_10]; exact V_d_c41)⟩
        · obtain ⟨_, T43, Lc43, X43, hQ43, st43⟩ := own_cS X7 Hb hZ hown hml (L := (own_F6 b (5 : Int32) (5 : Int32) d (3 : Int32) (1 : Int32) yt yc yd cw)) rfl (rm19_2 hw d (65533 : Int32) kd (10 : Int32) ua ub (own_lo cw) (own_hi cw) (0 : Int32) (0 : Int32) [.int 0, .int 0, .int 0, .int 0] O SU V_d_c7 (by decide) (by decide) g_d) (W 160 rfl) (W 111 rfl) (W 21 rfl) (W 112 rfl) pd2 rfl d27_615 [.ref d, .int 2, .int 65533] [] rfl rfl (by decide) 0 rfl (by decide)
          obtain ⟨rfl, N43q, K43, V_d_c43⟩ := hQ43
          have N43 := Fr.app N7 N43q
          have V_b := V_b.keep K43 (ninS nbd nin0)
          have O := O.keep K43 (allS g_d all0)
          have K := K.trans K43 (allS (Or.inl (List.mem_of_getElem? (i := 0) rfl)) all0)
          have w44 : own_Go p e below f0 T43 m 623 (own_F6 b (5 : Int32) (5 : Int32) d (3 : Int32) (1 : Int32) yt yc yd cw) [.int 3] := fun t k => by
            refine w35 t ?_
            refine zcy X7 Hb d27_355 (feq hc355_36).2 595 (by decide) rfl <| ziL X7 Hb d27_595 rfl <| ziy X7 Hb d27_597 ((if0 _ _).trans (feq ((by decide) : ¬ ((1 : Int32) = (0 : Int32)))).2) 607 (by decide) rfl <| zal X7 Hb d27_607 rfl rfl <| ziL X7 Hb d27_608 rfl <| zii X7 Hb (L' := (own_F6 b (5 : Int32) (5 : Int32) d (3 : Int32) (1 : Int32) yt yc yd cw)) d27_610 rfl 3 rfl rfl <| X7.ldcInt hx hown (mvT hZ (W 165 rfl)) (g := (mkF m 613 (own_F6 b (5 : Int32) (5 : Int32) d (3 : Int32) (1 : Int32) yt yc yd cw) [.int 2, .ref d])) rfl (hb hby d27_613) _ <| st43 _ ?_
            refine zgo X43 Hb d27_618 0 (by decide) rfl <| zil X43 Hb d27_0 rfl <| zil X43 Hb d27_1 rfl <| zcy X43 Hb d27_2 (flt ((by decide) : ¬ ((5 : Int32) < (5 : Int32)))).2.1 621 (by decide) rfl <| ziL X43 Hb d27_621 rfl ?_
            exact k
          exact own_oI X43 Hb Bd.notSynchronized Bd.returns w44 d27_623 rfl (by decide) (by decide) ⟨rfl, N43, K, (by rw [own_tlP hc15_10]; exact V_d_c43)⟩
  · obtain ⟨_, T45, Lc45, X45, hQ45, st45⟩ := own_cS X7 Hb hZ hown hml (L := (own_F6 b (5 : Int32) (5 : Int32) d (3 : Int32) (1 : Int32) yt yc yd cw)) rfl (rm19_2 hw d (yt.toUInt32.toUInt16.toUInt32.toInt32) kd (10 : Int32) ua ub (own_lo cw) (own_hi cw) (0 : Int32) (0 : Int32) [.int 0, .int 0, .int 0, .int 0] O SU V_d_c7 (by decide) (by decide) g_d) (W 160 rfl) (W 111 rfl) (W 21 rfl) (W 112 rfl) pd2 rfl d27_27 [.ref d, .int 2, .int (yt.toUInt32.toUInt16.toUInt32.toInt32)] [] rfl rfl (by decide) 0 rfl (by decide)
    obtain ⟨rfl, N45q, K45, V_d_c45⟩ := hQ45
    have N45 := Fr.app N7 N45q
    have V_b := V_b.keep K45 (ninS nbd nin0)
    have O := O.keep K45 (allS g_d all0)
    have K := K.trans K45 (allS (Or.inl (List.mem_of_getElem? (i := 0) rfl)) all0)
    have w46 : own_Go p e below f0 T45 m 623 (own_F6 b (5 : Int32) (5 : Int32) d (3 : Int32) (1 : Int32) yt yc yd cw) [.int 3] := fun t k => by
      refine w9 t ?_
      refine zin X7 Hb d27_15 ((if0 _ _).trans (flt hc15_10).1) <| zal X7 Hb d27_18 rfl rfl <| ziL X7 Hb d27_19 rfl <| zii X7 Hb (L' := (own_F6 b (5 : Int32) (5 : Int32) d (3 : Int32) (1 : Int32) yt yc yd cw)) d27_21 rfl 3 rfl rfl <| ziL X7 Hb d27_24 rfl <| zik X7 Hb d27_26 <| st45 _ <| zgo X45 Hb d27_30 618 (by decide) rfl ?_
      refine zgo X45 Hb d27_618 0 (by decide) rfl <| zil X45 Hb d27_0 rfl <| zil X45 Hb d27_1 rfl <| zcy X45 Hb d27_2 (flt ((by decide) : ¬ ((5 : Int32) < (5 : Int32)))).2.1 621 (by decide) rfl <| ziL X45 Hb d27_621 rfl ?_
      exact k
    exact own_oI X45 Hb Bd.notSynchronized Bd.returns w46 d27_623 rfl (by decide) (by decide) ⟨rfl, N45, K, (by rw [own_tlN hc15_10]; exact V_d_c45)⟩
theorem d27_365 : decode B27 365 = .ok (.aload_n 0, 1) := by decide +kernel
theorem d27_366 : decode B27 366 = .ok (.iload_n 1, 1) := by decide +kernel
theorem d27_367 : decode B27 367 = .ok (.iinc 1 1, 3) := by decide +kernel
theorem d27_370 : decode B27 370 = .ok (.baload, 1) := by decide +kernel
theorem d27_371 : decode B27 371 = .ok (.istore 7, 2) := by decide +kernel
theorem d27_373 : decode B27 373 = .ok (.aload_n 0, 1) := by decide +kernel
theorem d27_374 : decode B27 374 = .ok (.iload_n 1, 1) := by decide +kernel
theorem d27_375 : decode B27 375 = .ok (.iinc 1 1, 3) := by decide +kernel
theorem d27_378 : decode B27 378 = .ok (.baload, 1) := by decide +kernel
theorem d27_379 : decode B27 379 = .ok (.istore 8, 2) := by decide +kernel
theorem d27_381 : decode B27 381 = .ok (.aload_n 0, 1) := by decide +kernel
theorem d27_382 : decode B27 382 = .ok (.iload_n 1, 1) := by decide +kernel
theorem d27_383 : decode B27 383 = .ok (.iinc 1 1, 3) := by decide +kernel
theorem d27_386 : decode B27 386 = .ok (.baload, 1) := by decide +kernel
theorem d27_387 : decode B27 387 = .ok (.istore 9, 2) := by decide +kernel
theorem d27_389 : decode B27 389 = .ok (.iload 6, 2) := by decide +kernel
theorem d27_391 : decode B27 391 = .ok (.iload 7, 2) := by decide +kernel
theorem d27_393 : decode B27 393 = .ok (.iload 8, 2) := by decide +kernel
theorem d27_395 : decode B27 395 = .ok (.iload 9, 2) := by decide +kernel
theorem d27_397 : decode B27 397 = .ok (.invokestatic 411, 3) := by decide +kernel
theorem pd19 : parseMethodDescriptor "(IIII)I" = some ⟨[.int, .int, .int, .int], some .int⟩ := by decide +kernel
theorem d27_400 : decode B27 400 = .ok (.istore 10, 2) := by decide +kernel
def own_F7 (x0 : Addr) (x1 : Int32) (x2 : Int32) (x3 : Addr) (x4 : Int32) (x5 : Int32) (x6 : Int32) (x7 : Int32) (x8 : Int32) (x9 : Int32) (x10 : Int32) : Array Slot := #[.val (.ref x0), .val (.int x1), .val (.int x2), .val (.ref x3), .val (.int x4), .val (.int x5), .val (.int x6), .val (.int x7), .val (.int x8), .val (.int x9), .val (.int x10)]
theorem d27_402 : decode B27 402 = .ok (.iload 7, 2) := by decide +kernel
theorem d27_404 : decode B27 404 = .ok (.iload 8, 2) := by decide +kernel
theorem d27_406 : decode B27 406 = .ok (.iload 9, 2) := by decide +kernel
theorem d27_408 : decode B27 408 = .ok (.invokestatic 415, 3) := by decide +kernel
theorem d27_411 : decode B27 411 = .ok (.ifCond .ne 11, 3) := by decide +kernel
theorem d27_414 : decode B27 414 = .ok (.iload 10, 2) := by decide +kernel
theorem d27_416 : decode B27 416 = .ok (.invokestatic 418, 3) := by decide +kernel
theorem d27_419 : decode B27 419 = .ok (.ifCond .ne 40, 3) := by decide +kernel
theorem d27_459 : decode B27 459 = .ok (.aload_n 3, 1) := by decide +kernel
theorem d27_460 : decode B27 460 = .ok (.iload 4, 2) := by decide +kernel
theorem d27_462 : decode B27 462 = .ok (.iinc 4 1, 3) := by decide +kernel
theorem d27_465 : decode B27 465 = .ok (.iload 10, 2) := by decide +kernel
theorem d27_467 : decode B27 467 = .ok (.invokestatic 424, 3) := by decide +kernel
theorem pd20 : parseMethodDescriptor "(I)C" = some ⟨[.int], some .char⟩ := by decide +kernel
theorem d27_470 : decode B27 470 = .ok (.invokestatic 64, 3) := by decide +kernel
theorem d27_473 : decode B27 473 = .ok (.aload_n 3, 1) := by decide +kernel
theorem d27_474 : decode B27 474 = .ok (.iload 4, 2) := by decide +kernel
theorem d27_476 : decode B27 476 = .ok (.iinc 4 1, 3) := by decide +kernel
theorem d27_479 : decode B27 479 = .ok (.iload 10, 2) := by decide +kernel
theorem d27_481 : decode B27 481 = .ok (.invokestatic 428, 3) := by decide +kernel
theorem d27_484 : decode B27 484 = .ok (.invokestatic 64, 3) := by decide +kernel
theorem d27_487 : decode B27 487 = .ok (.goto (-487), 3) := by decide +kernel
theorem rm27_F {l : Launch} {Z : State} {a0 : Array Value} (hw : own_W a0 Z) (b d : Addr) (kb : ClassId) (ya yb yc yd ye yt cw : Int32) (kd : ClassId) (ua ub : Int32) {zc : Int32} {fm : Value} {u8 : Addr} {h0 : Heap} {n0 : Nat} (O0 : Old Z n0 h0) (SU : own_SU Z zc fm u8) (V_b : Arv Z h0 b kb .byte (6 : Int32) [.int ya, .int yb, .int yc, .int yd, .int ye, .int yt] (.int 0)) (V_d : Arv Z h0 d kd .byte (12 : Int32) [.int ua, .int ub, .int 0, .int 0, .int 0, .int 0, .int 0, .int 0, .int 0, .int 0, .int 0, .int 0] (.int 0)) (nbd : b ≠ d) (hp : own_P4 cw yb yc yd ye) (hs : ¬ cw < (65536 : Int32)) (ht : cw < (1114112 : Int32)) (g_d : n0 ≤ d) : own_M l own_n27 jdk_42_method_38_code 11 (some .int) (own_rm 1 0 0 15) Z h0 #[.ref b, .int 1, .int 6, .ref d, .int 1, .int 1] (fun v h L => v = some (.int 4) ∧ Fr n0 L ∧ Keep h0 h [d] ∧ Arv Z h d kd .byte (12 : Int32) [.int ua, .int ub, (.int (own_lo (own_hs cw))), (.int (own_hi (own_hs cw))), (.int (own_lo (own_ls cw))), (.int (own_hi (own_ls cw))), (.int (own_lo (own_tl yt))), (.int (own_hi (own_tl yt))), .int 0, .int 0, .int 0, .int 0] (.int 0)) := by
  refine own_body (L0 := #[.val (.ref b), .val (.int 1), .val (.int 6), .val (.ref d), .val (.int 1), .val (.int 1), .unset, .unset, .unset, .unset, .unset]) (plainFor_of_name pn_java_lang_String) rfl rfl ?_
  intro p e s m below meth c s₁ f0 Bd hx Hb hml hZ hown X0 e0 pre0
  have hby := Hb.2
  have W := own_q hw
  have N0 := Fr.nil n0
  have O := O0
  have K := Keep.refl h0 [d]
  have B1 : own_El Z h0 b .byte (1 : Int32) (.int yb) := own_el V_b ⟨by decide, by decide⟩ rfl
  have B2 : own_El Z h0 b .byte (2 : Int32) (.int yc) := own_el V_b ⟨by decide, by decide⟩ rfl
  have B3 : own_El Z h0 b .byte (3 : Int32) (.int yd) := own_el V_b ⟨by decide, by decide⟩ rfl
  have B4 : own_El Z h0 b .byte (4 : Int32) (.int ye) := own_el V_b ⟨by decide, by decide⟩ rfl
  obtain ⟨_, T5, Lc5, X5, hQ5, st5⟩ := own_cS X0 Hb hZ hown hml (L := (own_F6 b (5 : Int32) (6 : Int32) d (1 : Int32) (1 : Int32) yb yc yd ye)) rfl (rm28 hw yb yc yd ye cw O hp.2.2.2.2.2.2.2.2) (W 143 rfl) (W 144 rfl) (W 7 rfl) (W 145 rfl) pd19 e0 d27_397 [.int yb, .int yc, .int yd, .int ye] [] rfl rfl (by decide) 0 rfl (by decide)
  obtain ⟨rfl, N5q, eh5⟩ := hQ5
  have N5 := Fr.app N0 N5q
  obtain ⟨_, T6, Lc6, X6, hQ6, st6⟩ := own_cS X5 Hb hZ hown hml (L := (own_F7 b (5 : Int32) (6 : Int32) d (1 : Int32) (1 : Int32) yb yc yd ye cw)) rfl (rm29 hw yc yd ye O hp.2.2.2.2.2.1 hp.2.2.2.2.2.2.1 hp.2.2.2.2.2.2.2.1) (W 147 rfl) (W 148 rfl) (W 7 rfl) (W 149 rfl) pd16 eh5 d27_408 [.int yc, .int yd, .int ye] [] rfl rfl (by decide) 0 rfl (by decide)
  obtain ⟨rfl, N6q, eh6⟩ := hQ6
  have N6 := Fr.app N5 N6q
  obtain ⟨_, T7, Lc7, X7, hQ7, st7⟩ := own_cS X6 Hb hZ hown hml (L := (own_F7 b (5 : Int32) (6 : Int32) d (1 : Int32) (1 : Int32) yb yc yd ye cw)) rfl (rm30 hw cw O hs ht) (W 150 rfl) (W 151 rfl) (W 152 rfl) (W 153 rfl) pd14 eh6 d27_416 [.int cw] [] rfl rfl (by decide) 0 rfl (by decide)
  obtain ⟨rfl, N7q, eh7⟩ := hQ7
  have N7 := Fr.app N6 N7q
  obtain ⟨_, T8, Lc8, X8, hQ8, st8⟩ := own_cS X7 Hb hZ hown hml (L := (own_F7 b (5 : Int32) (6 : Int32) d (2 : Int32) (1 : Int32) yb yc yd ye cw)) rfl (rm31 hw cw O ) (W 156 rfl) (W 157 rfl) (W 152 rfl) (W 158 rfl) pd20 eh7 d27_467 [.int cw] [.int 1, .ref d] rfl rfl (by decide) 2 rfl (by decide)
  obtain ⟨rfl, N8q, eh8⟩ := hQ8
  have N8 := Fr.app N7 N8q
  obtain ⟨_, T9, Lc9, X9, hQ9, st9⟩ := own_cS X8 Hb hZ hown hml (L := (own_F7 b (5 : Int32) (6 : Int32) d (2 : Int32) (1 : Int32) yb yc yd ye cw)) rfl (rm19_1 hw d (own_hs cw) kd (12 : Int32) ua ub (0 : Int32) (0 : Int32) [.int 0, .int 0, .int 0, .int 0, .int 0, .int 0, .int 0, .int 0] O SU V_d (by decide) (by decide) g_d) (W 160 rfl) (W 111 rfl) (W 21 rfl) (W 112 rfl) pd2 eh8 d27_470 [.ref d, .int 1, .int (own_hs cw)] [] rfl rfl (by decide) 0 rfl (by decide)
  obtain ⟨rfl, N9q, K9, V_d_c9⟩ := hQ9
  have N9 := Fr.app N8 N9q
  have V_b := V_b.keep K9 (ninS nbd nin0)
  have O := O.keep K9 (allS g_d all0)
  have K := K.trans K9 (allS (Or.inl (List.mem_of_getElem? (i := 0) rfl)) all0)
  obtain ⟨_, T10, Lc10, X10, hQ10, st10⟩ := own_cS X9 Hb hZ hown hml (L := (own_F7 b (5 : Int32) (6 : Int32) d (3 : Int32) (1 : Int32) yb yc yd ye cw)) rfl (rm32 hw cw O ) (W 161 rfl) (W 162 rfl) (W 152 rfl) (W 163 rfl) pd20 rfl d27_481 [.int cw] [.int 2, .ref d] rfl rfl (by decide) 2 rfl (by decide)
  obtain ⟨rfl, N10q, eh10⟩ := hQ10
  have N10 := Fr.app N9 N10q
  obtain ⟨_, T11, Lc11, X11, hQ11, st11⟩ := own_cS X10 Hb hZ hown hml (L := (own_F7 b (5 : Int32) (6 : Int32) d (3 : Int32) (1 : Int32) yb yc yd ye cw)) rfl (rm19_2 hw d (own_ls cw) kd (12 : Int32) ua ub (own_lo (own_hs cw)) (own_hi (own_hs cw)) (0 : Int32) (0 : Int32) [.int 0, .int 0, .int 0, .int 0, .int 0, .int 0] O SU V_d_c9 (by decide) (by decide) g_d) (W 160 rfl) (W 111 rfl) (W 21 rfl) (W 112 rfl) pd2 eh10 d27_484 [.ref d, .int 2, .int (own_ls cw)] [] rfl rfl (by decide) 0 rfl (by decide)
  obtain ⟨rfl, N11q, K11, V_d_c11⟩ := hQ11
  have N11 := Fr.app N10 N11q
  have V_b := V_b.keep K11 (ninS nbd nin0)
  have O := O.keep K11 (allS g_d all0)
  have K := K.trans K11 (allS (Or.inl (List.mem_of_getElem? (i := 0) rfl)) all0)
  have B12 : own_El Z (T11.heap) b .byte (5 : Int32) (.int yt) := own_el V_b ⟨by decide, by decide⟩ rfl
  have w13 : own_Go p e below f0 T11 m 15 (own_F7 b (6 : Int32) (6 : Int32) d (3 : Int32) (1 : Int32) yt yc yd ye cw) [.int yt] := fun t k => by
    refine pre0 t ?_
    refine zil X0 Hb d27_0 rfl <| zil X0 Hb d27_1 rfl <| zcn X0 Hb d27_2 (tlt ((by decide) : (1 : Int32) < (6 : Int32))).2.1 <| zal X0 Hb d27_5 rfl rfl <| zil X0 Hb d27_6 rfl <| zii X0 Hb (L' := (own_F2 b (2 : Int32) (6 : Int32) d (1 : Int32) (1 : Int32))) d27_7 rfl 2 rfl rfl <| zba X0 Hb hZ e0 B1 d27_10 <| ziS X0 Hb (L' := (own_F3 b (2 : Int32) (6 : Int32) d (1 : Int32) (1 : Int32) yb)) d27_11 rfl ?_
    refine ziL X0 Hb d27_13 rfl <| ziy X0 Hb d27_15 ((if0 _ _).trans (tlt (hp.1 : yb < (0 : Int32))).1) 33 (by decide) rfl <| ziL X0 Hb d27_33 rfl <| zic X0 Hb d27_35 5 rfl <| zsr X0 Hb d27_36 <| zbp X0 Hb d27_37 (-2) rfl <| zcy X0 Hb d27_39 (feq (hp.2.1 : ¬ ((yb >>> ((5 : Int32) &&& 31)) = (-2 : Int32)))).2 143 (by decide) rfl <| ziL X0 Hb d27_143 rfl ?_
    refine zic X0 Hb d27_145 4 rfl <| zsr X0 Hb d27_146 <| zbp X0 Hb d27_147 (-2) rfl <| zcy X0 Hb d27_149 (feq (hp.2.2.1 : ¬ ((yb >>> ((4 : Int32) &&& 31)) = (-2 : Int32)))).2 349 (by decide) rfl <| ziL X0 Hb d27_349 rfl <| zic X0 Hb d27_351 3 rfl <| zsr X0 Hb d27_352 <| zbp X0 Hb d27_353 (-2) rfl ?_
    refine zcn X0 Hb d27_355 (teq (hp.2.2.2.1 : (yb >>> ((3 : Int32) &&& 31)) = (-2 : Int32))).2 <| zil X0 Hb d27_358 rfl <| zic X0 Hb d27_359 2 rfl <| zia' X0 Hb d27_360 4 rfl <| zil X0 Hb d27_361 rfl <| zcn X0 Hb d27_362 (tlt ((by decide) : (4 : Int32) < (6 : Int32))).2.1 <| zal X0 Hb d27_365 rfl rfl <| zil X0 Hb d27_366 rfl ?_
    refine zii X0 Hb (L' := (own_F3 b (3 : Int32) (6 : Int32) d (1 : Int32) (1 : Int32) yb)) d27_367 rfl 3 rfl rfl <| zba X0 Hb hZ e0 B2 d27_370 <| ziS X0 Hb (L' := (own_F4 b (3 : Int32) (6 : Int32) d (1 : Int32) (1 : Int32) yb yc)) d27_371 rfl <| zal X0 Hb d27_373 rfl rfl <| zil X0 Hb d27_374 rfl <| zii X0 Hb (L' := (own_F4 b (4 : Int32) (6 : Int32) d (1 : Int32) (1 : Int32) yb yc)) d27_375 rfl 4 rfl rfl <| zba X0 Hb hZ e0 B3 d27_378 <| ziS X0 Hb (L' := (own_F5 b (4 : Int32) (6 : Int32) d (1 : Int32) (1 : Int32) yb yc yd)) d27_379 rfl ?_
    refine zal X0 Hb d27_381 rfl rfl <| zil X0 Hb d27_382 rfl <| zii X0 Hb (L' := (own_F5 b (5 : Int32) (6 : Int32) d (1 : Int32) (1 : Int32) yb yc yd)) d27_383 rfl 5 rfl rfl <| zba X0 Hb hZ e0 B4 d27_386 <| ziS X0 Hb (L' := (own_F6 b (5 : Int32) (6 : Int32) d (1 : Int32) (1 : Int32) yb yc yd ye)) d27_387 rfl <| ziL X0 Hb d27_389 rfl <| ziL X0 Hb d27_391 rfl <| ziL X0 Hb d27_393 rfl ?_
    refine ziL X0 Hb d27_395 rfl <| st5 _ <| ziS X5 Hb (L' := (own_F7 b (5 : Int32) (6 : Int32) d (1 : Int32) (1 : Int32) yb yc yd ye cw)) d27_400 rfl <| ziL X5 Hb d27_402 rfl <| ziL X5 Hb d27_404 rfl <| ziL X5 Hb d27_406 rfl <| st6 _ <| zin X6 Hb d27_411 ((if0 _ _).trans (teq (rfl : (0 : Int32) = (0 : Int32))).2) ?_
    refine ziL X6 Hb d27_414 rfl <| st7 _ <| ziy X7 Hb d27_419 ((if0 _ _).trans (feq ((by decide) : ¬ ((1 : Int32) = (0 : Int32)))).2) 459 (by decide) rfl <| zal X7 Hb d27_459 rfl rfl <| ziL X7 Hb d27_460 rfl <| zii X7 Hb (L' := (own_F7 b (5 : Int32) (6 : Int32) d (2 : Int32) (1 : Int32) yb yc yd ye cw)) d27_462 rfl 2 rfl rfl <| ziL X7 Hb d27_465 rfl <| st8 _ ?_
    refine st9 _ <| zal X9 Hb d27_473 rfl rfl <| ziL X9 Hb d27_474 rfl <| zii X9 Hb (L' := (own_F7 b (5 : Int32) (6 : Int32) d (3 : Int32) (1 : Int32) yb yc yd ye cw)) d27_476 rfl 3 rfl rfl <| ziL X9 Hb d27_479 rfl <| st10 _ <| st11 _ <| zgo X11 Hb d27_487 0 (by decide) rfl ?_
    refine zil X11 Hb d27_0 rfl <| zil X11 Hb d27_1 rfl <| zcn X11 Hb d27_2 (tlt ((by decide) : (5 : Int32) < (6 : Int32))).2.1 <| zal X11 Hb d27_5 rfl rfl <| zil X11 Hb d27_6 rfl <| zii X11 Hb (L' := (own_F7 b (6 : Int32) (6 : Int32) d (3 : Int32) (1 : Int32) yb yc yd ye cw)) d27_7 rfl 6 rfl rfl <| zba X11 Hb hZ rfl B12 d27_10 <| ziS X11 Hb (L' := (own_F7 b (6 : Int32) (6 : Int32) d (3 : Int32) (1 : Int32) yt yc yd ye cw)) d27_11 rfl ?_
    refine ziL X11 Hb d27_13 rfl ?_
    exact k
  by_cases hc15_14 : yt < (0 : Int32)
  · have w15 : own_Go p e below f0 T11 m 39 (own_F7 b (6 : Int32) (6 : Int32) d (3 : Int32) (1 : Int32) yt yc yd ye cw) [.int (-2), (.int (yt >>> ((5 : Int32) &&& 31)))] := fun t k => by
      refine w13 t ?_
      refine ziy X11 Hb d27_15 ((if0 _ _).trans (tlt hc15_14).1) 33 (by decide) rfl <| ziL X11 Hb d27_33 rfl <| zic X11 Hb d27_35 5 rfl <| zsr X11 Hb d27_36 <| zbp X11 Hb d27_37 (-2) rfl ?_
      exact k
    by_cases hc39_16 : (yt >>> ((5 : Int32) &&& 31)) = (-2 : Int32)
    · have w17 : own_Go p e below f0 T11 m 47 (own_F7 b (6 : Int32) (6 : Int32) d (3 : Int32) (1 : Int32) yt yc yd ye cw) [(.int (yt &&& (30 : Int32)))] := fun t k => by
        refine w15 t ?_
        refine zcn X11 Hb d27_39 (teq hc39_16).2 <| ziL X11 Hb d27_42 rfl <| zbp X11 Hb d27_44 30 rfl <| zan X11 Hb d27_46 ?_
        exact k
      by_cases hc47_18 : (yt &&& (30 : Int32)) = (0 : Int32)
      · have w19 : own_Go p e below f0 T11 m 149 (own_F7 b (6 : Int32) (6 : Int32) d (3 : Int32) (1 : Int32) yt yc yd ye cw) [.int (-2), (.int (yt >>> ((4 : Int32) &&& 31)))] := fun t k => by
          refine w17 t ?_
          refine ziy X11 Hb d27_47 ((if0 _ _).trans (teq hc47_18).1) 143 (by decide) rfl <| ziL X11 Hb d27_143 rfl <| zic X11 Hb d27_145 4 rfl <| zsr X11 Hb d27_146 <| zbp X11 Hb d27_147 (-2) rfl ?_
          exact k
        by_cases hc149_20 : (yt >>> ((4 : Int32) &&& 31)) = (-2 : Int32)
        · obtain ⟨_, T21, Lc21, X21, hQ21, st21⟩ := own_cS X11 Hb hZ hown hml (L := (own_F7 b (6 : Int32) (6 : Int32) d (4 : Int32) (1 : Int32) yt yc yd ye cw)) rfl (rm19_3 hw d (65533 : Int32) kd (12 : Int32) ua ub (own_lo (own_hs cw)) (own_hi (own_hs cw)) (own_lo (own_ls cw)) (own_hi (own_ls cw)) (0 : Int32) (0 : Int32) [.int 0, .int 0, .int 0, .int 0] O SU V_d_c11 (by decide) (by decide) g_d) (W 160 rfl) (W 111 rfl) (W 21 rfl) (W 112 rfl) pd2 rfl d27_343 [.ref d, .int 3, .int 65533] [] rfl rfl (by decide) 0 rfl (by decide)
          obtain ⟨rfl, N21q, K21, V_d_c21⟩ := hQ21
          have N21 := Fr.app N11 N21q
          have V_b := V_b.keep K21 (ninS nbd nin0)
          have O := O.keep K21 (allS g_d all0)
          have K := K.trans K21 (allS (Or.inl (List.mem_of_getElem? (i := 0) rfl)) all0)
          have w22 : own_Go p e below f0 T21 m 623 (own_F7 b (6 : Int32) (6 : Int32) d (4 : Int32) (1 : Int32) yt yc yd ye cw) [.int 4] := fun t k => by
            refine w19 t ?_
            refine zcn X11 Hb d27_149 (teq hc149_20).2 <| zil X11 Hb d27_152 rfl <| zic X11 Hb d27_153 1 rfl <| zia' X11 Hb d27_154 7 rfl <| zil X11 Hb d27_155 rfl <| zcy X11 Hb d27_156 (flt ((by decide) : ¬ ((7 : Int32) < (6 : Int32)))).2.1 283 (by decide) rfl <| zil X11 Hb d27_283 rfl <| zil X11 Hb d27_284 rfl ?_
            refine zcy X11 Hb d27_285 (flt ((by decide) : ¬ ((6 : Int32) < (6 : Int32)))).2.1 325 (by decide) rfl <| ziL X11 Hb d27_325 rfl <| ziy X11 Hb d27_327 ((if0 _ _).trans (feq ((by decide) : ¬ ((1 : Int32) = (0 : Int32)))).2) 335 (by decide) rfl <| zal X11 Hb d27_335 rfl rfl <| ziL X11 Hb d27_336 rfl <| zii X11 Hb (L' := (own_F7 b (6 : Int32) (6 : Int32) d (4 : Int32) (1 : Int32) yt yc yd ye cw)) d27_338 rfl 4 rfl rfl <| X11.ldcInt hx hown (mvT hZ (W 165 rfl)) (g := (mkF m 341 (own_F7 b (6 : Int32) (6 : Int32) d (4 : Int32) (1 : Int32) yt yc yd ye cw) [.int 3, .ref d])) rfl (hb hby d27_341) _ <| st21 _ ?_
            refine zgo X21 Hb d27_346 621 (by decide) rfl <| ziL X21 Hb d27_621 rfl ?_
            exact k
          exact own_oI X21 Hb Bd.notSynchronized Bd.returns w22 d27_623 rfl (by decide) (by decide) ⟨rfl, N21, K, (by rw [own_tlP hc15_14]; exact V_d_c21)⟩
        · have w23 : own_Go p e below f0 T11 m 355 (own_F7 b (6 : Int32) (6 : Int32) d (3 : Int32) (1 : Int32) yt yc yd ye cw) [.int (-2), (.int (yt >>> ((3 : Int32) &&& 31)))] := fun t k => by
            refine w19 t ?_
            refine zcy X11 Hb d27_149 (feq hc149_20).2 349 (by decide) rfl <| ziL X11 Hb d27_349 rfl <| zic X11 Hb d27_351 3 rfl <| zsr X11 Hb d27_352 <| zbp X11 Hb d27_353 (-2) rfl ?_
            exact k
          by_cases hc355_24 : (yt >>> ((3 : Int32) &&& 31)) = (-2 : Int32)
          · have w25 : own_Go p e below f0 T11 m 503 (own_F7 b (6 : Int32) (6 : Int32) d (3 : Int32) (1 : Int32) (yt &&& (255 : Int32)) yc yd ye cw) [.int 244, (.int (yt &&& (255 : Int32)))] := fun t k => by
              refine w23 t ?_
              refine zcn X11 Hb d27_355 (teq hc355_24).2 <| zil X11 Hb d27_358 rfl <| zic X11 Hb d27_359 2 rfl <| zia' X11 Hb d27_360 8 rfl <| zil X11 Hb d27_361 rfl <| zcy X11 Hb d27_362 (flt ((by decide) : ¬ ((8 : Int32) < (6 : Int32)))).2.1 490 (by decide) rfl <| ziL X11 Hb d27_490 rfl <| zsp X11 Hb d27_492 255 rfl ?_
              refine zan X11 Hb d27_495 <| ziS X11 Hb (L' := (own_F7 b (6 : Int32) (6 : Int32) d (3 : Int32) (1 : Int32) (yt &&& (255 : Int32)) yc yd ye cw)) d27_496 rfl <| ziL X11 Hb d27_498 rfl <| zsp X11 Hb d27_500 244 rfl ?_
              exact k
            by_cases hc503_26 : (244 : Int32) < (yt &&& (255 : Int32))
            · obtain ⟨_, T27, Lc27, X27, hQ27, st27⟩ := own_cS X11 Hb hZ hown hml (L := (own_F7 b (6 : Int32) (6 : Int32) d (4 : Int32) (1 : Int32) (yt &&& (255 : Int32)) yc yd ye cw)) rfl (rm19_3 hw d (65533 : Int32) kd (12 : Int32) ua ub (own_lo (own_hs cw)) (own_hi (own_hs cw)) (own_lo (own_ls cw)) (own_hi (own_ls cw)) (0 : Int32) (0 : Int32) [.int 0, .int 0, .int 0, .int 0] O SU V_d_c11 (by decide) (by decide) g_d) (W 160 rfl) (W 111 rfl) (W 21 rfl) (W 112 rfl) pd2 rfl d27_546 [.ref d, .int 3, .int 65533] [] rfl rfl (by decide) 0 rfl (by decide)
              obtain ⟨rfl, N27q, K27, V_d_c27⟩ := hQ27
              have N27 := Fr.app N11 N27q
              have V_b := V_b.keep K27 (ninS nbd nin0)
              have O := O.keep K27 (allS g_d all0)
              have K := K.trans K27 (allS (Or.inl (List.mem_of_getElem? (i := 0) rfl)) all0)
              have w28 : own_Go p e below f0 T27 m 623 (own_F7 b (6 : Int32) (6 : Int32) d (4 : Int32) (1 : Int32) (yt &&& (255 : Int32)) yc yd ye cw) [.int 4] := fun t k => by
                refine w25 t ?_
                refine zcy X11 Hb d27_503 (tlt hc503_26).2.2.1 526 (by decide) rfl <| ziL X11 Hb d27_526 rfl <| ziy X11 Hb d27_528 ((if0 _ _).trans (feq ((by decide) : ¬ ((1 : Int32) = (0 : Int32)))).2) 538 (by decide) rfl <| zal X11 Hb d27_538 rfl rfl <| ziL X11 Hb d27_539 rfl <| zii X11 Hb (L' := (own_F7 b (6 : Int32) (6 : Int32) d (4 : Int32) (1 : Int32) (yt &&& (255 : Int32)) yc yd ye cw)) d27_541 rfl 4 rfl rfl <| X11.ldcInt hx hown (mvT hZ (W 165 rfl)) (g := (mkF m 544 (own_F7 b (6 : Int32) (6 : Int32) d (4 : Int32) (1 : Int32) (yt &&& (255 : Int32)) yc yd ye cw) [.int 3, .ref d])) rfl (hb hby d27_544) _ <| st27 _ ?_
                refine zgo X27 Hb d27_549 0 (by decide) rfl <| zil X27 Hb d27_0 rfl <| zil X27 Hb d27_1 rfl <| zcy X27 Hb d27_2 (flt ((by decide) : ¬ ((6 : Int32) < (6 : Int32)))).2.1 621 (by decide) rfl <| ziL X27 Hb d27_621 rfl ?_
                exact k
              exact own_oI X27 Hb Bd.notSynchronized Bd.returns w28 d27_623 rfl (by decide) (by decide) ⟨rfl, N27, K, (by rw [own_tlP hc15_14]; exact V_d_c27)⟩
            · obtain ⟨_, T29, Lc29, X29, hQ29, st29⟩ := own_cS X11 Hb hZ hown hml (L := (own_F7 b (7 : Int32) (6 : Int32) d (4 : Int32) (1 : Int32) (yt &&& (255 : Int32)) yc yd ye cw)) rfl (rm19_3 hw d (65533 : Int32) kd (12 : Int32) ua ub (own_lo (own_hs cw)) (own_hi (own_hs cw)) (own_lo (own_ls cw)) (own_hi (own_ls cw)) (0 : Int32) (0 : Int32) [.int 0, .int 0, .int 0, .int 0] O SU V_d_c11 (by decide) (by decide) g_d) (W 160 rfl) (W 111 rfl) (W 21 rfl) (W 112 rfl) pd2 rfl d27_575 [.ref d, .int 3, .int 65533] [] rfl rfl (by decide) 0 rfl (by decide)
              obtain ⟨rfl, N29q, K29, V_d_c29⟩ := hQ29
              have N29 := Fr.app N11 N29q
              have V_b := V_b.keep K29 (ninS nbd nin0)
              have O := O.keep K29 (allS g_d all0)
              have K := K.trans K29 (allS (Or.inl (List.mem_of_getElem? (i := 0) rfl)) all0)
              have w30 : own_Go p e below f0 T29 m 623 (own_F7 b (7 : Int32) (6 : Int32) d (4 : Int32) (1 : Int32) (yt &&& (255 : Int32)) yc yd ye cw) [.int 4] := fun t k => by
                refine w25 t ?_
                refine zcn X11 Hb d27_503 (flt hc503_26).2.2.1 <| zil X11 Hb d27_506 rfl <| zil X11 Hb d27_507 rfl <| zcy X11 Hb d27_508 (flt ((by decide) : ¬ ((6 : Int32) < (6 : Int32)))).2.1 552 (by decide) rfl <| ziL X11 Hb d27_552 rfl <| ziy X11 Hb d27_554 ((if0 _ _).trans (feq ((by decide) : ¬ ((1 : Int32) = (0 : Int32)))).2) 564 (by decide) rfl <| zii X11 Hb (L' := (own_F7 b (7 : Int32) (6 : Int32) d (3 : Int32) (1 : Int32) (yt &&& (255 : Int32)) yc yd ye cw)) d27_564 rfl 7 rfl rfl <| zal X11 Hb d27_567 rfl rfl ?_
                refine ziL X11 Hb d27_568 rfl <| zii X11 Hb (L' := (own_F7 b (7 : Int32) (6 : Int32) d (4 : Int32) (1 : Int32) (yt &&& (255 : Int32)) yc yd ye cw)) d27_570 rfl 4 rfl rfl <| X11.ldcInt hx hown (mvT hZ (W 165 rfl)) (g := (mkF m 573 (own_F7 b (7 : Int32) (6 : Int32) d (4 : Int32) (1 : Int32) (yt &&& (255 : Int32)) yc yd ye cw) [.int 3, .ref d])) rfl (hb hby d27_573) _ <| st29 _ <| zil X29 Hb d27_578 rfl <| zil X29 Hb d27_579 rfl <| zcy X29 Hb d27_580 (flt ((by decide) : ¬ ((7 : Int32) < (6 : Int32)))).2.1 621 (by decide) rfl <| ziL X29 Hb d27_621 rfl ?_
                exact k
              exact own_oI X29 Hb Bd.notSynchronized Bd.returns w30 d27_623 rfl (by decide) (by decide) ⟨rfl, N29, K, (by rw [own_tlP hc15_14]; exact V_d_c29)⟩
          · obtain ⟨_, T31, Lc31, X31, hQ31, st31⟩ := own_cS X11 Hb hZ hown hml (L := (own_F7 b (6 : Int32) (6 : Int32) d (4 : Int32) (1 : Int32) yt yc yd ye cw)) rfl (rm19_3 hw d (65533 : Int32) kd (12 : Int32) ua ub (own_lo (own_hs cw)) (own_hi (own_hs cw)) (own_lo (own_ls cw)) (own_hi (own_ls cw)) (0 : Int32) (0 : Int32) [.int 0, .int 0, .int 0, .int 0] O SU V_d_c11 (by decide) (by decide) g_d) (W 160 rfl) (W 111 rfl) (W 21 rfl) (W 112 rfl) pd2 rfl d27_615 [.ref d, .int 3, .int 65533] [] rfl rfl (by decide) 0 rfl (by decide)
            obtain ⟨rfl, N31q, K31, V_d_c31⟩ := hQ31
            have N31 := Fr.app N11 N31q
            have V_b := V_b.keep K31 (ninS nbd nin0)
            have O := O.keep K31 (allS g_d all0)
            have K := K.trans K31 (allS (Or.inl (List.mem_of_getElem? (i := 0) rfl)) all0)
            have w32 : own_Go p e below f0 T31 m 623 (own_F7 b (6 : Int32) (6 : Int32) d (4 : Int32) (1 : Int32) yt yc yd ye cw) [.int 4] := fun t k => by
              refine w23 t ?_
              refine zcy X11 Hb d27_355 (feq hc355_24).2 595 (by decide) rfl <| ziL X11 Hb d27_595 rfl <| ziy X11 Hb d27_597 ((if0 _ _).trans (feq ((by decide) : ¬ ((1 : Int32) = (0 : Int32)))).2) 607 (by decide) rfl <| zal X11 Hb d27_607 rfl rfl <| ziL X11 Hb d27_608 rfl <| zii X11 Hb (L' := (own_F7 b (6 : Int32) (6 : Int32) d (4 : Int32) (1 : Int32) yt yc yd ye cw)) d27_610 rfl 4 rfl rfl <| X11.ldcInt hx hown (mvT hZ (W 165 rfl)) (g := (mkF m 613 (own_F7 b (6 : Int32) (6 : Int32) d (4 : Int32) (1 : Int32) yt yc yd ye cw) [.int 3, .ref d])) rfl (hb hby d27_613) _ <| st31 _ ?_
              refine zgo X31 Hb d27_618 0 (by decide) rfl <| zil X31 Hb d27_0 rfl <| zil X31 Hb d27_1 rfl <| zcy X31 Hb d27_2 (flt ((by decide) : ¬ ((6 : Int32) < (6 : Int32)))).2.1 621 (by decide) rfl <| ziL X31 Hb d27_621 rfl ?_
              exact k
            exact own_oI X31 Hb Bd.notSynchronized Bd.returns w32 d27_623 rfl (by decide) (by decide) ⟨rfl, N31, K, (by rw [own_tlP hc15_14]; exact V_d_c31)⟩
      · obtain ⟨_, T33, Lc33, X33, hQ33, st33⟩ := own_cS X11 Hb hZ hown hml (L := (own_F7 b (6 : Int32) (6 : Int32) d (4 : Int32) (1 : Int32) yt yc yd ye cw)) rfl (rm19_3 hw d (65533 : Int32) kd (12 : Int32) ua ub (own_lo (own_hs cw)) (own_hi (own_hs cw)) (own_lo (own_ls cw)) (own_hi (own_ls cw)) (0 : Int32) (0 : Int32) [.int 0, .int 0, .int 0, .int 0] O SU V_d_c11 (by decide) (by decide) g_d) (W 160 rfl) (W 111 rfl) (W 21 rfl) (W 112 rfl) pd2 rfl d27_137 [.ref d, .int 3, .int 65533] [] rfl rfl (by decide) 0 rfl (by decide)
        obtain ⟨rfl, N33q, K33, V_d_c33⟩ := hQ33
        have N33 := Fr.app N11 N33q
        have V_b := V_b.keep K33 (ninS nbd nin0)
        have O := O.keep K33 (allS g_d all0)
        have K := K.trans K33 (allS (Or.inl (List.mem_of_getElem? (i := 0) rfl)) all0)
        have w34 : own_Go p e below f0 T33 m 623 (own_F7 b (6 : Int32) (6 : Int32) d (4 : Int32) (1 : Int32) yt yc yd ye cw) [.int 4] := fun t k => by
          refine w17 t ?_
          refine zin X11 Hb d27_47 ((if0 _ _).trans (feq hc47_18).1) <| zil X11 Hb d27_50 rfl <| zil X11 Hb d27_51 rfl <| zcy X11 Hb d27_52 (flt ((by decide) : ¬ ((6 : Int32) < (6 : Int32)))).2.1 119 (by decide) rfl <| ziL X11 Hb d27_119 rfl <| ziy X11 Hb d27_121 ((if0 _ _).trans (feq ((by decide) : ¬ ((1 : Int32) = (0 : Int32)))).2) 129 (by decide) rfl <| zal X11 Hb d27_129 rfl rfl <| ziL X11 Hb d27_130 rfl ?_
          refine zii X11 Hb (L' := (own_F7 b (6 : Int32) (6 : Int32) d (4 : Int32) (1 : Int32) yt yc yd ye cw)) d27_132 rfl 4 rfl rfl <| X11.ldcInt hx hown (mvT hZ (W 165 rfl)) (g := (mkF m 135 (own_F7 b (6 : Int32) (6 : Int32) d (4 : Int32) (1 : Int32) yt yc yd ye cw) [.int 3, .ref d])) rfl (hb hby d27_135) _ <| st33 _ <| zgo X33 Hb d27_140 621 (by decide) rfl <| ziL X33 Hb d27_621 rfl ?_
          exact k
        exact own_oI X33 Hb Bd.notSynchronized Bd.returns w34 d27_623 rfl (by decide) (by decide) ⟨rfl, N33, K, (by rw [own_tlP hc15_14]; exact V_d_c33)⟩
    · have w35 : own_Go p e below f0 T11 m 149 (own_F7 b (6 : Int32) (6 : Int32) d (3 : Int32) (1 : Int32) yt yc yd ye cw) [.int (-2), (.int (yt >>> ((4 : Int32) &&& 31)))] := fun t k => by
        refine w15 t ?_
        refine zcy X11 Hb d27_39 (feq hc39_16).2 143 (by decide) rfl <| ziL X11 Hb d27_143 rfl <| zic X11 Hb d27_145 4 rfl <| zsr X11 Hb d27_146 <| zbp X11 Hb d27_147 (-2) rfl ?_
        exact k
      by_cases hc149_36 : (yt >>> ((4 : Int32) &&& 31)) = (-2 : Int32)
      · obtain ⟨_, T37, Lc37, X37, hQ37, st37⟩ := own_cS X11 Hb hZ hown hml (L := (own_F7 b (6 : Int32) (6 : Int32) d (4 : Int32) (1 : Int32) yt yc yd ye cw)) rfl (rm19_3 hw d (65533 : Int32) kd (12 : Int32) ua ub (own_lo (own_hs cw)) (own_hi (own_hs cw)) (own_lo (own_ls cw)) (own_hi (own_ls cw)) (0 : Int32) (0 : Int32) [.int 0, .int 0, .int 0, .int 0] O SU V_d_c11 (by decide) (by decide) g_d) (W 160 rfl) (W 111 rfl) (W 21 rfl) (W 112 rfl) pd2 rfl d27_343 [.ref d, .int 3, .int 65533] [] rfl rfl (by decide) 0 rfl (by decide)
        obtain ⟨rfl, N37q, K37, V_d_c37⟩ := hQ37
        have N37 := Fr.app N11 N37q
        have V_b := V_b.keep K37 (ninS nbd nin0)
        have O := O.keep K37 (allS g_d all0)
        have K := K.trans K37 (allS (Or.inl (List.mem_of_getElem? (i := 0) rfl)) all0)
        have w38 : own_Go p e below f0 T37 m 623 (own_F7 b (6 : Int32) (6 : Int32) d (4 : Int32) (1 : Int32) yt yc yd ye cw) [.int 4] := fun t k => by
          refine w35 t ?_
          refine zcn X11 Hb d27_149 (teq hc149_36).2 <| zil X11 Hb d27_152 rfl <| zic X11 Hb d27_153 1 rfl <| zia' X11 Hb d27_154 7 rfl <| zil X11 Hb d27_155 rfl <| zcy X11 Hb d27_156 (flt ((by decide) : ¬ ((7 : Int32) < (6 : Int32)))).2.1 283 (by decide) rfl <| zil X11 Hb d27_283 rfl <| zil X11 Hb d27_284 rfl ?_
          refine zcy X11 Hb d27_285 (flt ((by decide) : ¬ ((6 : Int32) < (6 : Int32)))).2.1 325 (by decide) rfl <| ziL X11 Hb d27_325 rfl <| ziy X11 Hb d27_327 ((if0 _ _).trans (feq ((by decide) : ¬ ((1 : Int32) = (0 : Int32)))).2) 335 (by decide) rfl <| zal X11 Hb d27_335 rfl rfl <| ziL X11 Hb d27_336 rfl <| zii X11 Hb (L' := (own_F7 b (6 : Int32) (6 : Int32) d (4 : Int32) (1 : Int32) yt yc yd ye cw)) d27_338 rfl 4 rfl rfl <| X11.ldcInt hx hown (mvT hZ (W 165 rfl)) (g := (mkF m 341 (own_F7 b (6 : Int32) (6 : Int32) d (4 : Int32) (1 : Int32) yt yc yd ye cw) [.int 3, .ref d])) rfl (hb hby d27_341) _ <| st37 _ ?_
          refine zgo X37 Hb d27_346 621 (by decide) rfl <| ziL X37 Hb d27_621 rfl ?_
          exact k
        exact own_oI X37 Hb Bd.notSynchronized Bd.returns w38 d27_623 rfl (by decide) (by decide) ⟨rfl, N37, K, (by rw [own_tlP hc15_14]; exact V_d_c37)⟩
      · have w39 : own_Go p e below f0 T11 m 355 (own_F7 b (6 : Int32) (6 : Int32) d (3 : Int32) (1 : Int32) yt yc yd ye cw) [.int (-2), (.int (yt >>> ((3 : Int32) &&& 31)))] := fun t k => by
          refine w35 t ?_
          refine zcy X11 Hb d27_149 (feq hc149_36).2 349 (by decide) rfl <| ziL X11 Hb d27_349 rfl <| zic X11 Hb d27_351 3 rfl <| zsr X11 Hb d27_352 <| zbp X11 Hb d27_353 (-2) rfl ?_
          exact k
        by_cases hc355_40 : (yt >>> ((3 : Int32) &&& 31)) = (-2 : Int32)
        · have w41 : own_Go p e below f0 T11 m 503 (own_F7 b (6 : Int32) (6 : Int32) d (3 : Int32) (1 : Int32) (yt &&& (255 : Int32)) yc yd ye cw) [.int 244, (.int (yt &&& (255 : Int32)))] := fun t k => by
            refine w39 t ?_
            refine zcn X11 Hb d27_355 (teq hc355_40).2 <| zil X11 Hb d27_358 rfl <| zic X11 Hb d27_359 2 rfl <| zia' X11 Hb d27_360 8 rfl <| zil X11 Hb d27_361 rfl <| zcy X11 Hb d27_362 (flt ((by decide) : ¬ ((8 : Int32) < (6 : Int32)))).2.1 490 (by decide) rfl <| ziL X11 Hb d27_490 rfl <| zsp X11 Hb d27_492 255 rfl ?_
            refine zan X11 Hb d27_495 <| ziS X11 Hb (L' := (own_F7 b (6 : Int32) (6 : Int32) d (3 : Int32) (1 : Int32) (yt &&& (255 : Int32)) yc yd ye cw)) d27_496 rfl <| ziL X11 Hb d27_498 rfl <| zsp X11 Hb d27_500 244 rfl ?_
            exact k
          by_cases hc503_42 : (244 : Int32) < (yt &&& (255 : Int32))
          · obtain ⟨_, T43, Lc43, X43, hQ43, st43⟩ := own_cS X11 Hb hZ hown hml (L := (own_F7 b (6 : Int32) (6 : Int32) d (4 : Int32) (1 : Int32) (yt &&& (255 : Int32)) yc yd ye cw)) rfl (rm19_3 hw d (65533 : Int32) kd (12 : Int32) ua ub (own_lo (own_hs cw)) (own_hi (own_hs cw)) (own_lo (own_ls cw)) (own_hi (own_ls cw)) (0 : Int32) (0 : Int32) [.int 0, .int 0, .int 0, .int 0] O SU V_d_c11 (by decide) (by decide) g_d) (W 160 rfl) (W 111 rfl) (W 21 rfl) (W 112 rfl) pd2 rfl d27_546 [.ref d, .int 3, .int 65533] [] rfl rfl (by decide) 0 rfl (by decide)
            obtain ⟨rfl, N43q, K43, V_d_c43⟩ := hQ43
            have N43 := Fr.app N11 N43q
            have V_b := V_b.keep K43 (ninS nbd nin0)
            have O := O.keep K43 (allS g_d all0)
            have K := K.trans K43 (allS (Or.inl (List.mem_of_getElem? (i := 0) rfl)) all0)
            have w44 : own_Go p e below f0 T43 m 623 (own_F7 b (6 : Int32) (6 : Int32) d (4 : Int32) (1 : Int32) (yt &&& (255 : Int32)) yc yd ye cw) [.int 4] := fun t k => by
              refine w41 t ?_
              refine zcy X11 Hb d27_503 (tlt hc503_42).2.2.1 526 (by decide) rfl <| ziL X11 Hb d27_526 rfl <| ziy X11 Hb d27_528 ((if0 _ _).trans (feq ((by decide) : ¬ ((1 : Int32) = (0 : Int32)))).2) 538 (by decide) rfl <| zal X11 Hb d27_538 rfl rfl <| ziL X11 Hb d27_539 rfl <| zii X11 Hb (L' := (own_F7 b (6 : Int32) (6 : Int32) d (4 : Int32) (1 : Int32) (yt &&& (255 : Int32)) yc yd ye cw)) d27_541 rfl 4 rfl rfl <| X11.ldcInt hx hown (mvT hZ (W 165 rfl)) (g := (mkF m 544 (own_F7 b (6 : Int32) (6 : Int32) d (4 : Int32) (1 : Int32) (yt &&& (255 : Int32)) yc yd ye cw) [.int 3, .ref d])) rfl (hb hby d27_544) _ <| st43 _ ?_
              refine zgo X43 Hb d27_549 0 (by decide) rfl <| zil X43 Hb d27_0 rfl <| zil X43 Hb d27_1 rfl <| zcy X43 Hb d27_2 (flt ((by decide) : ¬ ((6 : Int32) < (6 : Int32)))).2.1 621 (by decide) rfl <| ziL X43 Hb d27_621 rfl ?_
              exact k
            exact own_oI X43 Hb Bd.notSynchronized Bd.returns w44 d27_623 rfl (by decide) (by decide) ⟨rfl, N43, K, (by rw [own_tlP hc15_14]; exact V_d_c43)⟩
          · obtain ⟨_, T45, Lc45, X45, hQ45, st45⟩ := own_cS X11 Hb hZ hown hml (L := (own_F7 b (7 : Int32) (6 : Int32) d (4 : Int32) (1 : Int32) (yt &&& (255 : Int32)) yc yd ye cw)) rfl (rm19_3 hw d (65533 : Int32) kd (12 : Int32) ua ub (own_lo (own_hs cw)) (own_hi (own_hs cw)) (own_lo (own_ls cw)) (own_hi (own_ls cw)) (0 : Int32) (0 : Int32) [.int 0, .int 0, .int 0, .int 0] O SU V_d_c11 (by decide) (by decide) g_d) (W 160 rfl) (W 111 rfl) (W 21 rfl) (W 112 rfl) pd2 rfl d27_575 [.ref d, .int 3, .int 65533] [] rfl rfl (by decide) 0 rfl (by decide)
            obtain ⟨rfl, N45q, K45, V_d_c45⟩ := hQ45
            have N45 := Fr.app N11 N45q
            have V_b := V_b.keep K45 (ninS nbd nin0)
            have O := O.keep K45 (allS g_d all0)
            have K := K.trans K45 (allS (Or.inl (List.mem_of_getElem? (i := 0) rfl)) all0)
            have w46 : own_Go p e below f0 T45 m 623 (own_F7 b (7 : Int32) (6 : Int32) d (4 : Int32) (1 : Int32) (yt &&& (255 : Int32)) yc yd ye cw) [.int 4] := fun t k => by
              refine w41 t ?_
              refine zcn X11 Hb d27_503 (flt hc503_42).2.2.1 <| zil X11 Hb d27_506 rfl <| zil X11 Hb d27_507 rfl <| zcy X11 Hb d27_508 (flt ((by decide) : ¬ ((6 : Int32) < (6 : Int32)))).2.1 552 (by decide) rfl <| ziL X11 Hb d27_552 rfl <| ziy X11 Hb d27_554 ((if0 _ _).trans (feq ((by decide) : ¬ ((1 : Int32) = (0 : Int32)))).2) 564 (by decide) rfl <| zii X11 Hb (L' := (own_F7 b (7 : Int32) (6 : Int32) d (3 : Int32) (1 : Int32) (yt &&& (255 : Int32)) yc yd ye cw)) d27_564 rfl 7 rfl rfl <| zal X11 Hb d27_567 rfl rfl ?_
              refine ziL X11 Hb d27_568 rfl <| zii X11 Hb (L' := (own_F7 b (7 : Int32) (6 : Int32) d (4 : Int32) (1 : Int32) (yt &&& (255 : Int32)) yc yd ye cw)) d27_570 rfl 4 rfl rfl <| X11.ldcInt hx hown (mvT hZ (W 165 rfl)) (g := (mkF m 573 (own_F7 b (7 : Int32) (6 : Int32) d (4 : Int32) (1 : Int32) (yt &&& (255 : Int32)) yc yd ye cw) [.int 3, .ref d])) rfl (hb hby d27_573) _ <| st45 _ <| zil X45 Hb d27_578 rfl <| zil X45 Hb d27_579 rfl <| zcy X45 Hb d27_580 (flt ((by decide) : ¬ ((7 : Int32) < (6 : Int32)))).2.1 621 (by decide) rfl <| ziL X45 Hb d27_621 rfl ?_
              exact k
            exact own_oI X45 Hb Bd.notSynchronized Bd.returns w46 d27_623 rfl (by decide) (by decide) ⟨rfl, N45, K, (by rw [own_tlP hc15_14]; exact V_d_c45)⟩
        · obtain ⟨_, T47, Lc47, X47, hQ47, st47⟩ := own_cS X11 Hb hZ hown hml (L := (own_F7 b (6 : Int32) (6 : Int32) d (4 : Int32) (1 : Int32) yt yc yd ye cw)) rfl (rm19_3 hw d (65533 : Int32) kd (12 : Int32) ua ub (own_lo (own_hs cw)) (own_hi (own_hs cw)) (own_lo (own_ls cw)) (own_hi (own_ls cw)) (0 : Int32) (0 : Int32) [.int 0, .int 0, .int 0, .int 0] O SU V_d_c11 (by decide) (by decide) g_d) (W 160 rfl) (W 111 rfl) (W 21 rfl) (W 112 rfl) pd2 rfl d27_615 [.ref d, .int 3, .int 65533] [] rfl rfl (by decide) 0 rfl (by decide)
          obtain ⟨rfl, N47q, K47, V_d_c47⟩ := hQ47
          have N47 := Fr.app N11 N47q
          have V_b := V_b.keep K47 (ninS nbd nin0)
          have O := O.keep K47 (allS g_d all0)
          have K := K.trans K47 (allS (Or.inl (List.mem_of_getElem? (i := 0) rfl)) all0)
          have w48 : own_Go p e below f0 T47 m 623 (own_F7 b (6 : Int32) (6 : Int32) d (4 : Int32) (1 : Int32) yt yc yd ye cw) [.int 4] := fun t k => by
            refine w39 t ?_
            refine zcy X11 Hb d27_355 (feq hc355_40).2 595 (by decide) rfl <| ziL X11 Hb d27_595 rfl <| ziy X11 Hb d27_597 ((if0 _ _).trans (feq ((by decide) : ¬ ((1 : Int32) = (0 : Int32)))).2) 607 (by decide) rfl <| zal X11 Hb d27_607 rfl rfl <| ziL X11 Hb d27_608 rfl <| zii X11 Hb (L' := (own_F7 b (6 : Int32) (6 : Int32) d (4 : Int32) (1 : Int32) yt yc yd ye cw)) d27_610 rfl 4 rfl rfl <| X11.ldcInt hx hown (mvT hZ (W 165 rfl)) (g := (mkF m 613 (own_F7 b (6 : Int32) (6 : Int32) d (4 : Int32) (1 : Int32) yt yc yd ye cw) [.int 3, .ref d])) rfl (hb hby d27_613) _ <| st47 _ ?_
            refine zgo X47 Hb d27_618 0 (by decide) rfl <| zil X47 Hb d27_0 rfl <| zil X47 Hb d27_1 rfl <| zcy X47 Hb d27_2 (flt ((by decide) : ¬ ((6 : Int32) < (6 : Int32)))).2.1 621 (by decide) rfl <| ziL X47 Hb d27_621 rfl ?_
            exact k
          exact own_oI X47 Hb Bd.notSynchronized Bd.returns w48 d27_623 rfl (by decide) (by decide) ⟨rfl, N47, K, (by rw [own_tlP hc15_14]; exact V_d_c47)⟩
  · obtain ⟨_, T49, Lc49, X49, hQ49, st49⟩ := own_cS X11 Hb hZ hown hml (L := (own_F7 b (6 : Int32) (6 : Int32) d (4 : Int32) (1 : Int32) yt yc yd ye cw)) rfl (rm19_3 hw d (yt.toUInt32.toUInt16.toUInt32.toInt32) kd (12 : Int32) ua ub (own_lo (own_hs cw)) (own_hi (own_hs cw)) (own_lo (own_ls cw)) (own_hi (own_ls cw)) (0 : Int32) (0 : Int32) [.int 0, .int 0, .int 0, .int 0] O SU V_d_c11 (by decide) (by decide) g_d) (W 160 rfl) (W 111 rfl) (W 21 rfl) (W 112 rfl) pd2 rfl d27_27 [.ref d, .int 3, .int (yt.toUInt32.toUInt16.toUInt32.toInt32)] [] rfl rfl (by decide) 0 rfl (by decide)
    obtain ⟨rfl, N49q, K49, V_d_c49⟩ := hQ49
    have N49 := Fr.app N11 N49q
    have V_b := V_b.keep K49 (ninS nbd nin0)
    have O := O.keep K49 (allS g_d all0)
    have K := K.trans K49 (allS (Or.inl (List.mem_of_getElem? (i := 0) rfl)) all0)
    have w50 : own_Go p e below f0 T49 m 623 (own_F7 b (6 : Int32) (6 : Int32) d (4 : Int32) (1 : Int32) yt yc yd ye cw) [.int 4] := fun t k => by
      refine w13 t ?_
      refine zin X11 Hb d27_15 ((if0 _ _).trans (flt hc15_14).1) <| zal X11 Hb d27_18 rfl rfl <| ziL X11 Hb d27_19 rfl <| zii X11 Hb (L' := (own_F7 b (6 : Int32) (6 : Int32) d (4 : Int32) (1 : Int32) yt yc yd ye cw)) d27_21 rfl 4 rfl rfl <| ziL X11 Hb d27_24 rfl <| zik X11 Hb d27_26 <| st49 _ <| zgo X49 Hb d27_30 618 (by decide) rfl ?_
      refine zgo X49 Hb d27_618 0 (by decide) rfl <| zil X49 Hb d27_0 rfl <| zil X49 Hb d27_1 rfl <| zcy X49 Hb d27_2 (flt ((by decide) : ¬ ((6 : Int32) < (6 : Int32)))).2.1 621 (by decide) rfl <| ziL X49 Hb d27_621 rfl ?_
      exact k
    exact own_oI X49 Hb Bd.notSynchronized Bd.returns w50 d27_623 rfl (by decide) (by decide) ⟨rfl, N49, K, (by rw [own_tlN hc15_14]; exact V_d_c49)⟩
abbrev B10 := jdk_31_method_10_code
theorem d10_0 : decode B10 0 = .ok (.aload_n 0, 1) := by decide +kernel
theorem d10_1 : decode B10 1 = .ok (.ifnonnull 11, 3) := by decide +kernel
theorem d10_12 : decode B10 12 = .ok (.aload_n 0, 1) := by decide +kernel
theorem d10_13 : decode B10 13 = .ok (.areturn, 1) := by decide +kernel
theorem pn_java_util_Objects : plainName "java/util/Objects" = true := by first | (simp [plainName, overriddenIn]; done) | decide +kernel
theorem rm10 {l : Launch} {Z : State} {a0 : Array Value} (hw : own_W a0 Z) (yy : Addr) {h0 : Heap} {n0 : Nat} (O0 : Old Z n0 h0) : own_M l own_n10 jdk_31_method_10_code 1 (some (.object "java/lang/Object")) (own_rm 0 0 0 0) Z h0 #[.ref yy] (fun v h L => v = some (.ref yy) ∧ Fr n0 L ∧ h = h0) := by
  refine own_body (L0 := #[.val (.ref yy)]) (plainFor_of_name pn_java_util_Objects) rfl rfl ?_
  intro p e s m below meth c s₁ f0 Bd hx Hb hml hZ hown X0 e0 pre0
  have hby := Hb.2
  have N0 := Fr.nil n0
  have O := O0
  have w1 : own_Go p e below f0 s₁ m 13 #[.val (.ref yy)] [.ref yy] := fun t k => by
    refine pre0 t ?_
    refine zal X0 Hb d10_0 rfl rfl <| XS.ifnonnullYes X0.here hx rfl (pc0 := 1) (pc' := 12) rfl (hb hby d10_1) rfl (by decide) (by decide) <| zal X0 Hb d10_12 rfl rfl ?_
    exact k
  exact own_oR X0 Hb Bd.notSynchronized Bd.returns rfl w1 d10_13 e0 (by decide) (by decide) ⟨rfl, N0, rfl⟩
abbrev B12 := jdk_123_method_3_code
theorem d12_0 : decode B12 0 = .ok (.iload_n 1, 1) := by decide +kernel
theorem d12_1 : decode B12 1 = .ok (.iload_n 2, 1) := by decide +kernel
theorem d12_2 : decode B12 2 = .ok (.iadd, 1) := by decide +kernel
theorem d12_3 : decode B12 3 = .ok (.istore_n 3, 1) := by decide +kernel
theorem d12_4 : decode B12 4 = .ok (.iload_n 1, 1) := by decide +kernel
theorem d12_5 : decode B12 5 = .ok (.istore 4, 2) := by decide +kernel
theorem d12_7 : decode B12 7 = .ok (.iload 4, 2) := by decide +kernel
theorem d12_9 : decode B12 9 = .ok (.iload_n 3, 1) := by decide +kernel
theorem d12_10 : decode B12 10 = .ok (.if_icmp .ge 21, 3) := by decide +kernel
theorem d12_13 : decode B12 13 = .ok (.aload_n 0, 1) := by decide +kernel
theorem d12_14 : decode B12 14 = .ok (.iload 4, 2) := by decide +kernel
theorem d12_16 : decode B12 16 = .ok (.baload, 1) := by decide +kernel
theorem d12_17 : decode B12 17 = .ok (.ifCond .ge 8, 3) := by decide +kernel
theorem d12_25 : decode B12 25 = .ok (.iinc 4 1, 3) := by decide +kernel
theorem d12_28 : decode B12 28 = .ok (.goto (-21), 3) := by decide +kernel
theorem d12_31 : decode B12 31 = .ok (.iload_n 2, 1) := by decide +kernel
theorem d12_32 : decode B12 32 = .ok (.ireturn, 1) := by decide +kernel
theorem pn_java_lang_StringCoding : plainName "java/lang/StringCoding" = true := by first | (simp [plainName, overriddenIn]; done) | decide +kernel
theorem rm12_3_3 {l : Launch} {Z : State} {a0 : Array Value} (hw : own_W a0 Z) (b : Addr) (kb : ClassId) (ya yb yt : Int32) {h0 : Heap} {n0 : Nat} (O0 : Old Z n0 h0) (V_b : Arv Z h0 b kb .byte (3 : Int32) [.int ya, .int yb, .int yt] (.int 0)) (nya : ¬ ya < (0 : Int32)) (nyb : ¬ yb < (0 : Int32)) (nyt : ¬ yt < (0 : Int32)) : own_M l own_n12 jdk_123_method_3_code 5 (some .int) (own_rm 0 0 0 0) Z h0 #[.ref b, .int 0, .int 3] (fun v h L => v = some (.int 3) ∧ Fr n0 L ∧ h = h0) := by
  refine own_body (L0 := #[.val (.ref b), .val (.int 0), .val (.int 3), .unset, .unset]) (plainFor_of_name pn_java_lang_StringCoding) rfl rfl ?_
  intro p e s m below meth c s₁ f0 Bd hx Hb hml hZ hown X0 e0 pre0
  have N0 := Fr.nil n0
  have O := O0
  have B1 : own_El Z h0 b .byte (0 : Int32) (.int ya) := own_el V_b ⟨by decide, by decide⟩ rfl
  have B2 : own_El Z h0 b .byte (1 : Int32) (.int yb) := own_el V_b ⟨by decide, by decide⟩ rfl
  have B3 : own_El Z h0 b .byte (2 : Int32) (.int yt) := own_el V_b ⟨by decide, by decide⟩ rfl
  have w4 : own_Go p e below f0 s₁ m 32 #[.val (.ref b), .val (.int 0), .val (.int 3), .val (.int 3), .val (.int 3)] [.int 3] := fun t k => by
    refine pre0 t ?_
    refine zil X0 Hb d12_0 rfl <| zil X0 Hb d12_1 rfl <| zia' X0 Hb d12_2 3 rfl <| zis X0 Hb (L' := #[.val (.ref b), .val (.int 0), .val (.int 3), .val (.int 3), .unset]) d12_3 rfl <| zil X0 Hb d12_4 rfl <| ziS X0 Hb d12_5 rfl <| ziL X0 Hb d12_7 rfl <| zil X0 Hb d12_9 rfl ?_
    refine zcn X0 Hb d12_10 (tlt ((by decide) : (0 : Int32) < (3 : Int32))).2.1 <| zal X0 Hb d12_13 rfl rfl <| ziL X0 Hb d12_14 rfl <| zba X0 Hb hZ e0 B1 d12_16 <| ziy X0 Hb d12_17 ((if0 _ _).trans (flt (nya : ¬ (ya < (0 : Int32)))).2.1) 25 (by decide) rfl <| zii X0 Hb d12_25 rfl 1 rfl rfl <| zgo X0 Hb d12_28 7 (by decide) rfl <| ziL X0 Hb d12_7 rfl ?_
    refine zil X0 Hb d12_9 rfl <| zcn X0 Hb d12_10 (tlt ((by decide) : (1 : Int32) < (3 : Int32))).2.1 <| zal X0 Hb d12_13 rfl rfl <| ziL X0 Hb d12_14 rfl <| zba X0 Hb hZ e0 B2 d12_16 <| ziy X0 Hb d12_17 ((if0 _ _).trans (flt (nyb : ¬ (yb < (0 : Int32)))).2.1) 25 (by decide) rfl <| zii X0 Hb d12_25 rfl 2 rfl rfl <| zgo X0 Hb d12_28 7 (by decide) rfl ?_
    refine ziL X0 Hb d12_7 rfl <| zil X0 Hb d12_9 rfl <| zcn X0 Hb d12_10 (tlt ((by decide) : (2 : Int32) < (3 : Int32))).2.1 <| zal X0 Hb d12_13 rfl rfl <| ziL X0 Hb d12_14 rfl <| zba X0 Hb hZ e0 B3 d12_16 <| ziy X0 Hb d12_17 ((if0 _ _).trans (flt (nyt : ¬ (yt < (0 : Int32)))).2.1) 25 (by decide) rfl <| zii X0 Hb d12_25 rfl 3 rfl rfl ?_
    refine zgo X0 Hb d12_28 7 (by decide) rfl <| ziL X0 Hb d12_7 rfl <| zil X0 Hb d12_9 rfl <| zcy X0 Hb d12_10 (flt ((by decide) : ¬ ((3 : Int32) < (3 : Int32)))).2.1 31 (by decide) rfl <| zil X0 Hb d12_31 rfl ?_
    exact k
  exact own_oI X0 Hb Bd.notSynchronized Bd.returns w4 d12_32 e0 (by decide) (by decide) ⟨rfl, N0, rfl⟩
theorem d12_20 : decode B12 20 = .ok (.iload 4, 2) := by decide +kernel
theorem d12_22 : decode B12 22 = .ok (.iload_n 1, 1) := by decide +kernel
theorem d12_23 : decode B12 23 = .ok (.isub, 1) := by decide +kernel
theorem d12_24 : decode B12 24 = .ok (.ireturn, 1) := by decide +kernel
theorem rm12_3_2 {l : Launch} {Z : State} {a0 : Array Value} (hw : own_W a0 Z) (b : Addr) (kb : ClassId) (ya yb yt : Int32) {h0 : Heap} {n0 : Nat} (O0 : Old Z n0 h0) (V_b : Arv Z h0 b kb .byte (3 : Int32) [.int ya, .int yb, .int yt] (.int 0)) (nya : ¬ ya < (0 : Int32)) (nyb : ¬ yb < (0 : Int32)) (hn : yt < (0 : Int32)) : own_M l own_n12 jdk_123_method_3_code 5 (some .int) (own_rm 0 0 0 0) Z h0 #[.ref b, .int 0, .int 3] (fun v h L => v = some (.int 2) ∧ Fr n0 L ∧ h = h0) := by
  refine own_body (L0 := #[.val (.ref b), .val (.int 0), .val (.int 3), .unset, .unset]) (plainFor_of_name pn_java_lang_StringCoding) rfl rfl ?_
  intro p e s m below meth c s₁ f0 Bd hx Hb hml hZ hown X0 e0 pre0
  have N0 := Fr.nil n0
  have O := O0
  have B1 : own_El Z h0 b .byte (0 : Int32) (.int ya) := own_el V_b ⟨by decide, by decide⟩ rfl
  have B2 : own_El Z h0 b .byte (1 : Int32) (.int yb) := own_el V_b ⟨by decide, by decide⟩ rfl
  have B3 : own_El Z h0 b .byte (2 : Int32) (.int yt) := own_el V_b ⟨by decide, by decide⟩ rfl
  have w4 : own_Go p e below f0 s₁ m 24 #[.val (.ref b), .val (.int 0), .val (.int 3), .val (.int 3), .val (.int 2)] [.int 2] := fun t k => by
    refine pre0 t ?_
    refine zil X0 Hb d12_0 rfl <| zil X0 Hb d12_1 rfl <| zia' X0 Hb d12_2 3 rfl <| zis X0 Hb (L' := #[.val (.ref b), .val (.int 0), .val (.int 3), .val (.int 3), .unset]) d12_3 rfl <| zil X0 Hb d12_4 rfl <| ziS X0 Hb d12_5 rfl <| ziL X0 Hb d12_7 rfl <| zil X0 Hb d12_9 rfl ?_
    refine zcn X0 Hb d12_10 (tlt ((by decide) : (0 : Int32) < (3 : Int32))).2.1 <| zal X0 Hb d12_13 rfl rfl <| ziL X0 Hb d12_14 rfl <| zba X0 Hb hZ e0 B1 d12_16 <| ziy X0 Hb d12_17 ((if0 _ _).trans (flt (nya : ¬ (ya < (0 : Int32)))).2.1) 25 (by decide) rfl <| zii X0 Hb d12_25 rfl 1 rfl rfl <| zgo X0 Hb d12_28 7 (by decide) rfl <| ziL X0 Hb d12_7 rfl ?_
    refine zil X0 Hb d12_9 rfl <| zcn X0 Hb d12_10 (tlt ((by decide) : (1 : Int32) < (3 : Int32))).2.1 <| zal X0 Hb d12_13 rfl rfl <| ziL X0 Hb d12_14 rfl <| zba X0 Hb hZ e0 B2 d12_16 <| ziy X0 Hb d12_17 ((if0 _ _).trans (flt (nyb : ¬ (yb < (0 : Int32)))).2.1) 25 (by decide) rfl <| zii X0 Hb d12_25 rfl 2 rfl rfl <| zgo X0 Hb d12_28 7 (by decide) rfl ?_
    refine ziL X0 Hb d12_7 rfl <| zil X0 Hb d12_9 rfl <| zcn X0 Hb d12_10 (tlt ((by decide) : (2 : Int32) < (3 : Int32))).2.1 <| zal X0 Hb d12_13 rfl rfl <| ziL X0 Hb d12_14 rfl <| zba X0 Hb hZ e0 B3 d12_16 <| zin X0 Hb d12_17 ((if0 _ _).trans (tlt (hn : yt < (0 : Int32))).2.1) <| ziL X0 Hb d12_20 rfl ?_
    refine zil X0 Hb d12_22 rfl <| zsu' X0 Hb d12_23 2 rfl ?_
    exact k
  exact own_oI X0 Hb Bd.notSynchronized Bd.returns w4 d12_24 e0 (by decide) (by decide) ⟨rfl, N0, rfl⟩
theorem rm12_4_1 {l : Launch} {Z : State} {a0 : Array Value} (hw : own_W a0 Z) (b : Addr) (kb : ClassId) (ya yb yc yt : Int32) {h0 : Heap} {n0 : Nat} (O0 : Old Z n0 h0) (V_b : Arv Z h0 b kb .byte (4 : Int32) [.int ya, .int yb, .int yc, .int yt] (.int 0)) (nya : ¬ ya < (0 : Int32)) (hn : yb < (0 : Int32)) : own_M l own_n12 jdk_123_method_3_code 5 (some .int) (own_rm 0 0 0 0) Z h0 #[.ref b, .int 0, .int 4] (fun v h L => v = some (.int 1) ∧ Fr n0 L ∧ h = h0) := by
  refine own_body (L0 := #[.val (.ref b), .val (.int 0), .val (.int 4), .unset, .unset]) (plainFor_of_name pn_java_lang_StringCoding) rfl rfl ?_
  intro p e s m below meth c s₁ f0 Bd hx Hb hml hZ hown X0 e0 pre0
  have N0 := Fr.nil n0
  have O := O0
  have B1 : own_El Z h0 b .byte (0 : Int32) (.int ya) := own_el V_b ⟨by decide, by decide⟩ rfl
  have B2 : own_El Z h0 b .byte (1 : Int32) (.int yb) := own_el V_b ⟨by decide, by decide⟩ rfl
  have w3 : own_Go p e below f0 s₁ m 24 #[.val (.ref b), .val (.int 0), .val (.int 4), .val (.int 4), .val (.int 1)] [.int 1] := fun t k => by
    refine pre0 t ?_
    refine zil X0 Hb d12_0 rfl <| zil X0 Hb d12_1 rfl <| zia' X0 Hb d12_2 4 rfl <| zis X0 Hb (L' := #[.val (.ref b), .val (.int 0), .val (.int 4), .val (.int 4), .unset]) d12_3 rfl <| zil X0 Hb d12_4 rfl <| ziS X0 Hb d12_5 rfl <| ziL X0 Hb d12_7 rfl <| zil X0 Hb d12_9 rfl ?_
    refine zcn X0 Hb d12_10 (tlt ((by decide) : (0 : Int32) < (4 : Int32))).2.1 <| zal X0 Hb d12_13 rfl rfl <| ziL X0 Hb d12_14 rfl <| zba X0 Hb hZ e0 B1 d12_16 <| ziy X0 Hb d12_17 ((if0 _ _).trans (flt (nya : ¬ (ya < (0 : Int32)))).2.1) 25 (by decide) rfl <| zii X0 Hb d12_25 rfl 1 rfl rfl <| zgo X0 Hb d12_28 7 (by decide) rfl <| ziL X0 Hb d12_7 rfl ?_
    refine zil X0 Hb d12_9 rfl <| zcn X0 Hb d12_10 (tlt ((by decide) : (1 : Int32) < (4 : Int32))).2.1 <| zal X0 Hb d12_13 rfl rfl <| ziL X0 Hb d12_14 rfl <| zba X0 Hb hZ e0 B2 d12_16 <| zin X0 Hb d12_17 ((if0 _ _).trans (tlt (hn : yb < (0 : Int32))).2.1) <| ziL X0 Hb d12_20 rfl <| zil X0 Hb d12_22 rfl ?_
    refine zsu' X0 Hb d12_23 1 rfl ?_
    exact k
  exact own_oI X0 Hb Bd.notSynchronized Bd.returns w3 d12_24 e0 (by decide) (by decide) ⟨rfl, N0, rfl⟩
theorem rm12_5_1 {l : Launch} {Z : State} {a0 : Array Value} (hw : own_W a0 Z) (b : Addr) (kb : ClassId) (ya yb yc yd yt : Int32) {h0 : Heap} {n0 : Nat} (O0 : Old Z n0 h0) (V_b : Arv Z h0 b kb .byte (5 : Int32) [.int ya, .int yb, .int yc, .int yd, .int yt] (.int 0)) (nya : ¬ ya < (0 : Int32)) (hn : yb < (0 : Int32)) : own_M l own_n12 jdk_123_method_3_code 5 (some .int) (own_rm 0 0 0 0) Z h0 #[.ref b, .int 0, .int 5] (fun v h L => v = some (.int 1) ∧ Fr n0 L ∧ h = h0) := by
  refine own_body (L0 := #[.val (.ref b), .val (.int 0), .val (.int 5), .unset, .unset]) (plainFor_of_name pn_java_lang_StringCoding) rfl rfl ?_
  intro p e s m below meth c s₁ f0 Bd hx Hb hml hZ hown X0 e0 pre0
  have N0 := Fr.nil n0
  have O := O0
  have B1 : own_El Z h0 b .byte (0 : Int32) (.int ya) := own_el V_b ⟨by decide, by decide⟩ rfl
  have B2 : own_El Z h0 b .byte (1 : Int32) (.int yb) := own_el V_b ⟨by decide, by decide⟩ rfl
  have w3 : own_Go p e below f0 s₁ m 24 #[.val (.ref b), .val (.int 0), .val (.int 5), .val (.int 5), .val (.int 1)] [.int 1] := fun t k => by
    refine pre0 t ?_
    refine zil X0 Hb d12_0 rfl <| zil X0 Hb d12_1 rfl <| zia' X0 Hb d12_2 5 rfl <| zis X0 Hb (L' := #[.val (.ref b), .val (.int 0), .val (.int 5), .val (.int 5), .unset]) d12_3 rfl <| zil X0 Hb d12_4 rfl <| ziS X0 Hb d12_5 rfl <| ziL X0 Hb d12_7 rfl <| zil X0 Hb d12_9 rfl ?_
    refine zcn X0 Hb d12_10 (tlt ((by decide) : (0 : Int32) < (5 : Int32))).2.1 <| zal X0 Hb d12_13 rfl rfl <| ziL X0 Hb d12_14 rfl <| zba X0 Hb hZ e0 B1 d12_16 <| ziy X0 Hb d12_17 ((if0 _ _).trans (flt (nya : ¬ (ya < (0 : Int32)))).2.1) 25 (by decide) rfl <| zii X0 Hb d12_25 rfl 1 rfl rfl <| zgo X0 Hb d12_28 7 (by decide) rfl <| ziL X0 Hb d12_7 rfl ?_
    refine zil X0 Hb d12_9 rfl <| zcn X0 Hb d12_10 (tlt ((by decide) : (1 : Int32) < (5 : Int32))).2.1 <| zal X0 Hb d12_13 rfl rfl <| ziL X0 Hb d12_14 rfl <| zba X0 Hb hZ e0 B2 d12_16 <| zin X0 Hb d12_17 ((if0 _ _).trans (tlt (hn : yb < (0 : Int32))).2.1) <| ziL X0 Hb d12_20 rfl <| zil X0 Hb d12_22 rfl ?_
    refine zsu' X0 Hb d12_23 1 rfl ?_
    exact k
  exact own_oI X0 Hb Bd.notSynchronized Bd.returns w3 d12_24 e0 (by decide) (by decide) ⟨rfl, N0, rfl⟩
theorem rm12_6_1 {l : Launch} {Z : State} {a0 : Array Value} (hw : own_W a0 Z) (b : Addr) (kb : ClassId) (ya yb yc yd ye yt : Int32) {h0 : Heap} {n0 : Nat} (O0 : Old Z n0 h0) (V_b : Arv Z h0 b kb .byte (6 : Int32) [.int ya, .int yb, .int yc, .int yd, .int ye, .int yt] (.int 0)) (nya : ¬ ya < (0 : Int32)) (hn : yb < (0 : Int32)) : own_M l own_n12 jdk_123_method_3_code 5 (some .int) (own_rm 0 0 0 0) Z h0 #[.ref b, .int 0, .int 6] (fun v h L => v = some (.int 1) ∧ Fr n0 L ∧ h = h0) := by
  refine own_body (L0 := #[.val (.ref b), .val (.int 0), .val (.int 6), .unset, .unset]) (plainFor_of_name pn_java_lang_StringCoding) rfl rfl ?_
  intro p e s m below meth c s₁ f0 Bd hx Hb hml hZ hown X0 e0 pre0
  have N0 := Fr.nil n0
  have O := O0
  have B1 : own_El Z h0 b .byte (0 : Int32) (.int ya) := own_el V_b ⟨by decide, by decide⟩ rfl
  have B2 : own_El Z h0 b .byte (1 : Int32) (.int yb) := own_el V_b ⟨by decide, by decide⟩ rfl
  have w3 : own_Go p e below f0 s₁ m 24 #[.val (.ref b), .val (.int 0), .val (.int 6), .val (.int 6), .val (.int 1)] [.int 1] := fun t k => by
    refine pre0 t ?_
    refine zil X0 Hb d12_0 rfl <| zil X0 Hb d12_1 rfl <| zia' X0 Hb d12_2 6 rfl <| zis X0 Hb (L' := #[.val (.ref b), .val (.int 0), .val (.int 6), .val (.int 6), .unset]) d12_3 rfl <| zil X0 Hb d12_4 rfl <| ziS X0 Hb d12_5 rfl <| ziL X0 Hb d12_7 rfl <| zil X0 Hb d12_9 rfl ?_
    refine zcn X0 Hb d12_10 (tlt ((by decide) : (0 : Int32) < (6 : Int32))).2.1 <| zal X0 Hb d12_13 rfl rfl <| ziL X0 Hb d12_14 rfl <| zba X0 Hb hZ e0 B1 d12_16 <| ziy X0 Hb d12_17 ((if0 _ _).trans (flt (nya : ¬ (ya < (0 : Int32)))).2.1) 25 (by decide) rfl <| zii X0 Hb d12_25 rfl 1 rfl rfl <| zgo X0 Hb d12_28 7 (by decide) rfl <| ziL X0 Hb d12_7 rfl ?_
    refine zil X0 Hb d12_9 rfl <| zcn X0 Hb d12_10 (tlt ((by decide) : (1 : Int32) < (6 : Int32))).2.1 <| zal X0 Hb d12_13 rfl rfl <| ziL X0 Hb d12_14 rfl <| zba X0 Hb hZ e0 B2 d12_16 <| zin X0 Hb d12_17 ((if0 _ _).trans (tlt (hn : yb < (0 : Int32))).2.1) <| ziL X0 Hb d12_20 rfl <| zil X0 Hb d12_22 rfl ?_
    refine zsu' X0 Hb d12_23 1 rfl ?_
    exact k
  exact own_oI X0 Hb Bd.notSynchronized Bd.returns w3 d12_24 e0 (by decide) (by decide) ⟨rfl, N0, rfl⟩
abbrev B11 := jdk_42_method_11_code
theorem d11_0 : decode B11 0 = .ok (.aload_n 0, 1) := by decide +kernel
theorem d11_1 : decode B11 1 = .ok (.invokespecial 1, 3) := by decide +kernel
def own_F8 (x0 : Addr) (x1 : Addr) (x2 : Addr) (x3 : Int32) (x4 : Int32) : Array Slot := #[.val (.ref x0), .val (.ref x1), .val (.ref x2), .val (.int x3), .val (.int x4), .unset, .unset, .unset, .unset, .unset, .unset]
theorem d11_4 : decode B11 4 = .ok (.iload 4, 2) := by decide +kernel
theorem d11_6 : decode B11 6 = .ok (.ifCond .ne 24, 3) := by decide +kernel
theorem d11_30 : decode B11 30 = .ok (.aload_n 1, 1) := by decide +kernel
theorem d11_31 : decode B11 31 = .ok (.getstatic 86, 3) := by decide +kernel
theorem d11_34 : decode B11 34 = .ok (.if_acmp .ne 312, 3) := by decide +kernel
theorem d11_37 : decode B11 37 = .ok (.getstatic 38, 3) := by decide +kernel
theorem d11_40 : decode B11 40 = .ok (.ifCond .eq 252, 3) := by decide +kernel
theorem d11_43 : decode B11 43 = .ok (.aload_n 2, 1) := by decide +kernel
theorem d11_44 : decode B11 44 = .ok (.iload_n 3, 1) := by decide +kernel
theorem d11_45 : decode B11 45 = .ok (.iload 4, 2) := by decide +kernel
theorem d11_47 : decode B11 47 = .ok (.invokestatic 92, 3) := by decide +kernel
theorem pd21 : parseMethodDescriptor "([BII)I" = some ⟨[(.array .byte), .int, .int], some .int⟩ := by decide +kernel
theorem d11_50 : decode B11 50 = .ok (.istore 5, 2) := by decide +kernel
def own_F9 (x0 : Addr) (x1 : Addr) (x2 : Addr) (x3 : Int32) (x4 : Int32) (x5 : Int32) : Array Slot := #[.val (.ref x0), .val (.ref x1), .val (.ref x2), .val (.int x3), .val (.int x4), .val (.int x5), .unset, .unset, .unset, .unset, .unset]
theorem d11_52 : decode B11 52 = .ok (.iload 5, 2) := by decide +kernel
theorem d11_54 : decode B11 54 = .ok (.iload 4, 2) := by decide +kernel
theorem d11_56 : decode B11 56 = .ok (.if_icmp .ne 22, 3) := by decide +kernel
theorem d11_59 : decode B11 59 = .ok (.aload_n 0, 1) := by decide +kernel
theorem d11_60 : decode B11 60 = .ok (.aload_n 2, 1) := by decide +kernel
theorem d11_61 : decode B11 61 = .ok (.iload_n 3, 1) := by decide +kernel
theorem d11_62 : decode B11 62 = .ok (.iload_n 3, 1) := by decide +kernel
theorem d11_63 : decode B11 63 = .ok (.iload 4, 2) := by decide +kernel
theorem d11_65 : decode B11 65 = .ok (.iadd, 1) := by decide +kernel
theorem d11_66 : decode B11 66 = .ok (.invokestatic 54, 3) := by decide +kernel
theorem pd22 : parseMethodDescriptor "([BII)[B" = some ⟨[(.array .byte), .int, .int], some (.array .byte)⟩ := by decide +kernel
theorem d11_69 : decode B11 69 = .ok (.putfield 9, 3) := by decide +kernel
theorem d11_72 : decode B11 72 = .ok (.aload_n 0, 1) := by decide +kernel
theorem d11_73 : decode B11 73 = .ok (.iconst 0, 1) := by decide +kernel
theorem d11_74 : decode B11 74 = .ok (.putfield 15, 3) := by decide +kernel
theorem d11_77 : decode B11 77 = .ok (.return_, 1) := by decide +kernel
theorem ef_11_A (m : MethodId) (x0 : Addr) (x1 : Addr) (x2 : Addr) : entryFrame m #[.ref x0, .ref x1, .ref x2, .int 0, .int 3] 11 = mkF m 0 #[.val (.ref x0), .val (.ref x1), .val (.ref x2), .val (.int 0), .val (.int 3), .unset, .unset, .unset, .unset, .unset, .unset] [] := by first | (simp [entryFrame, mkF, argsToLocals, Value.category]; done) | rfl
def Q11_A (Z : State) (a : Addr) (u8 : Addr) (b : Addr) (kb : ClassId) (ya : Int32) (yb : Int32) (yt : Int32) (h0 : Heap) (n0 : Nat) (v : Option Value) (h : Heap) (L : List Loc) : Prop := ∃ t1 : Addr, ∃ kt : ClassId, v = none ∧ Fr n0 L ∧ Keep h0 h [a] ∧ Fld Z h a "java/lang/String" "value" "[B" (.ref t1) ∧ Fld Z h a "java/lang/String" "coder" "B" (.int 0) ∧ Arv Z h t1 kt .byte (3 : Int32) [.int ya, .int yb, .int yt] (.int 0)
set_option maxRecDepth 65536 in
set_option maxHeartbeats 40000000 in
theorem rm11_A (l : Launch) (Z : State) (a0 : Array Value) (hw : ∀ d ∈ tables_1, d.before a0 Z = true) (ws : List Jvm.Cond) (a : Addr) (u8 : Addr) (b : Addr) (kb : ClassId) (ya : Int32) (yb : Int32) (yt : Int32) {zc : Int32} {fm : Value} (h0 : Heap) (n0 : Nat) (O0 : Old Z n0 h0) (SU : own_SU Z zc fm u8) (E_a : Exa Z h0 a "java/lang/String") (F_v_a : Fld Z h0 a "java/lang/String" "value" "[B" .null) (F_c_a : Fld Z h0 a "java/lang/String" "coder" "B" (.int 0)) (V_b : Arv Z h0 b kb .byte (3 : Int32) [.int ya, .int yb, .int yt] (.int 0)) (E_b : Exa Z h0 b "[B") (na : ¬ ya < (0 : Int32)) (nb : ¬ yb < (0 : Int32)) (nt : ¬ yt < (0 : Int32)) (g_a : n0 ≤ a) :
    MetFree l (⟨"java/lang/String", "<init>", "(Ljava/nio/charset/Charset;[BII)V"⟩ : MethodName) (head1 (Jvm.Cond.codeWith (⟨"java/lang/String", "<init>", "(Ljava/nio/charset/Charset;[BII)V"⟩ : MethodName) jdk_42_method_11_code 11 none [((800 : Nat), (813 : Nat), (816 : Nat), (202 : Nat))] :: ws) ({ frames := 2, cells := 1, slots := 6, locals := 29 } : Room)) (fun aA uU => aA = #[.ref a, .ref u8, .ref b, .int 0, .int 3] ∧ Z.Warmed39 uU.vm ∧ uU.heap = h0) (fun _ _ _ _ _ => True) (fun _ uU oO uU' => ∃ vV lL, oO = .returned vV ∧ Q11_A Z a u8 b kb ya yb yt  h0 n0 vV uU'.heap lL ∧ FrameEnd uU oO uU' lL ({ frames := 2, cells := 1, slots := 6, locals := 29 } : Room).cells ({ frames := 2, cells := 1, slots := 6, locals := 29 } : Room).slots) := by
  refine MetFree.of_bodySF (plainFor_of_name pn_java_lang_String) hisWith ?_
  intro p e s m args below meth c s₁ Bd hml0 hP hK
  obtain ⟨rfl, hZ, hh⟩ := hP
  have hx := Bd.exec
  have hby := Bd.bytes
  have hml : c.maxLocals = 11 := hml0
  have hown : s.vm.findClass "java/lang/String" = some m.cls := findClass_of_methodNamed Bd.named
  have hnm := (name_of_methodNamed Bd.named Bd.method).1
  have X0 : Stand p l e ({ frames := 2, cells := 1, slots := 6, locals := 29 } : Room) s m #[.ref a, .ref u8, .ref b, .int 0, .int 3] below meth c s₁ [] 0 0 := Stand.of_body Bd
  have e0 : s₁.heap = h0 := by rw [← hh, Bd.state]; rfl
  have N0 := Fr.nil n0
  have O := O0
  have K := Keep.refl h0 [a]
  have Hb : own_H p c jdk_42_method_11_code := ⟨hx, hby⟩
  have W := own_q hw
  have pre0 : ∀ t, Steps p.tables e below (s₁.setTop (mkF m 0 #[.val (.ref a), .val (.ref u8), .val (.ref b), .val (.int 0), .val (.int 3), .unset, .unset, .unset, .unset, .unset, .unset] [])) t → Steps p.tables e below (s₁.setTop (entryFrame m #[.ref a, .ref u8, .ref b, .int 0, .int 3] 11)) t := fun t k => castTop (ef_11_A m a u8 b) k
  obtain ⟨T1, X1, e1, st1⟩ := initO X0 hx hZ hown (W 15 rfl) (W 16 rfl) (W 17 rfl) e0 (g := (mkF m 1 (own_F8 a u8 b (0 : Int32) (3 : Int32)) [.ref a])) rfl (by rw [hml]; rfl) rfl (hb hby d11_1) (by decide) (W := 0) (by show 2 * 0 + _ ≤ _; exact Nat.le_of_eq rfl) (by decide)
  obtain ⟨T2, X2, e2, st2⟩ := getS2 X1 hx hZ hown (host := "") (Or.inl (W 67 rfl)) Via.refl e1 (SU.2.2.2.2.2.2.1.ext O.2) (g := (mkF m 31 (own_F8 a u8 b (0 : Int32) (3 : Int32)) [.ref u8])) rfl (hb hby d11_31)
  obtain ⟨T3, X3, e3, st3⟩ := getS2 X2 hx hZ hown (host := "") (Or.inl (W 18 rfl)) Via.refl e2 (SU.2.2.2.1.ext O.2) (g := (mkF m 37 (own_F8 a u8 b (0 : Int32) (3 : Int32)) [])) rfl (hb hby d11_37)
  obtain ⟨_, T4, Lc4, X4, hQ4, st4⟩ := own_cS X3 Hb hZ hown hml (L := (own_F8 a u8 b (0 : Int32) (3 : Int32))) rfl (rm12_3_3 hw b kb ya yb yt O V_b na nb nt) (W 69 rfl) (W 70 rfl) (W 71 rfl) (W 72 rfl) pd21 e3 d11_47 [.ref b, .int 0, .int 3] [] rfl rfl (by decide) 0 rfl (by decide)
  obtain ⟨rfl, N4q, eh4⟩ := hQ4
  have N4 := Fr.app N0 N4q
  have lt5_a := E_a.lt
  have lt5_b := V_b.lt
  obtain ⟨_, T5, Lc5, X5, hQ5, st5⟩ := own_cS X4 Hb hZ hown hml (L := (own_F9 a u8 b (0 : Int32) (3 : Int32) (3 : Int32))) rfl (rm13 hw b (3 : Int32) kb [.int ya, .int yb, .int yt] O V_b E_b (by decide)) (W 73 rfl) (W 74 rfl) (W 75 rfl) (W 76 rfl) pd22 eh4 d11_66 [.ref b, .int 0, .int 3] [.ref a] rfl rfl (by decide) 1 rfl (by decide)
  obtain ⟨z_5, rfl, N5q, K5, V_z_c5, E_z_c5, gz_5, gn_5⟩ := hQ5
  have N5 := Fr.app N4 N5q
  have E_a := E_a.keep K5
  have F_v_a := F_v_a.keep K5 nin0
  have F_c_a := F_c_a.keep K5 nin0
  have V_b := V_b.keep K5 nin0
  have E_b := E_b.keep K5
  have ne_a_z_5 : a ≠ z_5 := Nat.ne_of_lt (Nat.lt_of_lt_of_le lt5_a gz_5)
  have ne_b_z_5 : b ≠ z_5 := Nat.ne_of_lt (Nat.lt_of_lt_of_le lt5_b gz_5)
  have g_z_5 := gn_5
  have z_z_5 : h0.size ≤ z_5 := Nat.le_trans K.1 gz_5
  have O := O.keep K5 all0
  have K := K.trans K5 all0
  have ne_b_a : b ≠ a := (Exa.ne E_b E_a (by decide))
  obtain ⟨T6, h6, X6, e6, W6, st6⟩ := putF X5 hx hZ hown (host := "") (Or.inl (W 31 rfl)) Via.refl rfl F_v_a E_a (Or.inr ⟨(W 32 rfl), rfl, hnm⟩) (W 6 rfl) (ty := (.array .byte)) (by decide) rfl rfl (g := (mkF m 69 (own_F9 a u8 b (0 : Int32) (3 : Int32) (3 : Int32)) [.ref z_5, .ref a])) rfl rfl (hb hby d11_69)
  have F_v_a := F_v_a.same W6
  have E_a := E_a.wr W6
  have F_c_a := F_c_a.other W6 (Or.inr (slot_ne (Or.inr (W 30 rfl)) (Or.inr (W 32 rfl)) (by decide) (t := .byte) (t' := (.array .byte)) (by decide) (by decide)))
  have V_b := V_b.other W6 ne_b_a
  have E_b := E_b.wr W6
  have V_z_c5 := V_z_c5.other W6 (Ne.symm ne_a_z_5)
  have E_z_c5 := E_z_c5.wr W6
  have O := O.wr W6 g_a
  have K := K.wr W6 (Or.inl (List.mem_of_getElem? (i := 0) rfl))
  have N6 := Fr.snoc X6 N5 g_a
  obtain ⟨T7, h7, X7, e7, W7, st7⟩ := putFN X6 hx hZ hown (W 29 rfl) Via.refl e6 F_c_a E_a (Or.inr ⟨(W 30 rfl), rfl, hnm⟩) (W 6 rfl) (ty := .byte) (v' := (.int 0)) (by decide) rfl rfl (g := (mkF m 74 (own_F9 a u8 b (0 : Int32) (3 : Int32) (3 : Int32)) [.int 0, .ref a])) rfl rfl (hb hby d11_74)
  have F_c_a := F_c_a.same W7
  have E_a := E_a.wr W7
  have F_v_a := F_v_a.other W7 (Or.inr (slot_ne (Or.inr (W 32 rfl)) (Or.inr (W 30 rfl)) (by decide) (t := (.array .byte)) (t' := .byte) (by decide) (by decide)))
  have V_b := V_b.other W7 ne_b_a
  have E_b := E_b.wr W7
  have V_z_c5 := V_z_c5.other W7 (Ne.symm ne_a_z_5)
  have E_z_c5 := E_z_c5.wr W7
  have O := O.wr W7 g_a
  have K := K.wr W7 (Or.inl (List.mem_of_getElem? (i := 0) rfl))
  have N7 := Fr.snoc X7 N6 g_a
  have w8 : ∀ t, Steps p.tables e below (T7.setTop (mkF m 77 (own_F9 a u8 b (0 : Int32) (3 : Int32) (3 : Int32)) [])) t → Steps p.tables e below (s₁.setTop (entryFrame m #[.ref a, .ref u8, .ref b, .int 0, .int 3] 11)) t := fun t k => by
    refine pre0 t ?_
    refine zal X0 Hb d11_0 rfl rfl <| st1 _ <| ziL X1 Hb d11_4 rfl <| ziy X1 Hb d11_6 ((if0 _ _).trans (feq ((by decide) : ¬ ((3 : Int32) = (0 : Int32)))).2) 30 (by decide) rfl <| zal X1 Hb d11_30 rfl rfl <| st2 _ <| Jvm.RoadKit.acmp (g := (mkF m 34 (own_F8 a u8 b (0 : Int32) (3 : Int32)) [.ref u8, .ref u8])) X2 hx rfl rfl rfl (pc0 := 34) (pc' := 37) (same := true) rfl (hb hby d11_34) rfl (decide_eq_true rfl) (by decide) (by decide) <| st3 _ ?_
    refine zin X3 Hb d11_40 ((if0 _ _).trans (feq (SU.2.2.2.2.2.2.2.1 : ¬ (zc = (0 : Int32)))).1) <| zal X3 Hb d11_43 rfl rfl <| zil X3 Hb d11_44 rfl <| ziL X3 Hb d11_45 rfl <| st4 _ <| ziS X4 Hb (L' := (own_F9 a u8 b (0 : Int32) (3 : Int32) (3 : Int32))) d11_50 rfl <| ziL X4 Hb d11_52 rfl <| ziL X4 Hb d11_54 rfl ?_
    refine zcn X4 Hb d11_56 (teq (rfl : (3 : Int32) = (3 : Int32))).2 <| zal X4 Hb d11_59 rfl rfl <| zal X4 Hb d11_60 rfl rfl <| zil X4 Hb d11_61 rfl <| zil X4 Hb d11_62 rfl <| ziL X4 Hb d11_63 rfl <| zia' X4 Hb d11_65 3 rfl <| st5 _ ?_
    refine st6 _ <| zal X6 Hb d11_72 rfl rfl <| zic X6 Hb d11_73 0 rfl <| st7 _ ?_
    exact k
  obtain ⟨fs, hr, hrun, hended, hW, hsame⟩ := X7.leave (v := none) (fun _ => rfl)
  refine ⟨_, _, w8 _ ?_, hrun, hended, _, _, rfl, ?_, ⟨_, rfl⟩, hW, hsame.mono (by decide) (by decide)⟩
  · exact X7.returnOut hx Bd.returns (hb hby d11_77) hr
  · show Q11_A Z a u8 b kb ya yb yt  h0 n0 _ T7.heap _
    rw [e7]
    exact ⟨z_5, kb, rfl, N7, K, F_v_a, F_c_a, V_z_c5⟩
abbrev B9 := jdk_42_method_49_code
theorem d9_0 : decode B9 0 = .ok (.aload_n 0, 1) := by decide +kernel
theorem d9_1 : decode B9 1 = .ok (.aload_n 2, 1) := by decide +kernel
theorem d9_2 : decode B9 2 = .ok (.invokestatic 78, 3) := by decide +kernel
theorem pd23 : parseMethodDescriptor "(Ljava/lang/Object;)Ljava/lang/Object;" = some ⟨[(.object "java/lang/Object")], some (.object "java/lang/Object")⟩ := by decide +kernel
theorem d9_5 : decode B9 5 = .ok (.checkcast 84, 3) := by decide +kernel
theorem d9_8 : decode B9 8 = .ok (.aload_n 1, 1) := by decide +kernel
theorem d9_9 : decode B9 9 = .ok (.iconst 0, 1) := by decide +kernel
theorem d9_10 : decode B9 10 = .ok (.aload_n 1, 1) := by decide +kernel
theorem d9_11 : decode B9 11 = .ok (.arraylength, 1) := by decide +kernel
theorem d9_12 : decode B9 12 = .ok (.invokespecial 75, 3) := by decide +kernel
theorem pd24 : parseMethodDescriptor "(Ljava/nio/charset/Charset;[BII)V" = some ⟨[(.object "java/nio/charset/Charset"), (.array .byte), .int, .int], none⟩ := by decide +kernel
theorem d9_15 : decode B9 15 = .ok (.return_, 1) := by decide +kernel
theorem rm9_A {l : Launch} {Z : State} {a0 : Array Value} (hw : own_W a0 Z) (a b u8 : Addr) (kb : ClassId) (ya yb yt : Int32) {zc : Int32} {fm : Value} {h0 : Heap} {n0 : Nat} (O0 : Old Z n0 h0) (SU : own_SU Z zc fm u8) (E_a : Exa Z h0 a "java/lang/String") (F_v_a : Fld Z h0 a "java/lang/String" "value" "[B" .null) (F_c_a : Fld Z h0 a "java/lang/String" "coder" "B" (.int 0)) (V_b : Arv Z h0 b kb .byte (3 : Int32) [.int ya, .int yb, .int yt] (.int 0)) (E_b : Exa Z h0 b "[B") (E_u8 : Exa Z h0 u8 "sun/nio/cs/UTF_8") (na : ¬ ya < (0 : Int32)) (nb : ¬ yb < (0 : Int32)) (nt : ¬ yt < (0 : Int32)) (g_a : n0 ≤ a) : own_M l own_n9 jdk_42_method_49_code 3 none (own_rm 3 1 6 51) Z h0 #[.ref a, .ref b, .ref u8] (fun v h L => ∃ t1 : Addr, ∃ kt : ClassId, v = none ∧ Fr n0 L ∧ Keep h0 h [a] ∧ Fld Z h a "java/lang/String" "value" "[B" (.ref t1) ∧ Fld Z h a "java/lang/String" "coder" "B" (.int 0) ∧ Arv Z h t1 kt .byte (3 : Int32) [.int ya, .int yb, .int yt] (.int 0)) := by
  refine own_body (L0 := #[.val (.ref a), .val (.ref b), .val (.ref u8)]) (plainFor_of_name pn_java_lang_String) rfl rfl ?_
  intro p e s m below meth c s₁ f0 Bd hx Hb hml hZ hown X0 e0 pre0
  have hby := Hb.2
  have W := own_q hw
  have N0 := Fr.nil n0
  have O := O0
  have K := Keep.refl h0 [a]
  obtain ⟨_, T1, Lc1, X1, hQ1, st1⟩ := own_cS X0 Hb hZ hown hml (L := #[.val (.ref a), .val (.ref b), .val (.ref u8)]) rfl (rm10 hw u8 O ) (W 58 rfl) (W 59 rfl) (W 60 rfl) (W 61 rfl) pd23 e0 d9_2 [.ref u8] [.ref a] rfl rfl (by decide) 1 rfl (by decide)
  obtain ⟨rfl, N1q, eh1⟩ := hQ1
  have N1 := Fr.app N0 N1q
  obtain ⟨T2, X2, e2, st2⟩ := castY X1 hx hZ hown (W 62 rfl) eh1 (Ins.of_exa E_u8 (W 63 rfl)) (g := (mkF m 5 #[.val (.ref a), .val (.ref b), .val (.ref u8)] [.ref u8, .ref a])) rfl rfl (hb hby d9_5)
  have B3 := own_ln V_b
  have ne_b_a : b ≠ a := (Exa.ne E_b E_a (by decide))
  obtain ⟨_, _, ⟨T4, L4, k4, n4⟩, -, X4, ⟨Lc4, hQ4, l4, y4, z4⟩, st4⟩ := X2.specialBackH hx (y := own_n11) rfl hown (mvT hZ (W 64 rfl)) (mvT hZ (W 65 rfl)) (mvT hZ (W 66 rfl)) (by decide) (backOfWith (W := 0) (rm11_A l Z a0 hw [] a u8 b kb ya yb yt h0 n0 O SU E_a F_v_a F_c_a V_b E_b na nb nt g_a) hZ (W 66 rfl) (W 7 rfl) (by decide) (by decide)) (g := (mkF m 12 #[.val (.ref a), .val (.ref b), .val (.ref u8)] [.int 3, .int 0, .ref b, .ref u8, .ref a])) rfl (by rw [hml]; rfl) (Steps.refl _) (a := a) (argsL := [.ref u8, .ref b, .int 0, .int 3]) (rest := []) (lenOf pd24 rfl) rfl (by show 2 * 0 + _ ≤ _; exact Nat.le_of_eq rfl) (hb hby d9_12) (fun _ _ => ⟨rfl, e2, (by decide : 0 + 1 ≤ _), (by decide : 0 + 6 ≤ _)⟩)
  dsimp only [Pt.U, Pt.locs, Pt.cells, Pt.slots] at X4 l4 y4 z4 st4 hQ4
  have X4 := own_un X4 l4 y4 z4
  obtain ⟨t1_4, kt_4, rfl, N4q, K4, F_v_a_c4, F_c_a_c4, V_t_c4⟩ := hQ4
  have N4 := Fr.app N1 N4q
  have E_a := E_a.keep K4
  have V_b := V_b.keep K4 (ninS ne_b_a nin0)
  have E_b := E_b.keep K4
  have E_u8 := E_u8.keep K4
  have O := O.keep K4 (allS g_a all0)
  have K := K.trans K4 (allS (Or.inl (List.mem_of_getElem? (i := 0) rfl)) all0)
  have w5 : own_Go p e below f0 T4 m 15 #[.val (.ref a), .val (.ref b), .val (.ref u8)] [] := fun t k => by
    refine pre0 t ?_
    refine zal X0 Hb d9_0 rfl rfl <| zal X0 Hb d9_1 rfl rfl <| st1 _ <| st2 _ <| zal X2 Hb d9_8 rfl rfl <| zic X2 Hb d9_9 0 rfl <| zal X2 Hb d9_10 rfl rfl <| zal_ X2 Hb hZ e2 B3 d9_11 ?_
    refine st4.trans ?_
    exact k
  exact own_oV X4 Hb Bd.notSynchronized Bd.returns w5 d9_15 rfl (by decide) (by decide) ⟨t1_4, kt_4, rfl, N4, K, F_v_a_c4, F_c_a_c4, V_t_c4⟩
abbrev B8 := prog_6_method_4_code
theorem d8_0 : decode B8 0 = .ok (.new 17, 3) := by decide +kernel
theorem d8_3 : decode B8 3 = .ok (.dup, 1) := by decide +kernel
theorem d8_4 : decode B8 4 = .ok (.aload_n 0, 1) := by decide +kernel
theorem d8_5 : decode B8 5 = .ok (.getfield 13, 3) := by decide +kernel
theorem d8_8 : decode B8 8 = .ok (.getstatic 19, 3) := by decide +kernel
theorem d8_11 : decode B8 11 = .ok (.invokespecial 25, 3) := by decide +kernel
theorem pd25 : parseMethodDescriptor "([BLjava/nio/charset/Charset;)V" = some ⟨[(.array .byte), (.object "java/nio/charset/Charset")], none⟩ := by decide +kernel
theorem d8_14 : decode B8 14 = .ok (.areturn, 1) := by decide +kernel
theorem pn_com_example_gradual_reply_gradualreply_EncodedBody : plainName "com/example/gradual_reply/gradualreply/EncodedBody" = true := by first | (simp [plainName, overriddenIn]; done) | decide +kernel
theorem rm8_A {l : Launch} {Z : State} {a0 : Array Value} (hw : own_W a0 Z) (a rb : Addr) (kb : ClassId) (ya yb yt : Int32) {zc : Int32} {fm : Value} {u8 : Addr} {h0 : Heap} {n0 : Nat} (O0 : Old Z n0 h0) (SU : own_SU Z zc fm u8) (F_b_a : Fld Z h0 a "com/example/gradual_reply/gradualreply/EncodedBody" "bytes" "[B" (.ref rb)) (V_rb : Arv Z h0 rb kb .byte (3 : Int32) [.int ya, .int yb, .int yt] (.int 0)) (E_rb : Exa Z h0 rb "[B") (E_u8 : Exa Z h0 u8 "sun/nio/cs/UTF_8") (na : ¬ ya < (0 : Int32)) (nb : ¬ yb < (0 : Int32)) (nt : ¬ yt < (0 : Int32)) : own_M l own_n8 prog_6_method_4_code 1 (some (.object "java/lang/String")) (own_rm 4 2 10 66) Z h0 #[.ref a] (fun v h L => ∃ z : Addr, ∃ t1 : Addr, ∃ kt : ClassId, v = some (.ref z) ∧ Fr n0 L ∧ Keep h0 h [] ∧ Exa Z h z "java/lang/String" ∧ Fld Z h z "java/lang/String" "value" "[B" (.ref t1) ∧ Fld Z h z "java/lang/String" "coder" "B" (.int 0) ∧ Arv Z h t1 kt .byte (3 : Int32) [.int ya, .int yb, .int yt] (.int 0)) := by
  refine own_body (L0 := #[.val (.ref a)]) (plainFor_of_name pn_com_example_gradual_reply_gradualreply_EncodedBody) rfl rfl ?_
  intro p e s m below meth c s₁ f0 Bd hx Hb hml hZ hown X0 e0 pre0
  have hby := Hb.2
  have W := own_q hw
  have N0 := Fr.nil n0
  have O := O0
  have K := Keep.refl h0 []
  obtain ⟨T1, h1, X1, e1, E1, A1, D1, -, st1⟩ := newO X0 hx hZ hown (W 52 rfl) (W 6 rfl) (W 7 rfl) e0 (g := (mkF m 0 #[.val (.ref a)] [])) rfl (hb hby d8_0) (by decide) (by decide)
  obtain ⟨b1, gq1⟩ : ∃ z, z = Array.size h0 := ⟨_, rfl⟩
  rw [← gq1] at A1 D1 st1
  have ne_a_b1 : a ≠ b1 := Nat.ne_of_lt (Nat.lt_of_lt_of_le F_b_a.lt (Nat.le_of_eq gq1.symm))
  have ne_rb_b1 : rb ≠ b1 := Nat.ne_of_lt (Nat.lt_of_lt_of_le V_rb.lt (Nat.le_of_eq gq1.symm))
  have ne_u8_b1 : u8 ≠ b1 := Nat.ne_of_lt (Nat.lt_of_lt_of_le E_u8.lt (Nat.le_of_eq gq1.symm))
  have g_b1 : n0 ≤ b1 := Nat.le_trans (O.1 ▸ O.2.1) (Nat.le_of_eq gq1.symm)
  have z_b1 : h0.size ≤ b1 := Nat.le_trans K.1 (Nat.le_of_eq gq1.symm)
  have F_b_a := F_b_a.ext E1
  have V_rb := V_rb.ext E1
  have E_rb := E_rb.ext E1
  have E_u8 := E_u8.ext E1
  have O := O.ext E1
  have K := K.ext E1
  have F_coder_b1 : Fld Z h1 b1 "java/lang/String" "coder" "B" (.int 0) := D1 (Or.inr (W 30 rfl)) (ty := .byte) (by decide)
  have F_value_b1 : Fld Z h1 b1 "java/lang/String" "value" "[B" .null := D1 (Or.inr (W 32 rfl)) (ty := (.array .byte)) (by decide)
  obtain ⟨T2, X2, e2, st2⟩ := getF X1 hx hZ hown (host := "") (Or.inl (W 45 rfl)) Via.refl e1 F_b_a (g := (mkF m 5 #[.val (.ref a)] [.ref a, .ref b1, .ref b1])) rfl rfl (hb hby d8_5)
  obtain ⟨T3, X3, e3, st3⟩ := getS2 X2 hx hZ hown (host := "") (Or.inl (W 53 rfl)) Via.refl e2 (SU.2.2.2.2.2.1.ext O.2) (g := (mkF m 8 #[.val (.ref a)] [.ref rb, .ref b1, .ref b1])) rfl (hb hby d8_8)
  obtain ⟨_, T4, Lc4, X4, hQ4, st4⟩ := own_cI X3 Hb hZ hown hml (L := #[.val (.ref a)]) rfl (rm9_A hw b1 rb u8 kb ya yb yt O SU A1 F_value_b1 F_coder_b1 V_rb E_rb E_u8 na nb nt g_b1) (W 55 rfl) (W 56 rfl) (W 7 rfl) (W 57 rfl) pd25 e3 d8_11 b1 [.ref rb, .ref u8] [.ref b1] rfl rfl (by decide) 1 rfl (by decide)
  obtain ⟨t1_4, kt_4, rfl, N4q, K4, F_v_a_c4, F_c_a_c4, V_t_c4⟩ := hQ4
  have N4 := Fr.app N0 N4q
  have F_b_a := F_b_a.keep K4 (ninS ne_a_b1 nin0)
  have V_rb := V_rb.keep K4 (ninS ne_rb_b1 nin0)
  have E_rb := E_rb.keep K4
  have E_u8 := E_u8.keep K4
  have A1 := A1.keep K4
  have O := O.keep K4 (allS g_b1 all0)
  have K := K.trans K4 (allS (Or.inr z_b1) all0)
  have w5 : own_Go p e below f0 T4 m 14 #[.val (.ref a)] [.ref b1] := fun t k => by
    refine pre0 t ?_
    refine st1 _ <| zdu X1 Hb d8_3 rfl <| zal X1 Hb d8_4 rfl rfl <| st2 _ <| st3 _ <| st4 _ ?_
    exact k
  exact own_oR X4 Hb Bd.notSynchronized Bd.returns rfl w5 d8_14 rfl (by decide) (by decide) ⟨b1, t1_4, kt_4, rfl, N4, K, A1, F_v_a_c4, F_c_a_c4, V_t_c4⟩
theorem d11_78 : decode B11 78 = .ok (.aload_n 2, 1) := by decide +kernel
theorem d11_79 : decode B11 79 = .ok (.iload_n 3, 1) := by decide +kernel
theorem d11_80 : decode B11 80 = .ok (.iload_n 3, 1) := by decide +kernel
theorem d11_81 : decode B11 81 = .ok (.iload 4, 2) := by decide +kernel
theorem d11_83 : decode B11 83 = .ok (.iadd, 1) := by decide +kernel
theorem d11_84 : decode B11 84 = .ok (.invokestatic 54, 3) := by decide +kernel
theorem d11_87 : decode B11 87 = .ok (.astore 6, 2) := by decide +kernel
def own_F10 (x0 : Addr) (x1 : Addr) (x2 : Addr) (x3 : Int32) (x4 : Int32) (x5 : Int32) (x6 : Addr) : Array Slot := #[.val (.ref x0), .val (.ref x1), .val (.ref x2), .val (.int x3), .val (.int x4), .val (.int x5), .val (.ref x6), .unset, .unset, .unset, .unset]
theorem d11_89 : decode B11 89 = .ok (.iload 5, 2) := by decide +kernel
theorem d11_91 : decode B11 91 = .ok (.istore 7, 2) := by decide +kernel
def own_F11 (x0 : Addr) (x1 : Addr) (x2 : Addr) (x3 : Int32) (x4 : Int32) (x5 : Int32) (x6 : Addr) (x7 : Int32) : Array Slot := #[.val (.ref x0), .val (.ref x1), .val (.ref x2), .val (.int x3), .val (.int x4), .val (.int x5), .val (.ref x6), .val (.int x7), .unset, .unset, .unset]
theorem d11_93 : decode B11 93 = .ok (.iload 7, 2) := by decide +kernel
theorem d11_95 : decode B11 95 = .ok (.iload 4, 2) := by decide +kernel
theorem d11_97 : decode B11 97 = .ok (.if_icmp .ge 93, 3) := by decide +kernel
theorem d11_100 : decode B11 100 = .ok (.aload 6, 2) := by decide +kernel
theorem d11_102 : decode B11 102 = .ok (.iload 7, 2) := by decide +kernel
theorem d11_104 : decode B11 104 = .ok (.iinc 7 1, 3) := by decide +kernel
theorem d11_107 : decode B11 107 = .ok (.baload, 1) := by decide +kernel
theorem d11_108 : decode B11 108 = .ok (.istore 8, 2) := by decide +kernel
def own_F12 (x0 : Addr) (x1 : Addr) (x2 : Addr) (x3 : Int32) (x4 : Int32) (x5 : Int32) (x6 : Addr) (x7 : Int32) (x8 : Int32) : Array Slot := #[.val (.ref x0), .val (.ref x1), .val (.ref x2), .val (.int x3), .val (.int x4), .val (.int x5), .val (.ref x6), .val (.int x7), .val (.int x8), .unset, .unset]
theorem d11_110 : decode B11 110 = .ok (.iload 8, 2) := by decide +kernel
theorem d11_112 : decode B11 112 = .ok (.ifCond .lt 17, 3) := by decide +kernel
theorem d11_129 : decode B11 129 = .ok (.iload 8, 2) := by decide +kernel
theorem d11_131 : decode B11 131 = .ok (.sipush 254, 3) := by decide +kernel
theorem d11_134 : decode B11 134 = .ok (.iand, 1) := by decide +kernel
theorem d11_135 : decode B11 135 = .ok (.sipush 194, 3) := by decide +kernel
theorem d11_138 : decode B11 138 = .ok (.if_icmp .ne 46, 3) := by decide +kernel
theorem d11_141 : decode B11 141 = .ok (.iload 7, 2) := by decide +kernel
theorem d11_143 : decode B11 143 = .ok (.iload 4, 2) := by decide +kernel
theorem d11_145 : decode B11 145 = .ok (.if_icmp .ge 39, 3) := by decide +kernel
theorem d11_184 : decode B11 184 = .ok (.iinc 7 (-1), 3) := by decide +kernel
theorem d11_187 : decode B11 187 = .ok (.goto 3, 3) := by decide +kernel
theorem d11_190 : decode B11 190 = .ok (.iload 7, 2) := by decide +kernel
theorem d11_192 : decode B11 192 = .ok (.iload 4, 2) := by decide +kernel
theorem d11_194 : decode B11 194 = .ok (.if_icmp .ne 32, 3) := by decide +kernel
theorem d11_226 : decode B11 226 = .ok (.iload 4, 2) := by decide +kernel
theorem d11_228 : decode B11 228 = .ok (.invokestatic 60, 3) := by decide +kernel
theorem d11_231 : decode B11 231 = .ok (.astore 8, 2) := by decide +kernel
def own_F13 (x0 : Addr) (x1 : Addr) (x2 : Addr) (x3 : Int32) (x4 : Int32) (x5 : Int32) (x6 : Addr) (x7 : Int32) (x8 : Addr) : Array Slot := #[.val (.ref x0), .val (.ref x1), .val (.ref x2), .val (.int x3), .val (.int x4), .val (.int x5), .val (.ref x6), .val (.int x7), .val (.ref x8), .unset, .unset]
theorem d11_233 : decode B11 233 = .ok (.aload 6, 2) := by decide +kernel
theorem d11_235 : decode B11 235 = .ok (.iconst 0, 1) := by decide +kernel
theorem d11_236 : decode B11 236 = .ok (.aload 8, 2) := by decide +kernel
theorem d11_238 : decode B11 238 = .ok (.iconst 0, 1) := by decide +kernel
theorem d11_239 : decode B11 239 = .ok (.iload 5, 2) := by decide +kernel
theorem d11_241 : decode B11 241 = .ok (.invokestatic 106, 3) := by decide +kernel
theorem d11_244 : decode B11 244 = .ok (.aload 6, 2) := by decide +kernel
theorem d11_246 : decode B11 246 = .ok (.iload 7, 2) := by decide +kernel
theorem d11_248 : decode B11 248 = .ok (.iload 4, 2) := by decide +kernel
theorem d11_250 : decode B11 250 = .ok (.aload 8, 2) := by decide +kernel
theorem d11_252 : decode B11 252 = .ok (.iload 5, 2) := by decide +kernel
theorem d11_254 : decode B11 254 = .ok (.iconst 1, 1) := by decide +kernel
theorem d11_255 : decode B11 255 = .ok (.invokestatic 112, 3) := by decide +kernel
theorem pd26 : parseMethodDescriptor "([BII[BIZ)I" = some ⟨[(.array .byte), .int, .int, (.array .byte), .int, .boolean], some .int⟩ := by decide +kernel
theorem d11_258 : decode B11 258 = .ok (.istore 5, 2) := by decide +kernel
theorem d11_260 : decode B11 260 = .ok (.iload 5, 2) := by decide +kernel
theorem d11_262 : decode B11 262 = .ok (.iload 4, 2) := by decide +kernel
theorem d11_264 : decode B11 264 = .ok (.if_icmp .eq 14, 3) := by decide +kernel
theorem d11_278 : decode B11 278 = .ok (.aload_n 0, 1) := by decide +kernel
theorem d11_279 : decode B11 279 = .ok (.aload 8, 2) := by decide +kernel
theorem d11_281 : decode B11 281 = .ok (.putfield 9, 3) := by decide +kernel
theorem d11_284 : decode B11 284 = .ok (.aload_n 0, 1) := by decide +kernel
theorem d11_285 : decode B11 285 = .ok (.iconst 1, 1) := by decide +kernel
theorem d11_286 : decode B11 286 = .ok (.putfield 15, 3) := by decide +kernel
theorem d11_289 : decode B11 289 = .ok (.goto 590, 3) := by decide +kernel
theorem d11_879 : decode B11 879 = .ok (.return_, 1) := by decide +kernel
theorem ef_11_B (m : MethodId) (x0 : Addr) (x1 : Addr) (x2 : Addr) : entryFrame m #[.ref x0, .ref x1, .ref x2, .int 0, .int 3] 11 = mkF m 0 #[.val (.ref x0), .val (.ref x1), .val (.ref x2), .val (.int 0), .val (.int 3), .unset, .unset, .unset, .unset, .unset, .unset] [] := by first | (simp [entryFrame, mkF, argsToLocals, Value.category]; done) | rfl
def Q11_B (Z : State) (a : Addr) (u8 : Addr) (b : Addr) (kb : ClassId) (ya : Int32) (yb : Int32) (yt : Int32) (h0 : Heap) (n0 : Nat) (v : Option Value) (h : Heap) (L : List Loc) : Prop := ∃ t1 : Addr, ∃ kt : ClassId, v = none ∧ Fr n0 L ∧ Keep h0 h [a] ∧ Fld Z h a "java/lang/String" "value" "[B" (.ref t1) ∧ Fld Z h a "java/lang/String" "coder" "B" (.int 1) ∧ Arv Z h t1 kt .byte (6 : Int32) [(.int (own_lo (ya &&& (255 : Int32)))), (.int (own_hi (ya &&& (255 : Int32)))), (.int (own_lo (yb &&& (255 : Int32)))), (.int (own_hi (yb &&& (255 : Int32)))), (.int (own_lo (65533 : Int32))), (.int (own_hi (65533 : Int32)))] (.int 0)
set_option maxRecDepth 65536 in
set_option maxHeartbeats 40000000 in
theorem rm11_B (l : Launch) (Z : State) (a0 : Array Value) (hw : ∀ d ∈ tables_1, d.before a0 Z = true) (ws : List Jvm.Cond) (a : Addr) (u8 : Addr) (b : Addr) (kb : ClassId) (ya : Int32) (yb : Int32) (yt : Int32) {zc : Int32} {fm : Value} (h0 : Heap) (n0 : Nat) (O0 : Old Z n0 h0) (SU : own_SU Z zc fm u8) (E_a : Exa Z h0 a "java/lang/String") (F_v_a : Fld Z h0 a "java/lang/String" "value" "[B" .null) (F_c_a : Fld Z h0 a "java/lang/String" "coder" "B" (.int 0)) (V_b : Arv Z h0 b kb .byte (3 : Int32) [.int ya, .int yb, .int yt] (.int 0)) (E_b : Exa Z h0 b "[B") (na : ¬ ya < (0 : Int32)) (nb : ¬ yb < (0 : Int32)) (nt : yt < (0 : Int32)) (g_a : n0 ≤ a) :
    MetFree l (⟨"java/lang/String", "<init>", "(Ljava/nio/charset/Charset;[BII)V"⟩ : MethodName) (head1 (Jvm.Cond.codeWith (⟨"java/lang/String", "<init>", "(Ljava/nio/charset/Charset;[BII)V"⟩ : MethodName) jdk_42_method_11_code 11 none [((800 : Nat), (813 : Nat), (816 : Nat), (202 : Nat))] :: ws) ({ frames := 5, cells := 2, slots := 12, locals := 76 } : Room)) (fun aA uU => aA = #[.ref a, .ref u8, .ref b, .int 0, .int 3] ∧ Z.Warmed39 uU.vm ∧ uU.heap = h0) (fun _ _ _ _ _ => True) (fun _ uU oO uU' => ∃ vV lL, oO = .returned vV ∧ Q11_B Z a u8 b kb ya yb yt  h0 n0 vV uU'.heap lL ∧ FrameEnd uU oO uU' lL ({ frames := 5, cells := 2, slots := 12, locals := 76 } : Room).cells ({ frames := 5, cells := 2, slots := 12, locals := 76 } : Room).slots) := by
  refine MetFree.of_bodySF (plainFor_of_name pn_java_lang_String) hisWith ?_
  intro p e s m args below meth c s₁ Bd hml0 hP hK
  obtain ⟨rfl, hZ, hh⟩ := hP
  have hx := Bd.exec
  have hby := Bd.bytes
  have hml : c.maxLocals = 11 := hml0
  have hown : s.vm.findClass "java/lang/String" = some m.cls := findClass_of_methodNamed Bd.named
  have hnm := (name_of_methodNamed Bd.named Bd.method).1
  have X0 : Stand p l e ({ frames := 5, cells := 2, slots := 12, locals := 76 } : Room) s m #[.ref a, .ref u8, .ref b, .int 0, .int 3] below meth c s₁ [] 0 0 := Stand.of_body Bd
  have e0 : s₁.heap = h0 := by rw [← hh, Bd.state]; rfl
  have N0 := Fr.nil n0
  have O := O0
  have K := Keep.refl h0 [a]
  have Hb : own_H p c jdk_42_method_11_code := ⟨hx, hby⟩
  have W := own_q hw
  have pre0 : ∀ t, Steps p.tables e below (s₁.setTop (mkF m 0 #[.val (.ref a), .val (.ref u8), .val (.ref b), .val (.int 0), .val (.int 3), .unset, .unset, .unset, .unset, .unset, .unset] [])) t → Steps p.tables e below (s₁.setTop (entryFrame m #[.ref a, .ref u8, .ref b, .int 0, .int 3] 11)) t := fun t k => castTop (ef_11_B m a u8 b) k
  obtain ⟨T1, X1, e1, st1⟩ := initO X0 hx hZ hown (W 15 rfl) (W 16 rfl) (W 17 rfl) e0 (g := (mkF m 1 (own_F8 a u8 b (0 : Int32) (3 : Int32)) [.ref a])) rfl (by rw [hml]; rfl) rfl (hb hby d11_1) (by decide) (W := 0) (by show 2 * 0 + _ ≤ _; exact Nat.le_of_eq rfl) (by decide)
  obtain ⟨T2, X2, e2, st2⟩ := getS2 X1 hx hZ hown (host := "") (Or.inl (W 67 rfl)) Via.refl e1 (SU.2.2.2.2.2.2.1.ext O.2) (g := (mkF m 31 (own_F8 a u8 b (0 : Int32) (3 : Int32)) [.ref u8])) rfl (hb hby d11_31)
  obtain ⟨T3, X3, e3, st3⟩ := getS2 X2 hx hZ hown (host := "") (Or.inl (W 18 rfl)) Via.refl e2 (SU.2.2.2.1.ext O.2) (g := (mkF m 37 (own_F8 a u8 b (0 : Int32) (3 : Int32)) [])) rfl (hb hby d11_37)
  obtain ⟨_, T4, Lc4, X4, hQ4, st4⟩ := own_cS X3 Hb hZ hown hml (L := (own_F8 a u8 b (0 : Int32) (3 : Int32))) rfl (rm12_3_2 hw b kb ya yb yt O V_b na nb nt) (W 69 rfl) (W 70 rfl) (W 71 rfl) (W 72 rfl) pd21 e3 d11_47 [.ref b, .int 0, .int 3] [] rfl rfl (by decide) 0 rfl (by decide)
  obtain ⟨rfl, N4q, eh4⟩ := hQ4
  have N4 := Fr.app N0 N4q
  have lt5_a := E_a.lt
  have lt5_b := V_b.lt
  obtain ⟨_, T5, Lc5, X5, hQ5, st5⟩ := own_cS X4 Hb hZ hown hml (L := (own_F9 a u8 b (0 : Int32) (3 : Int32) (2 : Int32))) rfl (rm13 hw b (3 : Int32) kb [.int ya, .int yb, .int yt] O V_b E_b (by decide)) (W 73 rfl) (W 74 rfl) (W 75 rfl) (W 76 rfl) pd22 eh4 d11_84 [.ref b, .int 0, .int 3] [] rfl rfl (by decide) 0 rfl (by decide)
  obtain ⟨z_5, rfl, N5q, K5, V_z_c5, E_z_c5, gz_5, gn_5⟩ := hQ5
  have N5 := Fr.app N4 N5q
  have E_a := E_a.keep K5
  have F_v_a := F_v_a.keep K5 nin0
  have F_c_a := F_c_a.keep K5 nin0
  have V_b := V_b.keep K5 nin0
  have E_b := E_b.keep K5
  have ne_a_z_5 : a ≠ z_5 := Nat.ne_of_lt (Nat.lt_of_lt_of_le lt5_a gz_5)
  have ne_b_z_5 : b ≠ z_5 := Nat.ne_of_lt (Nat.lt_of_lt_of_le lt5_b gz_5)
  have g_z_5 := gn_5
  have z_z_5 : h0.size ≤ z_5 := Nat.le_trans K.1 gz_5
  have O := O.keep K5 all0
  have K := K.trans K5 all0
  have B6 : own_El Z (T5.heap) z_5 .byte (2 : Int32) (.int yt) := own_el V_z_c5 ⟨by decide, by decide⟩ rfl
  have w7 : ∀ t, Steps p.tables e below (T5.setTop (mkF m 138 (own_F12 a u8 b (0 : Int32) (3 : Int32) (2 : Int32) z_5 (3 : Int32) yt) [.int 194, (.int (yt &&& (254 : Int32)))])) t → Steps p.tables e below (s₁.setTop (entryFrame m #[.ref a, .ref u8, .ref b, .int 0, .int 3] 11)) t := fun t k => by
    refine pre0 t ?_
    refine zal X0 Hb d11_0 rfl rfl <| st1 _ <| ziL X1 Hb d11_4 rfl <| ziy X1 Hb d11_6 ((if0 _ _).trans (feq ((by decide) : ¬ ((3 : Int32) = (0 : Int32)))).2) 30 (by decide) rfl <| zal X1 Hb d11_30 rfl rfl <| st2 _ <| Jvm.RoadKit.acmp (g := (mkF m 34 (own_F8 a u8 b (0 : Int32) (3 : Int32)) [.ref u8, .ref u8])) X2 hx rfl rfl rfl (pc0 := 34) (pc' := 37) (same := true) rfl (hb hby d11_34) rfl (decide_eq_true rfl) (by decide) (by decide) <| st3 _ ?_
    refine zin X3 Hb d11_40 ((if0 _ _).trans (feq (SU.2.2.2.2.2.2.2.1 : ¬ (zc = (0 : Int32)))).1) <| zal X3 Hb d11_43 rfl rfl <| zil X3 Hb d11_44 rfl <| ziL X3 Hb d11_45 rfl <| st4 _ <| ziS X4 Hb (L' := (own_F9 a u8 b (0 : Int32) (3 : Int32) (2 : Int32))) d11_50 rfl <| ziL X4 Hb d11_52 rfl <| ziL X4 Hb d11_54 rfl ?_
    refine zcy X4 Hb d11_56 (feq ((by decide) : ¬ ((2 : Int32) = (3 : Int32)))).2 78 (by decide) rfl <| zal X4 Hb d11_78 rfl rfl <| zil X4 Hb d11_79 rfl <| zil X4 Hb d11_80 rfl <| ziL X4 Hb d11_81 rfl <| zia' X4 Hb d11_83 3 rfl <| st5 _ <| zaS X5 Hb (L' := (own_F10 a u8 b (0 : Int32) (3 : Int32) (2 : Int32) z_5)) d11_87 rfl rfl ?_
    refine ziL X5 Hb d11_89 rfl <| ziS X5 Hb (L' := (own_F11 a u8 b (0 : Int32) (3 : Int32) (2 : Int32) z_5 (2 : Int32))) d11_91 rfl <| ziL X5 Hb d11_93 rfl <| ziL X5 Hb d11_95 rfl <| zcn X5 Hb d11_97 (tlt ((by decide) : (2 : Int32) < (3 : Int32))).2.1 <| zaL X5 Hb d11_100 rfl rfl <| ziL X5 Hb d11_102 rfl <| zii X5 Hb (L' := (own_F11 a u8 b (0 : Int32) (3 : Int32) (2 : Int32) z_5 (3 : Int32))) d11_104 rfl 3 rfl rfl ?_
    refine zba X5 Hb hZ rfl B6 d11_107 <| ziS X5 Hb (L' := (own_F12 a u8 b (0 : Int32) (3 : Int32) (2 : Int32) z_5 (3 : Int32) yt)) d11_108 rfl <| ziL X5 Hb d11_110 rfl <| ziy X5 Hb d11_112 ((if0 _ _).trans (tlt (nt : yt < (0 : Int32))).1) 129 (by decide) rfl <| ziL X5 Hb d11_129 rfl <| zsp X5 Hb d11_131 254 rfl <| zan X5 Hb d11_134 <| zsp X5 Hb d11_135 194 rfl ?_
    exact k
  have w9 : ∀ t, Steps p.tables e below (T5.setTop (mkF m 184 (own_F12 a u8 b (0 : Int32) (3 : Int32) (2 : Int32) z_5 (3 : Int32) yt) [])) t → Steps p.tables e below (s₁.setTop (entryFrame m #[.ref a, .ref u8, .ref b, .int 0, .int 3] 11)) t := fun t k => by
    refine w7 t ?_
    by_cases hm8 : (yt &&& (254 : Int32)) = (194 : Int32)
    · refine zcn X5 Hb d11_138 (teq hm8).2 <| ziL X5 Hb d11_141 rfl <| ziL X5 Hb d11_143 rfl <| zcy X5 Hb d11_145 (flt ((by decide) : ¬ ((3 : Int32) < (3 : Int32)))).2.1 184 (by decide) rfl ?_
      exact k
    · refine zcy X5 Hb d11_138 (feq hm8).2 184 (by decide) rfl ?_
      exact k
  have lt10_a := E_a.lt
  have lt10_b := V_b.lt
  have lt10_z_5 := V_z_c5.lt
  obtain ⟨_, T10, Lc10, X10, hQ10, st10⟩ := own_cS X5 Hb hZ hown hml (L := (own_F12 a u8 b (0 : Int32) (3 : Int32) (2 : Int32) z_5 (2 : Int32) yt)) rfl (rm17_3 hw  O ) (W 119 rfl) (W 104 rfl) (W 21 rfl) (W 105 rfl) pd1 rfl d11_228 [.int 3] [] rfl rfl (by decide) 0 rfl (by decide)
  obtain ⟨z_10, kz_10, rfl, N10q, K10, V_z_c10, gz_10, gn_10⟩ := hQ10
  have N10 := Fr.app N5 N10q
  have E_a := E_a.keep K10
  have F_v_a := F_v_a.keep K10 nin0
  have F_c_a := F_c_a.keep K10 nin0
  have V_b := V_b.keep K10 nin0
  have E_b := E_b.keep K10
  have V_z_c5 := V_z_c5.keep K10 nin0
  have E_z_c5 := E_z_c5.keep K10
  have ne_a_z_10 : a ≠ z_10 := Nat.ne_of_lt (Nat.lt_of_lt_of_le lt10_a gz_10)
  have ne_b_z_10 : b ≠ z_10 := Nat.ne_of_lt (Nat.lt_of_lt_of_le lt10_b gz_10)
  have ne_z_5_z_10 : z_5 ≠ z_10 := Nat.ne_of_lt (Nat.lt_of_lt_of_le lt10_z_5 gz_10)
  have g_z_10 := gn_10
  have z_z_10 : h0.size ≤ z_10 := Nat.le_trans K.1 gz_10
  have O := O.keep K10 all0
  have K := K.trans K10 all0
  obtain ⟨_, T11, Lc11, X11, hQ11, st11⟩ := own_cS X10 Hb hZ hown hml (L := (own_F13 a u8 b (0 : Int32) (3 : Int32) (2 : Int32) z_5 (2 : Int32) z_10)) rfl (rm21_3_2 hw z_5 z_10 kb ya yb yt kz_10 O SU V_z_c5 V_z_c10 ne_z_5_z_10 g_z_10) (W 120 rfl) (W 121 rfl) (W 94 rfl) (W 122 rfl) pd13 rfl d11_241 [.ref z_5, .int 0, .ref z_10, .int 0, .int 2] [] rfl rfl (by decide) 0 rfl (by decide)
  obtain ⟨rfl, N11q, K11, V_d_c11⟩ := hQ11
  have N11 := Fr.app N10 N11q
  have E_a := E_a.keep K11
  have F_v_a := F_v_a.keep K11 (ninS ne_a_z_10 nin0)
  have F_c_a := F_c_a.keep K11 (ninS ne_a_z_10 nin0)
  have V_b := V_b.keep K11 (ninS ne_b_z_10 nin0)
  have E_b := E_b.keep K11
  have V_z_c5 := V_z_c5.keep K11 (ninS ne_z_5_z_10 nin0)
  have E_z_c5 := E_z_c5.keep K11
  have O := O.keep K11 (allS g_z_10 all0)
  have K := K.trans K11 (allS (Or.inr z_z_10) all0)
  obtain ⟨_, T12, Lc12, X12, hQ12, st12⟩ := own_cS X11 Hb hZ hown hml (L := (own_F13 a u8 b (0 : Int32) (3 : Int32) (2 : Int32) z_5 (2 : Int32) z_10)) rfl (rm27_B hw z_5 z_10 kb ya yb yt kz_10 (own_lo (ya &&& (255 : Int32))) (own_hi (ya &&& (255 : Int32))) (own_lo (yb &&& (255 : Int32))) (own_hi (yb &&& (255 : Int32))) O SU V_z_c5 V_d_c11 ne_z_5_z_10 nt g_z_10) (W 140 rfl) (W 141 rfl) (W 7 rfl) (W 142 rfl) pd26 rfl d11_255 [.ref z_5, .int 2, .int 3, .ref z_10, .int 2, .int 1] [] rfl rfl (by decide) 0 rfl (by decide)
  obtain ⟨rfl, N12q, K12, V_d_c12⟩ := hQ12
  have N12 := Fr.app N11 N12q
  have E_a := E_a.keep K12
  have F_v_a := F_v_a.keep K12 (ninS ne_a_z_10 nin0)
  have F_c_a := F_c_a.keep K12 (ninS ne_a_z_10 nin0)
  have V_b := V_b.keep K12 (ninS ne_b_z_10 nin0)
  have E_b := E_b.keep K12
  have V_z_c5 := V_z_c5.keep K12 (ninS ne_z_5_z_10 nin0)
  have E_z_c5 := E_z_c5.keep K12
  have O := O.keep K12 (allS g_z_10 all0)
  have K := K.trans K12 (allS (Or.inr z_z_10) all0)
  have ne_b_a : b ≠ a := (Exa.ne E_b E_a (by decide))
  obtain ⟨T13, h13, X13, e13, W13, st13⟩ := putF X12 hx hZ hown (host := "") (Or.inl (W 31 rfl)) Via.refl rfl F_v_a E_a (Or.inr ⟨(W 32 rfl), rfl, hnm⟩) (W 6 rfl) (ty := (.array .byte)) (by decide) rfl rfl (g := (mkF m 281 (own_F13 a u8 b (0 : Int32) (3 : Int32) (3 : Int32) z_5 (2 : Int32) z_10) [.ref z_10, .ref a])) rfl rfl (hb hby d11_281)
  have F_v_a := F_v_a.same W13
  have E_a := E_a.wr W13
  have F_c_a := F_c_a.other W13 (Or.inr (slot_ne (Or.inr (W 30 rfl)) (Or.inr (W 32 rfl)) (by decide) (t := .byte) (t' := (.array .byte)) (by decide) (by decide)))
  have V_b := V_b.other W13 ne_b_a
  have E_b := E_b.wr W13
  have V_z_c5 := V_z_c5.other W13 (Ne.symm ne_a_z_5)
  have E_z_c5 := E_z_c5.wr W13
  have V_d_c12 := V_d_c12.other W13 (Ne.symm ne_a_z_10)
  have O := O.wr W13 g_a
  have K := K.wr W13 (Or.inl (List.mem_of_getElem? (i := 0) rfl))
  have N13 := Fr.snoc X13 N12 g_a
  obtain ⟨T14, h14, X14, e14, W14, st14⟩ := putFN X13 hx hZ hown (W 29 rfl) Via.refl e13 F_c_a E_a (Or.inr ⟨(W 30 rfl), rfl, hnm⟩) (W 6 rfl) (ty := .byte) (v' := (.int 1)) (by decide) rfl rfl (g := (mkF m 286 (own_F13 a u8 b (0 : Int32) (3 : Int32) (3 : Int32) z_5 (2 : Int32) z_10) [.int 1, .ref a])) rfl rfl (hb hby d11_286)
  have F_c_a := F_c_a.same W14
  have E_a := E_a.wr W14
  have F_v_a := F_v_a.other W14 (Or.inr (slot_ne (Or.inr (W 32 rfl)) (Or.inr (W 30 rfl)) (by decide) (t := (.array .byte)) (t' := .byte) (by decide) (by decide)))
  have V_b := V_b.other W14 ne_b_a
  have E_b := E_b.wr W14
  have V_z_c5 := V_z_c5.other W14 (Ne.symm ne_a_z_5)
  have E_z_c5 := E_z_c5.wr W14
  have V_d_c12 := V_d_c12.other W14 (Ne.symm ne_a_z_10)
  have O := O.wr W14 g_a
  have K := K.wr W14 (Or.inl (List.mem_of_getElem? (i := 0) rfl))
  have N14 := Fr.snoc X14 N13 g_a
  have w15 : ∀ t, Steps p.tables e below (T14.setTop (mkF m 879 (own_F13 a u8 b (0 : Int32) (3 : Int32) (3 : Int32) z_5 (2 : Int32) z_10) [])) t → Steps p.tables e below (s₁.setTop (entryFrame m #[.ref a, .ref u8, .ref b, .int 0, .int 3] 11)) t := fun t k => by
    refine w9 t ?_
    refine zii X5 Hb (L' := (own_F12 a u8 b (0 : Int32) (3 : Int32) (2 : Int32) z_5 (2 : Int32) yt)) d11_184 rfl 2 rfl rfl <| zgo X5 Hb d11_187 190 (by decide) rfl <| ziL X5 Hb d11_190 rfl <| ziL X5 Hb d11_192 rfl <| zcy X5 Hb d11_194 (feq ((by decide) : ¬ ((2 : Int32) = (3 : Int32)))).2 226 (by decide) rfl <| ziL X5 Hb d11_226 rfl <| st10 _ <| zaS X10 Hb (L' := (own_F13 a u8 b (0 : Int32) (3 : Int32) (2 : Int32) z_5 (2 : Int32) z_10)) d11_231 rfl rfl ?_
    refine zaL X10 Hb d11_233 rfl rfl <| zic X10 Hb d11_235 0 rfl <| zaL X10 Hb d11_236 rfl rfl <| zic X10 Hb d11_238 0 rfl <| ziL X10 Hb d11_239 rfl <| st11 _ <| zaL X11 Hb d11_244 rfl rfl <| ziL X11 Hb d11_246 rfl ?_
    refine ziL X11 Hb d11_248 rfl <| zaL X11 Hb d11_250 rfl rfl <| ziL X11 Hb d11_252 rfl <| zic X11 Hb d11_254 1 rfl <| st12 _ <| ziS X12 Hb (L' := (own_F13 a u8 b (0 : Int32) (3 : Int32) (3 : Int32) z_5 (2 : Int32) z_10)) d11_258 rfl <| ziL X12 Hb d11_260 rfl <| ziL X12 Hb d11_262 rfl ?_
    refine zcy X12 Hb d11_264 (teq (rfl : (3 : Int32) = (3 : Int32))).1 278 (by decide) rfl <| zal X12 Hb d11_278 rfl rfl <| zaL X12 Hb d11_279 rfl rfl <| st13 _ <| zal X13 Hb d11_284 rfl rfl <| zic X13 Hb d11_285 1 rfl <| st14 _ <| zgo X14 Hb d11_289 879 (by decide) rfl ?_
    exact k
  obtain ⟨fs, hr, hrun, hended, hW, hsame⟩ := X14.leave (v := none) (fun _ => rfl)
  refine ⟨_, _, w15 _ ?_, hrun, hended, _, _, rfl, ?_, ⟨_, rfl⟩, hW, hsame.mono (by decide) (by decide)⟩
  · exact X14.returnOut hx Bd.returns (hb hby d11_879) hr
  · show Q11_B Z a u8 b kb ya yb yt  h0 n0 _ T14.heap _
    rw [e14]
    exact ⟨z_10, kz_10, rfl, N14, K, F_v_a, F_c_a, V_d_c12⟩
theorem rm9_B {l : Launch} {Z : State} {a0 : Array Value} (hw : own_W a0 Z) (a b u8 : Addr) (kb : ClassId) (ya yb yt : Int32) {zc : Int32} {fm : Value} {h0 : Heap} {n0 : Nat} (O0 : Old Z n0 h0) (SU : own_SU Z zc fm u8) (E_a : Exa Z h0 a "java/lang/String") (F_v_a : Fld Z h0 a "java/lang/String" "value" "[B" .null) (F_c_a : Fld Z h0 a "java/lang/String" "coder" "B" (.int 0)) (V_b : Arv Z h0 b kb .byte (3 : Int32) [.int ya, .int yb, .int yt] (.int 0)) (E_b : Exa Z h0 b "[B") (E_u8 : Exa Z h0 u8 "sun/nio/cs/UTF_8") (na : ¬ ya < (0 : Int32)) (nb : ¬ yb < (0 : Int32)) (nt : yt < (0 : Int32)) (g_a : n0 ≤ a) : own_M l own_n9 jdk_42_method_49_code 3 none (own_rm 6 2 12 98) Z h0 #[.ref a, .ref b, .ref u8] (fun v h L => ∃ t1 : Addr, ∃ kt : ClassId, v = none ∧ Fr n0 L ∧ Keep h0 h [a] ∧ Fld Z h a "java/lang/String" "value" "[B" (.ref t1) ∧ Fld Z h a "java/lang/String" "coder" "B" (.int 1) ∧ Arv Z h t1 kt .byte (6 : Int32) [(.int (own_lo (ya &&& (255 : Int32)))), (.int (own_hi (ya &&& (255 : Int32)))), (.int (own_lo (yb &&& (255 : Int32)))), (.int (own_hi (yb &&& (255 : Int32)))), (.int (own_lo (65533 : Int32))), (.int (own_hi (65533 : Int32)))] (.int 0)) := by
  refine own_body (L0 := #[.val (.ref a), .val (.ref b), .val (.ref u8)]) (plainFor_of_name pn_java_lang_String) rfl rfl ?_
  intro p e s m below meth c s₁ f0 Bd hx Hb hml hZ hown X0 e0 pre0
  have hby := Hb.2
  have W := own_q hw
  have N0 := Fr.nil n0
  have O := O0
  have K := Keep.refl h0 [a]
  obtain ⟨_, T1, Lc1, X1, hQ1, st1⟩ := own_cS X0 Hb hZ hown hml (L := #[.val (.ref a), .val (.ref b), .val (.ref u8)]) rfl (rm10 hw u8 O ) (W 58 rfl) (W 59 rfl) (W 60 rfl) (W 61 rfl) pd23 e0 d9_2 [.ref u8] [.ref a] rfl rfl (by decide) 1 rfl (by decide)
  obtain ⟨rfl, N1q, eh1⟩ := hQ1
  have N1 := Fr.app N0 N1q
  obtain ⟨T2, X2, e2, st2⟩ := castY X1 hx hZ hown (W 62 rfl) eh1 (Ins.of_exa E_u8 (W 63 rfl)) (g := (mkF m 5 #[.val (.ref a), .val (.ref b), .val (.ref u8)] [.ref u8, .ref a])) rfl rfl (hb hby d9_5)
  have B3 := own_ln V_b
  have ne_b_a : b ≠ a := (Exa.ne E_b E_a (by decide))
  obtain ⟨_, _, ⟨T4, L4, k4, n4⟩, -, X4, ⟨Lc4, hQ4, l4, y4, z4⟩, st4⟩ := X2.specialBackH hx (y := own_n11) rfl hown (mvT hZ (W 64 rfl)) (mvT hZ (W 65 rfl)) (mvT hZ (W 66 rfl)) (by decide) (backOfWith (W := 0) (rm11_B l Z a0 hw [] a u8 b kb ya yb yt h0 n0 O SU E_a F_v_a F_c_a V_b E_b na nb nt g_a) hZ (W 66 rfl) (W 7 rfl) (by decide) (by decide)) (g := (mkF m 12 #[.val (.ref a), .val (.ref b), .val (.ref u8)] [.int 3, .int 0, .ref b, .ref u8, .ref a])) rfl (by rw [hml]; rfl) (Steps.refl _) (a := a) (argsL := [.ref u8, .ref b, .int 0, .int 3]) (rest := []) (lenOf pd24 rfl) rfl (by show 2 * 0 + _ ≤ _; exact Nat.le_of_eq rfl) (hb hby d9_12) (fun _ _ => ⟨rfl, e2, (by decide : 0 + 2 ≤ _), (by decide : 0 + 12 ≤ _)⟩)
  dsimp only [Pt.U, Pt.locs, Pt.cells, Pt.slots] at X4 l4 y4 z4 st4 hQ4
  have X4 := own_un X4 l4 y4 z4
  obtain ⟨t1_4, kt_4, rfl, N4q, K4, F_v_a_c4, F_c_a_c4, V_t_c4⟩ := hQ4
  have N4 := Fr.app N1 N4q
  have E_a := E_a.keep K4
  have V_b := V_b.keep K4 (ninS ne_b_a nin0)
  have E_b := E_b.keep K4
  have E_u8 := E_u8.keep K4
  have O := O.keep K4 (allS g_a all0)
  have K := K.trans K4 (allS (Or.inl (List.mem_of_getElem? (i := 0) rfl)) all0)
  have w5 : own_Go p e below f0 T4 m 15 #[.val (.ref a), .val (.ref b), .val (.ref u8)] [] := fun t k => by
    refine pre0 t ?_
    refine zal X0 Hb d9_0 rfl rfl <| zal X0 Hb d9_1 rfl rfl <| st1 _ <| st2 _ <| zal X2 Hb d9_8 rfl rfl <| zic X2 Hb d9_9 0 rfl <| zal X2 Hb d9_10 rfl rfl <| zal_ X2 Hb hZ e2 B3 d9_11 ?_
    refine st4.trans ?_
    exact k
  exact own_oV X4 Hb Bd.notSynchronized Bd.returns w5 d9_15 rfl (by decide) (by decide) ⟨t1_4, kt_4, rfl, N4, K, F_v_a_c4, F_c_a_c4, V_t_c4⟩
theorem rm8_B {l : Launch} {Z : State} {a0 : Array Value} (hw : own_W a0 Z) (a rb : Addr) (kb : ClassId) (ya yb yt : Int32) {zc : Int32} {fm : Value} {u8 : Addr} {h0 : Heap} {n0 : Nat} (O0 : Old Z n0 h0) (SU : own_SU Z zc fm u8) (F_b_a : Fld Z h0 a "com/example/gradual_reply/gradualreply/EncodedBody" "bytes" "[B" (.ref rb)) (V_rb : Arv Z h0 rb kb .byte (3 : Int32) [.int ya, .int yb, .int yt] (.int 0)) (E_rb : Exa Z h0 rb "[B") (E_u8 : Exa Z h0 u8 "sun/nio/cs/UTF_8") (na : ¬ ya < (0 : Int32)) (nb : ¬ yb < (0 : Int32)) (nt : yt < (0 : Int32)) : own_M l own_n8 prog_6_method_4_code 1 (some (.object "java/lang/String")) (own_rm 7 3 16 113) Z h0 #[.ref a] (fun v h L => ∃ z : Addr, ∃ t1 : Addr, ∃ kt : ClassId, v = some (.ref z) ∧ Fr n0 L ∧ Keep h0 h [] ∧ Exa Z h z "java/lang/String" ∧ Fld Z h z "java/lang/String" "value" "[B" (.ref t1) ∧ Fld Z h z "java/lang/String" "coder" "B" (.int 1) ∧ Arv Z h t1 kt .byte (6 : Int32) [(.int (own_lo (ya &&& (255 : Int32)))), (.int (own_hi (ya &&& (255 : Int32)))), (.int (own_lo (yb &&& (255 : Int32)))), (.int (own_hi (yb &&& (255 : Int32)))), (.int (own_lo (65533 : Int32))), (.int (own_hi (65533 : Int32)))] (.int 0)) := by
  refine own_body (L0 := #[.val (.ref a)]) (plainFor_of_name pn_com_example_gradual_reply_gradualreply_EncodedBody) rfl rfl ?_
  intro p e s m below meth c s₁ f0 Bd hx Hb hml hZ hown X0 e0 pre0
  have hby := Hb.2
  have W := own_q hw
  have N0 := Fr.nil n0
  have O := O0
  have K := Keep.refl h0 []
  obtain ⟨T1, h1, X1, e1, E1, A1, D1, -, st1⟩ := newO X0 hx hZ hown (W 52 rfl) (W 6 rfl) (W 7 rfl) e0 (g := (mkF m 0 #[.val (.ref a)] [])) rfl (hb hby d8_0) (by decide) (by decide)
  obtain ⟨b1, gq1⟩ : ∃ z, z = Array.size h0 := ⟨_, rfl⟩
  rw [← gq1] at A1 D1 st1
  have ne_a_b1 : a ≠ b1 := Nat.ne_of_lt (Nat.lt_of_lt_of_le F_b_a.lt (Nat.le_of_eq gq1.symm))
  have ne_rb_b1 : rb ≠ b1 := Nat.ne_of_lt (Nat.lt_of_lt_of_le V_rb.lt (Nat.le_of_eq gq1.symm))
  have ne_u8_b1 : u8 ≠ b1 := Nat.ne_of_lt (Nat.lt_of_lt_of_le E_u8.lt (Nat.le_of_eq gq1.symm))
  have g_b1 : n0 ≤ b1 := Nat.le_trans (O.1 ▸ O.2.1) (Nat.le_of_eq gq1.symm)
  have z_b1 : h0.size ≤ b1 := Nat.le_trans K.1 (Nat.le_of_eq gq1.symm)
  have F_b_a := F_b_a.ext E1
  have V_rb := V_rb.ext E1
  have E_rb := E_rb.ext E1
  have E_u8 := E_u8.ext E1
  have O := O.ext E1
  have K := K.ext E1
  have F_coder_b1 : Fld Z h1 b1 "java/lang/String" "coder" "B" (.int 0) := D1 (Or.inr (W 30 rfl)) (ty := .byte) (by decide)
  have F_value_b1 : Fld Z h1 b1 "java/lang/String" "value" "[B" .null := D1 (Or.inr (W 32 rfl)) (ty := (.array .byte)) (by decide)
  obtain ⟨T2, X2, e2, st2⟩ := getF X1 hx hZ hown (host := "") (Or.inl (W 45 rfl)) Via.refl e1 F_b_a (g := (mkF m 5 #[.val (.ref a)] [.ref a, .ref b1, .ref b1])) rfl rfl (hb hby d8_5)
  obtain ⟨T3, X3, e3, st3⟩ := getS2 X2 hx hZ hown (host := "") (Or.inl (W 53 rfl)) Via.refl e2 (SU.2.2.2.2.2.1.ext O.2) (g := (mkF m 8 #[.val (.ref a)] [.ref rb, .ref b1, .ref b1])) rfl (hb hby d8_8)
  obtain ⟨_, T4, Lc4, X4, hQ4, st4⟩ := own_cI X3 Hb hZ hown hml (L := #[.val (.ref a)]) rfl (rm9_B hw b1 rb u8 kb ya yb yt O SU A1 F_value_b1 F_coder_b1 V_rb E_rb E_u8 na nb nt g_b1) (W 55 rfl) (W 56 rfl) (W 7 rfl) (W 57 rfl) pd25 e3 d8_11 b1 [.ref rb, .ref u8] [.ref b1] rfl rfl (by decide) 1 rfl (by decide)
  obtain ⟨t1_4, kt_4, rfl, N4q, K4, F_v_a_c4, F_c_a_c4, V_t_c4⟩ := hQ4
  have N4 := Fr.app N0 N4q
  have F_b_a := F_b_a.keep K4 (ninS ne_a_b1 nin0)
  have V_rb := V_rb.keep K4 (ninS ne_rb_b1 nin0)
  have E_rb := E_rb.keep K4
  have E_u8 := E_u8.keep K4
  have A1 := A1.keep K4
  have O := O.keep K4 (allS g_b1 all0)
  have K := K.trans K4 (allS (Or.inr z_b1) all0)
  have w5 : own_Go p e below f0 T4 m 14 #[.val (.ref a)] [.ref b1] := fun t k => by
    refine pre0 t ?_
    refine st1 _ <| zdu X1 Hb d8_3 rfl <| zal X1 Hb d8_4 rfl rfl <| st2 _ <| st3 _ <| st4 _ ?_
    exact k
  exact own_oR X4 Hb Bd.notSynchronized Bd.returns rfl w5 d8_14 rfl (by decide) (by decide) ⟨b1, t1_4, kt_4, rfl, N4, K, A1, F_v_a_c4, F_c_a_c4, V_t_c4⟩
theorem d11_148 : decode B11 148 = .ok (.aload 6, 2) := by decide +kernel
theorem d11_150 : decode B11 150 = .ok (.iload 7, 2) := by decide +kernel
theorem d11_152 : decode B11 152 = .ok (.baload, 1) := by decide +kernel
theorem d11_153 : decode B11 153 = .ok (.istore 9, 2) := by decide +kernel
def own_F14 (x0 : Addr) (x1 : Addr) (x2 : Addr) (x3 : Int32) (x4 : Int32) (x5 : Int32) (x6 : Addr) (x7 : Int32) (x8 : Int32) (x9 : Int32) : Array Slot := #[.val (.ref x0), .val (.ref x1), .val (.ref x2), .val (.int x3), .val (.int x4), .val (.int x5), .val (.ref x6), .val (.int x7), .val (.int x8), .val (.int x9), .unset]
theorem d11_155 : decode B11 155 = .ok (.iload 9, 2) := by decide +kernel
theorem d11_157 : decode B11 157 = .ok (.bipush (-64), 2) := by decide +kernel
theorem d11_159 : decode B11 159 = .ok (.if_icmp .ge 25, 3) := by decide +kernel
theorem d11_162 : decode B11 162 = .ok (.aload 6, 2) := by decide +kernel
theorem d11_164 : decode B11 164 = .ok (.iload 5, 2) := by decide +kernel
theorem d11_166 : decode B11 166 = .ok (.iinc 5 1, 3) := by decide +kernel
theorem d11_169 : decode B11 169 = .ok (.iload 8, 2) := by decide +kernel
theorem d11_171 : decode B11 171 = .ok (.iload 9, 2) := by decide +kernel
theorem d11_173 : decode B11 173 = .ok (.invokestatic 98, 3) := by decide +kernel
theorem d11_176 : decode B11 176 = .ok (.i2b, 1) := by decide +kernel
theorem d11_177 : decode B11 177 = .ok (.bastore, 1) := by decide +kernel
theorem d11_178 : decode B11 178 = .ok (.iinc 7 1, 3) := by decide +kernel
theorem d11_181 : decode B11 181 = .ok (.goto (-88), 3) := by decide +kernel
theorem d11_115 : decode B11 115 = .ok (.aload 6, 2) := by decide +kernel
theorem d11_117 : decode B11 117 = .ok (.iload 5, 2) := by decide +kernel
theorem d11_119 : decode B11 119 = .ok (.iinc 5 1, 3) := by decide +kernel
theorem d11_122 : decode B11 122 = .ok (.iload 8, 2) := by decide +kernel
theorem d11_124 : decode B11 124 = .ok (.i2b, 1) := by decide +kernel
theorem d11_125 : decode B11 125 = .ok (.bastore, 1) := by decide +kernel
theorem d11_126 : decode B11 126 = .ok (.goto (-33), 3) := by decide +kernel
theorem d11_197 : decode B11 197 = .ok (.iload 5, 2) := by decide +kernel
theorem d11_199 : decode B11 199 = .ok (.aload 6, 2) := by decide +kernel
theorem d11_201 : decode B11 201 = .ok (.arraylength, 1) := by decide +kernel
theorem d11_202 : decode B11 202 = .ok (.if_icmp .eq 12, 3) := by decide +kernel
theorem d11_205 : decode B11 205 = .ok (.aload 6, 2) := by decide +kernel
theorem d11_207 : decode B11 207 = .ok (.iload 5, 2) := by decide +kernel
theorem d11_209 : decode B11 209 = .ok (.invokestatic 102, 3) := by decide +kernel
theorem pd27 : parseMethodDescriptor "([BI)[B" = some ⟨[(.array .byte), .int], some (.array .byte)⟩ := by decide +kernel
theorem d11_212 : decode B11 212 = .ok (.astore 6, 2) := by decide +kernel
theorem d11_214 : decode B11 214 = .ok (.aload_n 0, 1) := by decide +kernel
theorem d11_215 : decode B11 215 = .ok (.aload 6, 2) := by decide +kernel
theorem d11_217 : decode B11 217 = .ok (.putfield 9, 3) := by decide +kernel
theorem d11_220 : decode B11 220 = .ok (.aload_n 0, 1) := by decide +kernel
theorem d11_221 : decode B11 221 = .ok (.iconst 0, 1) := by decide +kernel
theorem d11_222 : decode B11 222 = .ok (.putfield 15, 3) := by decide +kernel
theorem d11_225 : decode B11 225 = .ok (.return_, 1) := by decide +kernel
theorem ef_11_Cg (m : MethodId) (x0 : Addr) (x1 : Addr) (x2 : Addr) : entryFrame m #[.ref x0, .ref x1, .ref x2, .int 0, .int 4] 11 = mkF m 0 #[.val (.ref x0), .val (.ref x1), .val (.ref x2), .val (.int 0), .val (.int 4), .unset, .unset, .unset, .unset, .unset, .unset] [] := by first | (simp [entryFrame, mkF, argsToLocals, Value.category]; done) | rfl
def Q11_Cg (Z : State) (a : Addr) (u8 : Addr) (b : Addr) (kb : ClassId) (ya : Int32) (yb : Int32) (yc : Int32) (yt : Int32) (cw : Int32) (h0 : Heap) (n0 : Nat) (v : Option Value) (h : Heap) (L : List Loc) : Prop := ∃ t1 : Addr, ∃ kt : ClassId, v = none ∧ Fr n0 L ∧ Keep h0 h [a] ∧ Fld Z h a "java/lang/String" "value" "[B" (.ref t1) ∧ Fld Z h a "java/lang/String" "coder" "B" (.int 0) ∧ Arv Z h t1 kt .byte (3 : Int32) [.int ya, .int (own_b cw), .int (own_b yt)] (.int 0)
set_option maxRecDepth 65536 in
set_option maxHeartbeats 40000000 in
theorem rm11_Cg (l : Launch) (Z : State) (a0 : Array Value) (hw : ∀ d ∈ tables_1, d.before a0 Z = true) (ws : List Jvm.Cond) (a : Addr) (u8 : Addr) (b : Addr) (kb : ClassId) (ya : Int32) (yb : Int32) (yc : Int32) (yt : Int32) (cw : Int32) {zc : Int32} {fm : Value} (h0 : Heap) (n0 : Nat) (O0 : Old Z n0 h0) (SU : own_SU Z zc fm u8) (E_a : Exa Z h0 a "java/lang/String") (F_v_a : Fld Z h0 a "java/lang/String" "value" "[B" .null) (F_c_a : Fld Z h0 a "java/lang/String" "coder" "B" (.int 0)) (V_b : Arv Z h0 b kb .byte (4 : Int32) [.int ya, .int yb, .int yc, .int yt] (.int 0)) (E_b : Exa Z h0 b "[B") (na : ¬ ya < (0 : Int32)) (hp : own_P2 cw yb yc) (hl : cw < 256) (nt : ¬ yt < (0 : Int32)) (g_a : n0 ≤ a) :
    MetFree l (⟨"java/lang/String", "<init>", "(Ljava/nio/charset/Charset;[BII)V"⟩ : MethodName) (head1 (Jvm.Cond.codeWith (⟨"java/lang/String", "<init>", "(Ljava/nio/charset/Charset;[BII)V"⟩ : MethodName) jdk_42_method_11_code 11 none [((800 : Nat), (813 : Nat), (816 : Nat), (202 : Nat))] :: ws) ({ frames := 2, cells := 2, slots := 9, locals := 54 } : Room)) (fun aA uU => aA = #[.ref a, .ref u8, .ref b, .int 0, .int 4] ∧ Z.Warmed39 uU.vm ∧ uU.heap = h0) (fun _ _ _ _ _ => True) (fun _ uU oO uU' => ∃ vV lL, oO = .returned vV ∧ Q11_Cg Z a u8 b kb ya yb yc yt cw  h0 n0 vV uU'.heap lL ∧ FrameEnd uU oO uU' lL ({ frames := 2, cells := 2, slots := 9, locals := 54 } : Room).cells ({ frames := 2, cells := 2, slots := 9, locals := 54 } : Room).slots) := by
  refine MetFree.of_bodySF (plainFor_of_name pn_java_lang_String) hisWith ?_
  intro p e s m args below meth c s₁ Bd hml0 hP hK
  obtain ⟨rfl, hZ, hh⟩ := hP
  have hx := Bd.exec
  have hby := Bd.bytes
  have hml : c.maxLocals = 11 := hml0
  have hown : s.vm.findClass "java/lang/String" = some m.cls := findClass_of_methodNamed Bd.named
  have hnm := (name_of_methodNamed Bd.named Bd.method).1
  have X0 : Stand p l e ({ frames := 2, cells := 2, slots := 9, locals := 54 } : Room) s m #[.ref a, .ref u8, .ref b, .int 0, .int 4] below meth c s₁ [] 0 0 := Stand.of_body Bd
  have e0 : s₁.heap = h0 := by rw [← hh, Bd.state]; rfl
  have N0 := Fr.nil n0
  have O := O0
  have K := Keep.refl h0 [a]
  have Hb : own_H p c jdk_42_method_11_code := ⟨hx, hby⟩
  have W := own_q hw
  have pre0 : ∀ t, Steps p.tables e below (s₁.setTop (mkF m 0 #[.val (.ref a), .val (.ref u8), .val (.ref b), .val (.int 0), .val (.int 4), .unset, .unset, .unset, .unset, .unset, .unset] [])) t → Steps p.tables e below (s₁.setTop (entryFrame m #[.ref a, .ref u8, .ref b, .int 0, .int 4] 11)) t := fun t k => castTop (ef_11_Cg m a u8 b) k
  obtain ⟨T1, X1, e1, st1⟩ := initO X0 hx hZ hown (W 15 rfl) (W 16 rfl) (W 17 rfl) e0 (g := (mkF m 1 (own_F8 a u8 b (0 : Int32) (4 : Int32)) [.ref a])) rfl (by rw [hml]; rfl) rfl (hb hby d11_1) (by decide) (W := 0) (by show 2 * 0 + _ ≤ _; exact Nat.le_of_eq rfl) (by decide)
  obtain ⟨T2, X2, e2, st2⟩ := getS2 X1 hx hZ hown (host := "") (Or.inl (W 67 rfl)) Via.refl e1 (SU.2.2.2.2.2.2.1.ext O.2) (g := (mkF m 31 (own_F8 a u8 b (0 : Int32) (4 : Int32)) [.ref u8])) rfl (hb hby d11_31)
  obtain ⟨T3, X3, e3, st3⟩ := getS2 X2 hx hZ hown (host := "") (Or.inl (W 18 rfl)) Via.refl e2 (SU.2.2.2.1.ext O.2) (g := (mkF m 37 (own_F8 a u8 b (0 : Int32) (4 : Int32)) [])) rfl (hb hby d11_37)
  obtain ⟨_, T4, Lc4, X4, hQ4, st4⟩ := own_cS X3 Hb hZ hown hml (L := (own_F8 a u8 b (0 : Int32) (4 : Int32))) rfl (rm12_4_1 hw b kb ya yb yc yt O V_b na hp.1) (W 69 rfl) (W 70 rfl) (W 71 rfl) (W 72 rfl) pd21 e3 d11_47 [.ref b, .int 0, .int 4] [] rfl rfl (by decide) 0 rfl (by decide)
  obtain ⟨rfl, N4q, eh4⟩ := hQ4
  have N4 := Fr.app N0 N4q
  have lt5_a := E_a.lt
  have lt5_b := V_b.lt
  obtain ⟨_, T5, Lc5, X5, hQ5, st5⟩ := own_cS X4 Hb hZ hown hml (L := (own_F9 a u8 b (0 : Int32) (4 : Int32) (1 : Int32))) rfl (rm13 hw b (4 : Int32) kb [.int ya, .int yb, .int yc, .int yt] O V_b E_b (by decide)) (W 73 rfl) (W 74 rfl) (W 75 rfl) (W 76 rfl) pd22 eh4 d11_84 [.ref b, .int 0, .int 4] [] rfl rfl (by decide) 0 rfl (by decide)
  obtain ⟨z_5, rfl, N5q, K5, V_z_c5, E_z_c5, gz_5, gn_5⟩ := hQ5
  have N5 := Fr.app N4 N5q
  have E_a := E_a.keep K5
  have F_v_a := F_v_a.keep K5 nin0
  have F_c_a := F_c_a.keep K5 nin0
  have V_b := V_b.keep K5 nin0
  have E_b := E_b.keep K5
  have ne_a_z_5 : a ≠ z_5 := Nat.ne_of_lt (Nat.lt_of_lt_of_le lt5_a gz_5)
  have ne_b_z_5 : b ≠ z_5 := Nat.ne_of_lt (Nat.lt_of_lt_of_le lt5_b gz_5)
  have g_z_5 := gn_5
  have z_z_5 : h0.size ≤ z_5 := Nat.le_trans K.1 gz_5
  have O := O.keep K5 all0
  have K := K.trans K5 all0
  have B6 : own_El Z (T5.heap) z_5 .byte (1 : Int32) (.int yb) := own_el V_z_c5 ⟨by decide, by decide⟩ rfl
  have B7 : own_El Z (T5.heap) z_5 .byte (2 : Int32) (.int yc) := own_el V_z_c5 ⟨by decide, by decide⟩ rfl
  obtain ⟨_, T8, Lc8, X8, hQ8, st8⟩ := own_cS X5 Hb hZ hown hml (L := (own_F14 a u8 b (0 : Int32) (4 : Int32) (2 : Int32) z_5 (2 : Int32) yb yc)) rfl (rm36 hw yb yc cw O hp.2.2.2.2.2.1) (W 180 rfl) (W 181 rfl) (W 7 rfl) (W 182 rfl) pd15 rfl d11_173 [.int yb, .int yc] [.int 1, .ref z_5] rfl rfl (by decide) 2 rfl (by decide)
  obtain ⟨rfl, N8q, eh8⟩ := hQ8
  have N8 := Fr.app N5 N8q
  obtain ⟨T9, h9, X9, e9, W9, V_z_c5, st9⟩ := own_sB X8 Hb hZ eh8 V_z_c5 (j := 1) (x := (cw.toInt8.toInt32)) (L := (own_F14 a u8 b (0 : Int32) (4 : Int32) (2 : Int32) z_5 (2 : Int32) yb yc)) (S := []) (vs' := [.int ya, (.int ((cw.toInt8.toInt32).toInt8.toInt32)), .int yc, .int yt]) ⟨by decide, by decide⟩ rfl (Nat.le_of_ble_eq_true rfl) d11_177 rfl
  have E_a := E_a.wr W9
  have F_v_a := F_v_a.other W9 (Or.inl ne_a_z_5)
  have F_c_a := F_c_a.other W9 (Or.inl ne_a_z_5)
  have V_b := V_b.other W9 ne_b_z_5
  have E_b := E_b.wr W9
  have E_z_c5 := E_z_c5.wr W9
  have O := O.wr W9 g_z_5
  have K := K.wr W9 (Or.inr z_z_5)
  have N9 := Fr.snoc X9 N8 g_z_5
  have B10 : own_El Z h9 z_5 .byte (3 : Int32) (.int yt) := own_el V_z_c5 ⟨by decide, by decide⟩ rfl
  obtain ⟨T11, h11, X11, e11, W11, V_z_c5, st11⟩ := own_sB X9 Hb hZ e9 V_z_c5 (j := 2) (x := (yt.toInt8.toInt32)) (L := (own_F14 a u8 b (0 : Int32) (4 : Int32) (3 : Int32) z_5 (4 : Int32) yt yc)) (S := []) (vs' := [.int ya, (.int ((cw.toInt8.toInt32).toInt8.toInt32)), (.int ((yt.toInt8.toInt32).toInt8.toInt32)), .int yt]) ⟨by decide, by decide⟩ rfl (Nat.le_of_ble_eq_true rfl) d11_125 rfl
  have E_a := E_a.wr W11
  have F_v_a := F_v_a.other W11 (Or.inl ne_a_z_5)
  have F_c_a := F_c_a.other W11 (Or.inl ne_a_z_5)
  have V_b := V_b.other W11 ne_b_z_5
  have E_b := E_b.wr W11
  have E_z_c5 := E_z_c5.wr W11
  have O := O.wr W11 g_z_5
  have K := K.wr W11 (Or.inr z_z_5)
  have N11 := Fr.snoc X11 N9 g_z_5
  have B12 := own_ln V_z_c5
  have lt13_a := E_a.lt
  have lt13_b := V_b.lt
  have lt13_z_5 := V_z_c5.lt
  obtain ⟨_, T13, Lc13, X13, hQ13, st13⟩ := own_cS X11 Hb hZ hown hml (L := (own_F14 a u8 b (0 : Int32) (4 : Int32) (3 : Int32) z_5 (4 : Int32) yt yc)) rfl (rm33_4_3 hw z_5 kb ya ((cw.toInt8.toInt32).toInt8.toInt32) ((yt.toInt8.toInt32).toInt8.toInt32) yt O V_z_c5) (W 166 rfl) (W 167 rfl) (W 75 rfl) (W 168 rfl) pd27 e11 d11_209 [.ref z_5, .int 3] [] rfl rfl (by decide) 0 rfl (by decide)
  obtain ⟨z_13, kz_13, rfl, N13q, K13, V_z_c13, gz_13, gn_13⟩ := hQ13
  have N13 := Fr.app N11 N13q
  have E_a := E_a.keep K13
  have F_v_a := F_v_a.keep K13 nin0
  have F_c_a := F_c_a.keep K13 nin0
  have V_b := V_b.keep K13 nin0
  have E_b := E_b.keep K13
  have V_z_c5 := V_z_c5.keep K13 nin0
  have E_z_c5 := E_z_c5.keep K13
  have ne_a_z_13 : a ≠ z_13 := Nat.ne_of_lt (Nat.lt_of_lt_of_le lt13_a gz_13)
  have ne_b_z_13 : b ≠ z_13 := Nat.ne_of_lt (Nat.lt_of_lt_of_le lt13_b gz_13)
  have ne_z_5_z_13 : z_5 ≠ z_13 := Nat.ne_of_lt (Nat.lt_of_lt_of_le lt13_z_5 gz_13)
  have g_z_13 := gn_13
  have z_z_13 : h0.size ≤ z_13 := Nat.le_trans K.1 gz_13
  have O := O.keep K13 all0
  have K := K.trans K13 all0
  have ne_b_a : b ≠ a := (Exa.ne E_b E_a (by decide))
  obtain ⟨T14, h14, X14, e14, W14, st14⟩ := putF X13 hx hZ hown (host := "") (Or.inl (W 31 rfl)) Via.refl rfl F_v_a E_a (Or.inr ⟨(W 32 rfl), rfl, hnm⟩) (W 6 rfl) (ty := (.array .byte)) (by decide) rfl rfl (g := (mkF m 217 (own_F14 a u8 b (0 : Int32) (4 : Int32) (3 : Int32) z_13 (4 : Int32) yt yc) [.ref z_13, .ref a])) rfl rfl (hb hby d11_217)
  have F_v_a := F_v_a.same W14
  have E_a := E_a.wr W14
  have F_c_a := F_c_a.other W14 (Or.inr (slot_ne (Or.inr (W 30 rfl)) (Or.inr (W 32 rfl)) (by decide) (t := .byte) (t' := (.array .byte)) (by decide) (by decide)))
  have V_b := V_b.other W14 ne_b_a
  have E_b := E_b.wr W14
  have V_z_c5 := V_z_c5.other W14 (Ne.symm ne_a_z_5)
  have E_z_c5 := E_z_c5.wr W14
  have V_z_c13 := V_z_c13.other W14 (Ne.symm ne_a_z_13)
  have O := O.wr W14 g_a
  have K := K.wr W14 (Or.inl (List.mem_of_getElem? (i := 0) rfl))
  have N14 := Fr.snoc X14 N13 g_a
  obtain ⟨T15, h15, X15, e15, W15, st15⟩ := putFN X14 hx hZ hown (W 29 rfl) Via.refl e14 F_c_a E_a (Or.inr ⟨(W 30 rfl), rfl, hnm⟩) (W 6 rfl) (ty := .byte) (v' := (.int 0)) (by decide) rfl rfl (g := (mkF m 222 (own_F14 a u8 b (0 : Int32) (4 : Int32) (3 : Int32) z_13 (4 : Int32) yt yc) [.int 0, .ref a])) rfl rfl (hb hby d11_222)
  have F_c_a := F_c_a.same W15
  have E_a := E_a.wr W15
  have F_v_a := F_v_a.other W15 (Or.inr (slot_ne (Or.inr (W 32 rfl)) (Or.inr (W 30 rfl)) (by decide) (t := (.array .byte)) (t' := .byte) (by decide) (by decide)))
  have V_b := V_b.other W15 ne_b_a
  have E_b := E_b.wr W15
  have V_z_c5 := V_z_c5.other W15 (Ne.symm ne_a_z_5)
  have E_z_c5 := E_z_c5.wr W15
  have V_z_c13 := V_z_c13.other W15 (Ne.symm ne_a_z_13)
  have O := O.wr W15 g_a
  have K := K.wr W15 (Or.inl (List.mem_of_getElem? (i := 0) rfl))
  have N15 := Fr.snoc X15 N14 g_a
  have w16 : ∀ t, Steps p.tables e below (T15.setTop (mkF m 225 (own_F14 a u8 b (0 : Int32) (4 : Int32) (3 : Int32) z_13 (4 : Int32) yt yc) [])) t → Steps p.tables e below (s₁.setTop (entryFrame m #[.ref a, .ref u8, .ref b, .int 0, .int 4] 11)) t := fun t k => by
    refine pre0 t ?_
    refine zal X0 Hb d11_0 rfl rfl <| st1 _ <| ziL X1 Hb d11_4 rfl <| ziy X1 Hb d11_6 ((if0 _ _).trans (feq ((by decide) : ¬ ((4 : Int32) = (0 : Int32)))).2) 30 (by decide) rfl <| zal X1 Hb d11_30 rfl rfl <| st2 _ <| Jvm.RoadKit.acmp (g := (mkF m 34 (own_F8 a u8 b (0 : Int32) (4 : Int32)) [.ref u8, .ref u8])) X2 hx rfl rfl rfl (pc0 := 34) (pc' := 37) (same := true) rfl (hb hby d11_34) rfl (decide_eq_true rfl) (by decide) (by decide) <| st3 _ ?_
    refine zin X3 Hb d11_40 ((if0 _ _).trans (feq (SU.2.2.2.2.2.2.2.1 : ¬ (zc = (0 : Int32)))).1) <| zal X3 Hb d11_43 rfl rfl <| zil X3 Hb d11_44 rfl <| ziL X3 Hb d11_45 rfl <| st4 _ <| ziS X4 Hb (L' := (own_F9 a u8 b (0 : Int32) (4 : Int32) (1 : Int32))) d11_50 rfl <| ziL X4 Hb d11_52 rfl <| ziL X4 Hb d11_54 rfl ?_
    refine zcy X4 Hb d11_56 (feq ((by decide) : ¬ ((1 : Int32) = (4 : Int32)))).2 78 (by decide) rfl <| zal X4 Hb d11_78 rfl rfl <| zil X4 Hb d11_79 rfl <| zil X4 Hb d11_80 rfl <| ziL X4 Hb d11_81 rfl <| zia' X4 Hb d11_83 4 rfl <| st5 _ <| zaS X5 Hb (L' := (own_F10 a u8 b (0 : Int32) (4 : Int32) (1 : Int32) z_5)) d11_87 rfl rfl ?_
    refine ziL X5 Hb d11_89 rfl <| ziS X5 Hb (L' := (own_F11 a u8 b (0 : Int32) (4 : Int32) (1 : Int32) z_5 (1 : Int32))) d11_91 rfl <| ziL X5 Hb d11_93 rfl <| ziL X5 Hb d11_95 rfl <| zcn X5 Hb d11_97 (tlt ((by decide) : (1 : Int32) < (4 : Int32))).2.1 <| zaL X5 Hb d11_100 rfl rfl <| ziL X5 Hb d11_102 rfl <| zii X5 Hb (L' := (own_F11 a u8 b (0 : Int32) (4 : Int32) (1 : Int32) z_5 (2 : Int32))) d11_104 rfl 2 rfl rfl ?_
    refine zba X5 Hb hZ rfl B6 d11_107 <| ziS X5 Hb (L' := (own_F12 a u8 b (0 : Int32) (4 : Int32) (1 : Int32) z_5 (2 : Int32) yb)) d11_108 rfl <| ziL X5 Hb d11_110 rfl <| ziy X5 Hb d11_112 ((if0 _ _).trans (tlt (hp.1 : yb < (0 : Int32))).1) 129 (by decide) rfl <| ziL X5 Hb d11_129 rfl <| zsp X5 Hb d11_131 254 rfl <| zan X5 Hb d11_134 <| zsp X5 Hb d11_135 194 rfl ?_
    refine zcn X5 Hb d11_138 (teq (hp.2.2.2.2.2.2.mpr hl : (yb &&& (254 : Int32)) = (194 : Int32))).2 <| ziL X5 Hb d11_141 rfl <| ziL X5 Hb d11_143 rfl <| zcn X5 Hb d11_145 (tlt ((by decide) : (2 : Int32) < (4 : Int32))).2.1 <| zaL X5 Hb d11_148 rfl rfl <| ziL X5 Hb d11_150 rfl <| zba X5 Hb hZ rfl B7 d11_152 <| ziS X5 Hb (L' := (own_F14 a u8 b (0 : Int32) (4 : Int32) (1 : Int32) z_5 (2 : Int32) yb yc)) d11_153 rfl ?_
    refine ziL X5 Hb d11_155 rfl <| zbp X5 Hb d11_157 (-64) rfl <| zcn X5 Hb d11_159 (tlt (hp.2.2.2.2.1 : yc < (-64 : Int32))).2.1 <| zaL X5 Hb d11_162 rfl rfl <| ziL X5 Hb d11_164 rfl <| zii X5 Hb (L' := (own_F14 a u8 b (0 : Int32) (4 : Int32) (2 : Int32) z_5 (2 : Int32) yb yc)) d11_166 rfl 2 rfl rfl <| ziL X5 Hb d11_169 rfl <| ziL X5 Hb d11_171 rfl ?_
    refine st8 _ <| zib X8 Hb d11_176 <| st9 _ <| zii X9 Hb (L' := (own_F14 a u8 b (0 : Int32) (4 : Int32) (2 : Int32) z_5 (3 : Int32) yb yc)) d11_178 rfl 3 rfl rfl <| zgo X9 Hb d11_181 93 (by decide) rfl <| ziL X9 Hb d11_93 rfl <| ziL X9 Hb d11_95 rfl <| zcn X9 Hb d11_97 (tlt ((by decide) : (3 : Int32) < (4 : Int32))).2.1 ?_
    refine zaL X9 Hb d11_100 rfl rfl <| ziL X9 Hb d11_102 rfl <| zii X9 Hb (L' := (own_F14 a u8 b (0 : Int32) (4 : Int32) (2 : Int32) z_5 (4 : Int32) yb yc)) d11_104 rfl 4 rfl rfl <| zba X9 Hb hZ e9 B10 d11_107 <| ziS X9 Hb (L' := (own_F14 a u8 b (0 : Int32) (4 : Int32) (2 : Int32) z_5 (4 : Int32) yt yc)) d11_108 rfl <| ziL X9 Hb d11_110 rfl <| zin X9 Hb d11_112 ((if0 _ _).trans (flt (nt : ¬ (yt < (0 : Int32)))).1) <| zaL X9 Hb d11_115 rfl rfl ?_
    refine ziL X9 Hb d11_117 rfl <| zii X9 Hb (L' := (own_F14 a u8 b (0 : Int32) (4 : Int32) (3 : Int32) z_5 (4 : Int32) yt yc)) d11_119 rfl 3 rfl rfl <| ziL X9 Hb d11_122 rfl <| zib X9 Hb d11_124 <| st11 _ <| zgo X11 Hb d11_126 93 (by decide) rfl <| ziL X11 Hb d11_93 rfl <| ziL X11 Hb d11_95 rfl ?_
    refine zcy X11 Hb d11_97 (flt ((by decide) : ¬ ((4 : Int32) < (4 : Int32)))).2.1 190 (by decide) rfl <| ziL X11 Hb d11_190 rfl <| ziL X11 Hb d11_192 rfl <| zcn X11 Hb d11_194 (teq (rfl : (4 : Int32) = (4 : Int32))).2 <| ziL X11 Hb d11_197 rfl <| zaL X11 Hb d11_199 rfl rfl <| zal_ X11 Hb hZ e11 B12 d11_201 <| zcn X11 Hb d11_202 (feq ((by decide) : ¬ ((3 : Int32) = (4 : Int32)))).1 ?_
    refine zaL X11 Hb d11_205 rfl rfl <| ziL X11 Hb d11_207 rfl <| st13 _ <| zaS X13 Hb (L' := (own_F14 a u8 b (0 : Int32) (4 : Int32) (3 : Int32) z_13 (4 : Int32) yt yc)) d11_212 rfl rfl <| zal X13 Hb d11_214 rfl rfl <| zaL X13 Hb d11_215 rfl rfl <| st14 _ <| zal X14 Hb d11_220 rfl rfl ?_
    refine zic X14 Hb d11_221 0 rfl <| st15 _ ?_
    exact k
  obtain ⟨fs, hr, hrun, hended, hW, hsame⟩ := X15.leave (v := none) (fun _ => rfl)
  refine ⟨_, _, w16 _ ?_, hrun, hended, _, _, rfl, ?_, ⟨_, rfl⟩, hW, hsame.mono (by decide) (by decide)⟩
  · exact X15.returnOut hx Bd.returns (hb hby d11_225) hr
  · show Q11_Cg Z a u8 b kb ya yb yc yt cw  h0 n0 _ T15.heap _
    rw [e15]
    exact ⟨z_13, kz_13, rfl, N15, K, F_v_a, F_c_a, V_z_c13⟩
theorem rm9_Cg {l : Launch} {Z : State} {a0 : Array Value} (hw : own_W a0 Z) (a b u8 : Addr) (kb : ClassId) (ya yb yc yt cw : Int32) {zc : Int32} {fm : Value} {h0 : Heap} {n0 : Nat} (O0 : Old Z n0 h0) (SU : own_SU Z zc fm u8) (E_a : Exa Z h0 a "java/lang/String") (F_v_a : Fld Z h0 a "java/lang/String" "value" "[B" .null) (F_c_a : Fld Z h0 a "java/lang/String" "coder" "B" (.int 0)) (V_b : Arv Z h0 b kb .byte (4 : Int32) [.int ya, .int yb, .int yc, .int yt] (.int 0)) (E_b : Exa Z h0 b "[B") (E_u8 : Exa Z h0 u8 "sun/nio/cs/UTF_8") (na : ¬ ya < (0 : Int32)) (hp : own_P2 cw yb yc) (hl : cw < 256) (nt : ¬ yt < (0 : Int32)) (g_a : n0 ≤ a) : own_M l own_n9 jdk_42_method_49_code 3 none (own_rm 3 2 9 76) Z h0 #[.ref a, .ref b, .ref u8] (fun v h L => ∃ t1 : Addr, ∃ kt : ClassId, v = none ∧ Fr n0 L ∧ Keep h0 h [a] ∧ Fld Z h a "java/lang/String" "value" "[B" (.ref t1) ∧ Fld Z h a "java/lang/String" "coder" "B" (.int 0) ∧ Arv Z h t1 kt .byte (3 : Int32) [.int ya, .int (own_b cw), .int (own_b yt)] (.int 0)) := by
  refine own_body (L0 := #[.val (.ref a), .val (.ref b), .val (.ref u8)]) (plainFor_of_name pn_java_lang_String) rfl rfl ?_
  intro p e s m below meth c s₁ f0 Bd hx Hb hml hZ hown X0 e0 pre0
  have hby := Hb.2
  have W := own_q hw
  have N0 := Fr.nil n0
  have O := O0
  have K := Keep.refl h0 [a]
  obtain ⟨_, T1, Lc1, X1, hQ1, st1⟩ := own_cS X0 Hb hZ hown hml (L := #[.val (.ref a), .val (.ref b), .val (.ref u8)]) rfl (rm10 hw u8 O ) (W 58 rfl) (W 59 rfl) (W 60 rfl) (W 61 rfl) pd23 e0 d9_2 [.ref u8] [.ref a] rfl rfl (by decide) 1 rfl (by decide)
  obtain ⟨rfl, N1q, eh1⟩ := hQ1
  have N1 := Fr.app N0 N1q
  obtain ⟨T2, X2, e2, st2⟩ := castY X1 hx hZ hown (W 62 rfl) eh1 (Ins.of_exa E_u8 (W 63 rfl)) (g := (mkF m 5 #[.val (.ref a), .val (.ref b), .val (.ref u8)] [.ref u8, .ref a])) rfl rfl (hb hby d9_5)
  have B3 := own_ln V_b
  have ne_b_a : b ≠ a := (Exa.ne E_b E_a (by decide))
  obtain ⟨_, _, ⟨T4, L4, k4, n4⟩, -, X4, ⟨Lc4, hQ4, l4, y4, z4⟩, st4⟩ := X2.specialBackH hx (y := own_n11) rfl hown (mvT hZ (W 64 rfl)) (mvT hZ (W 65 rfl)) (mvT hZ (W 66 rfl)) (by decide) (backOfWith (W := 0) (rm11_Cg l Z a0 hw [] a u8 b kb ya yb yc yt cw h0 n0 O SU E_a F_v_a F_c_a V_b E_b na hp hl nt g_a) hZ (W 66 rfl) (W 7 rfl) (by decide) (by decide)) (g := (mkF m 12 #[.val (.ref a), .val (.ref b), .val (.ref u8)] [.int 4, .int 0, .ref b, .ref u8, .ref a])) rfl (by rw [hml]; rfl) (Steps.refl _) (a := a) (argsL := [.ref u8, .ref b, .int 0, .int 4]) (rest := []) (lenOf pd24 rfl) rfl (by show 2 * 0 + _ ≤ _; exact Nat.le_of_eq rfl) (hb hby d9_12) (fun _ _ => ⟨rfl, e2, (by decide : 0 + 2 ≤ _), (by decide : 0 + 9 ≤ _)⟩)
  dsimp only [Pt.U, Pt.locs, Pt.cells, Pt.slots] at X4 l4 y4 z4 st4 hQ4
  have X4 := own_un X4 l4 y4 z4
  obtain ⟨t1_4, kt_4, rfl, N4q, K4, F_v_a_c4, F_c_a_c4, V_t_c4⟩ := hQ4
  have N4 := Fr.app N1 N4q
  have E_a := E_a.keep K4
  have V_b := V_b.keep K4 (ninS ne_b_a nin0)
  have E_b := E_b.keep K4
  have E_u8 := E_u8.keep K4
  have O := O.keep K4 (allS g_a all0)
  have K := K.trans K4 (allS (Or.inl (List.mem_of_getElem? (i := 0) rfl)) all0)
  have w5 : own_Go p e below f0 T4 m 15 #[.val (.ref a), .val (.ref b), .val (.ref u8)] [] := fun t k => by
    refine pre0 t ?_
    refine zal X0 Hb d9_0 rfl rfl <| zal X0 Hb d9_1 rfl rfl <| st1 _ <| st2 _ <| zal X2 Hb d9_8 rfl rfl <| zic X2 Hb d9_9 0 rfl <| zal X2 Hb d9_10 rfl rfl <| zal_ X2 Hb hZ e2 B3 d9_11 ?_
    refine st4.trans ?_
    exact k
  exact own_oV X4 Hb Bd.notSynchronized Bd.returns w5 d9_15 rfl (by decide) (by decide) ⟨t1_4, kt_4, rfl, N4, K, F_v_a_c4, F_c_a_c4, V_t_c4⟩
theorem rm8_Cg {l : Launch} {Z : State} {a0 : Array Value} (hw : own_W a0 Z) (a rb : Addr) (kb : ClassId) (ya yb yc yt cw : Int32) {zc : Int32} {fm : Value} {u8 : Addr} {h0 : Heap} {n0 : Nat} (O0 : Old Z n0 h0) (SU : own_SU Z zc fm u8) (F_b_a : Fld Z h0 a "com/example/gradual_reply/gradualreply/EncodedBody" "bytes" "[B" (.ref rb)) (V_rb : Arv Z h0 rb kb .byte (4 : Int32) [.int ya, .int yb, .int yc, .int yt] (.int 0)) (E_rb : Exa Z h0 rb "[B") (E_u8 : Exa Z h0 u8 "sun/nio/cs/UTF_8") (na : ¬ ya < (0 : Int32)) (hp : own_P2 cw yb yc) (hl : cw < 256) (nt : ¬ yt < (0 : Int32)) : own_M l own_n8 prog_6_method_4_code 1 (some (.object "java/lang/String")) (own_rm 4 3 13 91) Z h0 #[.ref a] (fun v h L => ∃ z : Addr, ∃ t1 : Addr, ∃ kt : ClassId, v = some (.ref z) ∧ Fr n0 L ∧ Keep h0 h [] ∧ Exa Z h z "java/lang/String" ∧ Fld Z h z "java/lang/String" "value" "[B" (.ref t1) ∧ Fld Z h z "java/lang/String" "coder" "B" (.int 0) ∧ Arv Z h t1 kt .byte (3 : Int32) [.int ya, .int (own_b cw), .int (own_b yt)] (.int 0)) := by
  refine own_body (L0 := #[.val (.ref a)]) (plainFor_of_name pn_com_example_gradual_reply_gradualreply_EncodedBody) rfl rfl ?_
  intro p e s m below meth c s₁ f0 Bd hx Hb hml hZ hown X0 e0 pre0
  have hby := Hb.2
  have W := own_q hw
  have N0 := Fr.nil n0
  have O := O0
  have K := Keep.refl h0 []
  obtain ⟨T1, h1, X1, e1, E1, A1, D1, -, st1⟩ := newO X0 hx hZ hown (W 52 rfl) (W 6 rfl) (W 7 rfl) e0 (g := (mkF m 0 #[.val (.ref a)] [])) rfl (hb hby d8_0) (by decide) (by decide)
  obtain ⟨b1, gq1⟩ : ∃ z, z = Array.size h0 := ⟨_, rfl⟩
  rw [← gq1] at A1 D1 st1
  have ne_a_b1 : a ≠ b1 := Nat.ne_of_lt (Nat.lt_of_lt_of_le F_b_a.lt (Nat.le_of_eq gq1.symm))
  have ne_rb_b1 : rb ≠ b1 := Nat.ne_of_lt (Nat.lt_of_lt_of_le V_rb.lt (Nat.le_of_eq gq1.symm))
  have ne_u8_b1 : u8 ≠ b1 := Nat.ne_of_lt (Nat.lt_of_lt_of_le E_u8.lt (Nat.le_of_eq gq1.symm))
  have g_b1 : n0 ≤ b1 := Nat.le_trans (O.1 ▸ O.2.1) (Nat.le_of_eq gq1.symm)
  have z_b1 : h0.size ≤ b1 := Nat.le_trans K.1 (Nat.le_of_eq gq1.symm)
  have F_b_a := F_b_a.ext E1
  have V_rb := V_rb.ext E1
  have E_rb := E_rb.ext E1
  have E_u8 := E_u8.ext E1
  have O := O.ext E1
  have K := K.ext E1
  have F_coder_b1 : Fld Z h1 b1 "java/lang/String" "coder" "B" (.int 0) := D1 (Or.inr (W 30 rfl)) (ty := .byte) (by decide)
  have F_value_b1 : Fld Z h1 b1 "java/lang/String" "value" "[B" .null := D1 (Or.inr (W 32 rfl)) (ty := (.array .byte)) (by decide)
  obtain ⟨T2, X2, e2, st2⟩ := getF X1 hx hZ hown (host := "") (Or.inl (W 45 rfl)) Via.refl e1 F_b_a (g := (mkF m 5 #[.val (.ref a)] [.ref a, .ref b1, .ref b1])) rfl rfl (hb hby d8_5)
  obtain ⟨T3, X3, e3, st3⟩ := getS2 X2 hx hZ hown (host := "") (Or.inl (W 53 rfl)) Via.refl e2 (SU.2.2.2.2.2.1.ext O.2) (g := (mkF m 8 #[.val (.ref a)] [.ref rb, .ref b1, .ref b1])) rfl (hb hby d8_8)
  obtain ⟨_, T4, Lc4, X4, hQ4, st4⟩ := own_cI X3 Hb hZ hown hml (L := #[.val (.ref a)]) rfl (rm9_Cg hw b1 rb u8 kb ya yb yc yt cw O SU A1 F_value_b1 F_coder_b1 V_rb E_rb E_u8 na hp hl nt g_b1) (W 55 rfl) (W 56 rfl) (W 7 rfl) (W 57 rfl) pd25 e3 d8_11 b1 [.ref rb, .ref u8] [.ref b1] rfl rfl (by decide) 1 rfl (by decide)
  obtain ⟨t1_4, kt_4, rfl, N4q, K4, F_v_a_c4, F_c_a_c4, V_t_c4⟩ := hQ4
  have N4 := Fr.app N0 N4q
  have F_b_a := F_b_a.keep K4 (ninS ne_a_b1 nin0)
  have V_rb := V_rb.keep K4 (ninS ne_rb_b1 nin0)
  have E_rb := E_rb.keep K4
  have E_u8 := E_u8.keep K4
  have A1 := A1.keep K4
  have O := O.keep K4 (allS g_b1 all0)
  have K := K.trans K4 (allS (Or.inr z_b1) all0)
  have w5 : own_Go p e below f0 T4 m 14 #[.val (.ref a)] [.ref b1] := fun t k => by
    refine pre0 t ?_
    refine st1 _ <| zdu X1 Hb d8_3 rfl <| zal X1 Hb d8_4 rfl rfl <| st2 _ <| st3 _ <| st4 _ ?_
    exact k
  exact own_oR X4 Hb Bd.notSynchronized Bd.returns rfl w5 d8_14 rfl (by decide) (by decide) ⟨b1, t1_4, kt_4, rfl, N4, K, A1, F_v_a_c4, F_c_a_c4, V_t_c4⟩
def own_F15 (x0 : Addr) (x1 : Addr) (x2 : Addr) (x3 : Int32) (x4 : Int32) (x5 : Int32) (x6 : Addr) (x7 : Int32) (x8 : Addr) (x9 : Int32) : Array Slot := #[.val (.ref x0), .val (.ref x1), .val (.ref x2), .val (.int x3), .val (.int x4), .val (.int x5), .val (.ref x6), .val (.int x7), .val (.ref x8), .val (.int x9), .unset]
theorem d11_267 : decode B11 267 = .ok (.aload 8, 2) := by decide +kernel
theorem d11_269 : decode B11 269 = .ok (.iload 5, 2) := by decide +kernel
theorem d11_271 : decode B11 271 = .ok (.iconst 1, 1) := by decide +kernel
theorem d11_272 : decode B11 272 = .ok (.ishl, 1) := by decide +kernel
theorem d11_273 : decode B11 273 = .ok (.invokestatic 102, 3) := by decide +kernel
theorem d11_276 : decode B11 276 = .ok (.astore 8, 2) := by decide +kernel
theorem ef_11_Cb (m : MethodId) (x0 : Addr) (x1 : Addr) (x2 : Addr) : entryFrame m #[.ref x0, .ref x1, .ref x2, .int 0, .int 4] 11 = mkF m 0 #[.val (.ref x0), .val (.ref x1), .val (.ref x2), .val (.int 0), .val (.int 4), .unset, .unset, .unset, .unset, .unset, .unset] [] := by first | (simp [entryFrame, mkF, argsToLocals, Value.category]; done) | rfl
def Q11_Cb (Z : State) (a : Addr) (u8 : Addr) (b : Addr) (kb : ClassId) (ya : Int32) (yb : Int32) (yc : Int32) (yt : Int32) (cw : Int32) (h0 : Heap) (n0 : Nat) (v : Option Value) (h : Heap) (L : List Loc) : Prop := ∃ t1 : Addr, ∃ kt : ClassId, v = none ∧ Fr n0 L ∧ Keep h0 h [a] ∧ Fld Z h a "java/lang/String" "value" "[B" (.ref t1) ∧ Fld Z h a "java/lang/String" "coder" "B" (.int 1) ∧ Arv Z h t1 kt .byte (6 : Int32) [(.int (own_lo (ya &&& (255 : Int32)))), (.int (own_hi (ya &&& (255 : Int32)))), (.int (own_lo ((own_b cw) &&& (255 : Int32)))), (.int (own_hi ((own_b cw) &&& (255 : Int32)))), (.int (own_lo (65533 : Int32))), (.int (own_hi (65533 : Int32)))] (.int 0)
set_option maxRecDepth 65536 in
set_option maxHeartbeats 40000000 in
theorem rm11_Cb (l : Launch) (Z : State) (a0 : Array Value) (hw : ∀ d ∈ tables_1, d.before a0 Z = true) (ws : List Jvm.Cond) (a : Addr) (u8 : Addr) (b : Addr) (kb : ClassId) (ya : Int32) (yb : Int32) (yc : Int32) (yt : Int32) (cw : Int32) {zc : Int32} {fm : Value} (h0 : Heap) (n0 : Nat) (O0 : Old Z n0 h0) (SU : own_SU Z zc fm u8) (E_a : Exa Z h0 a "java/lang/String") (F_v_a : Fld Z h0 a "java/lang/String" "value" "[B" .null) (F_c_a : Fld Z h0 a "java/lang/String" "coder" "B" (.int 0)) (V_b : Arv Z h0 b kb .byte (4 : Int32) [.int ya, .int yb, .int yc, .int yt] (.int 0)) (E_b : Exa Z h0 b "[B") (na : ¬ ya < (0 : Int32)) (hp : own_P2 cw yb yc) (hl : cw < 256) (nt : yt < (0 : Int32)) (g_a : n0 ≤ a) :
    MetFree l (⟨"java/lang/String", "<init>", "(Ljava/nio/charset/Charset;[BII)V"⟩ : MethodName) (head1 (Jvm.Cond.codeWith (⟨"java/lang/String", "<init>", "(Ljava/nio/charset/Charset;[BII)V"⟩ : MethodName) jdk_42_method_11_code 11 none [((800 : Nat), (813 : Nat), (816 : Nat), (202 : Nat))] :: ws) ({ frames := 5, cells := 3, slots := 20, locals := 76 } : Room)) (fun aA uU => aA = #[.ref a, .ref u8, .ref b, .int 0, .int 4] ∧ Z.Warmed39 uU.vm ∧ uU.heap = h0) (fun _ _ _ _ _ => True) (fun _ uU oO uU' => ∃ vV lL, oO = .returned vV ∧ Q11_Cb Z a u8 b kb ya yb yc yt cw  h0 n0 vV uU'.heap lL ∧ FrameEnd uU oO uU' lL ({ frames := 5, cells := 3, slots := 20, locals := 76 } : Room).cells ({ frames := 5, cells := 3, slots := 20, locals := 76 } : Room).slots) := by
  refine MetFree.of_bodySF (plainFor_of_name pn_java_lang_String) hisWith ?_
  intro p e s m args below meth c s₁ Bd hml0 hP hK
  obtain ⟨rfl, hZ, hh⟩ := hP
  have hx := Bd.exec
  have hby := Bd.bytes
  have hml : c.maxLocals = 11 := hml0
  have hown : s.vm.findClass "java/lang/String" = some m.cls := findClass_of_methodNamed Bd.named
  have hnm := (name_of_methodNamed Bd.named Bd.method).1
  have X0 : Stand p l e ({ frames := 5, cells := 3, slots := 20, locals := 76 } : Room) s m #[.ref a, .ref u8, .ref b, .int 0, .int 4] below meth c s₁ [] 0 0 := Stand.of_body Bd
  have e0 : s₁.heap = h0 := by rw [← hh, Bd.state]; rfl
  have N0 := Fr.nil n0
  have O := O0
  have K := Keep.refl h0 [a]
  have Hb : own_H p c jdk_42_method_11_code := ⟨hx, hby⟩
  have W := own_q hw
  have pre0 : ∀ t, Steps p.tables e below (s₁.setTop (mkF m 0 #[.val (.ref a), .val (.ref u8), .val (.ref b), .val (.int 0), .val (.int 4), .unset, .unset, .unset, .unset, .unset, .unset] [])) t → Steps p.tables e below (s₁.setTop (entryFrame m #[.ref a, .ref u8, .ref b, .int 0, .int 4] 11)) t := fun t k => castTop (ef_11_Cb m a u8 b) k
  obtain ⟨T1, X1, e1, st1⟩ := initO X0 hx hZ hown (W 15 rfl) (W 16 rfl) (W 17 rfl) e0 (g := (mkF m 1 (own_F8 a u8 b (0 : Int32) (4 : Int32)) [.ref a])) rfl (by rw [hml]; rfl) rfl (hb hby d11_1) (by decide) (W := 0) (by show 2 * 0 + _ ≤ _; exact Nat.le_of_eq rfl) (by decide)
  obtain ⟨T2, X2, e2, st2⟩ := getS2 X1 hx hZ hown (host := "") (Or.inl (W 67 rfl)) Via.refl e1 (SU.2.2.2.2.2.2.1.ext O.2) (g := (mkF m 31 (own_F8 a u8 b (0 : Int32) (4 : Int32)) [.ref u8])) rfl (hb hby d11_31)
  obtain ⟨T3, X3, e3, st3⟩ := getS2 X2 hx hZ hown (host := "") (Or.inl (W 18 rfl)) Via.refl e2 (SU.2.2.2.1.ext O.2) (g := (mkF m 37 (own_F8 a u8 b (0 : Int32) (4 : Int32)) [])) rfl (hb hby d11_37)
  obtain ⟨_, T4, Lc4, X4, hQ4, st4⟩ := own_cS X3 Hb hZ hown hml (L := (own_F8 a u8 b (0 : Int32) (4 : Int32))) rfl (rm12_4_1 hw b kb ya yb yc yt O V_b na hp.1) (W 69 rfl) (W 70 rfl) (W 71 rfl) (W 72 rfl) pd21 e3 d11_47 [.ref b, .int 0, .int 4] [] rfl rfl (by decide) 0 rfl (by decide)
  obtain ⟨rfl, N4q, eh4⟩ := hQ4
  have N4 := Fr.app N0 N4q
  have lt5_a := E_a.lt
  have lt5_b := V_b.lt
  obtain ⟨_, T5, Lc5, X5, hQ5, st5⟩ := own_cS X4 Hb hZ hown hml (L := (own_F9 a u8 b (0 : Int32) (4 : Int32) (1 : Int32))) rfl (rm13 hw b (4 : Int32) kb [.int ya, .int yb, .int yc, .int yt] O V_b E_b (by decide)) (W 73 rfl) (W 74 rfl) (W 75 rfl) (W 76 rfl) pd22 eh4 d11_84 [.ref b, .int 0, .int 4] [] rfl rfl (by decide) 0 rfl (by decide)
  obtain ⟨z_5, rfl, N5q, K5, V_z_c5, E_z_c5, gz_5, gn_5⟩ := hQ5
  have N5 := Fr.app N4 N5q
  have E_a := E_a.keep K5
  have F_v_a := F_v_a.keep K5 nin0
  have F_c_a := F_c_a.keep K5 nin0
  have V_b := V_b.keep K5 nin0
  have E_b := E_b.keep K5
  have ne_a_z_5 : a ≠ z_5 := Nat.ne_of_lt (Nat.lt_of_lt_of_le lt5_a gz_5)
  have ne_b_z_5 : b ≠ z_5 := Nat.ne_of_lt (Nat.lt_of_lt_of_le lt5_b gz_5)
  have g_z_5 := gn_5
  have z_z_5 : h0.size ≤ z_5 := Nat.le_trans K.1 gz_5
  have O := O.keep K5 all0
  have K := K.trans K5 all0
  have B6 : own_El Z (T5.heap) z_5 .byte (1 : Int32) (.int yb) := own_el V_z_c5 ⟨by decide, by decide⟩ rfl
  have B7 : own_El Z (T5.heap) z_5 .byte (2 : Int32) (.int yc) := own_el V_z_c5 ⟨by decide, by decide⟩ rfl
  obtain ⟨_, T8, Lc8, X8, hQ8, st8⟩ := own_cS X5 Hb hZ hown hml (L := (own_F14 a u8 b (0 : Int32) (4 : Int32) (2 : Int32) z_5 (2 : Int32) yb yc)) rfl (rm36 hw yb yc cw O hp.2.2.2.2.2.1) (W 180 rfl) (W 181 rfl) (W 7 rfl) (W 182 rfl) pd15 rfl d11_173 [.int yb, .int yc] [.int 1, .ref z_5] rfl rfl (by decide) 2 rfl (by decide)
  obtain ⟨rfl, N8q, eh8⟩ := hQ8
  have N8 := Fr.app N5 N8q
  obtain ⟨T9, h9, X9, e9, W9, V_z_c5, st9⟩ := own_sB X8 Hb hZ eh8 V_z_c5 (j := 1) (x := (cw.toInt8.toInt32)) (L := (own_F14 a u8 b (0 : Int32) (4 : Int32) (2 : Int32) z_5 (2 : Int32) yb yc)) (S := []) (vs' := [.int ya, (.int ((cw.toInt8.toInt32).toInt8.toInt32)), .int yc, .int yt]) ⟨by decide, by decide⟩ rfl (Nat.le_of_ble_eq_true rfl) d11_177 rfl
  have E_a := E_a.wr W9
  have F_v_a := F_v_a.other W9 (Or.inl ne_a_z_5)
  have F_c_a := F_c_a.other W9 (Or.inl ne_a_z_5)
  have V_b := V_b.other W9 ne_b_z_5
  have E_b := E_b.wr W9
  have E_z_c5 := E_z_c5.wr W9
  have O := O.wr W9 g_z_5
  have K := K.wr W9 (Or.inr z_z_5)
  have N9 := Fr.snoc X9 N8 g_z_5
  have B10 : own_El Z h9 z_5 .byte (3 : Int32) (.int yt) := own_el V_z_c5 ⟨by decide, by decide⟩ rfl
  have w11 : ∀ t, Steps p.tables e below (T9.setTop (mkF m 138 (own_F14 a u8 b (0 : Int32) (4 : Int32) (2 : Int32) z_5 (4 : Int32) yt yc) [.int 194, (.int (yt &&& (254 : Int32)))])) t → Steps p.tables e below (s₁.setTop (entryFrame m #[.ref a, .ref u8, .ref b, .int 0, .int 4] 11)) t := fun t k => by
    refine pre0 t ?_
    refine zal X0 Hb d11_0 rfl rfl <| st1 _ <| ziL X1 Hb d11_4 rfl <| ziy X1 Hb d11_6 ((if0 _ _).trans (feq ((by decide) : ¬ ((4 : Int32) = (0 : Int32)))).2) 30 (by decide) rfl <| zal X1 Hb d11_30 rfl rfl <| st2 _ <| Jvm.RoadKit.acmp (g := (mkF m 34 (own_F8 a u8 b (0 : Int32) (4 : Int32)) [.ref u8, .ref u8])) X2 hx rfl rfl rfl (pc0 := 34) (pc' := 37) (same := true) rfl (hb hby d11_34) rfl (decide_eq_true rfl) (by decide) (by decide) <| st3 _ ?_
    refine zin X3 Hb d11_40 ((if0 _ _).trans (feq (SU.2.2.2.2.2.2.2.1 : ¬ (zc = (0 : Int32)))).1) <| zal X3 Hb d11_43 rfl rfl <| zil X3 Hb d11_44 rfl <| ziL X3 Hb d11_45 rfl <| st4 _ <| ziS X4 Hb (L' := (own_F9 a u8 b (0 : Int32) (4 : Int32) (1 : Int32))) d11_50 rfl <| ziL X4 Hb d11_52 rfl <| ziL X4 Hb d11_54 rfl ?_
    refine zcy X4 Hb d11_56 (feq ((by decide) : ¬ ((1 : Int32) = (4 : Int32)))).2 78 (by decide) rfl <| zal X4 Hb d11_78 rfl rfl <| zil X4 Hb d11_79 rfl <| zil X4 Hb d11_80 rfl <| ziL X4 Hb d11_81 rfl <| zia' X4 Hb d11_83 4 rfl <| st5 _ <| zaS X5 Hb (L' := (own_F10 a u8 b (0 : Int32) (4 : Int32) (1 : Int32) z_5)) d11_87 rfl rfl ?_
    refine ziL X5 Hb d11_89 rfl <| ziS X5 Hb (L' := (own_F11 a u8 b (0 : Int32) (4 : Int32) (1 : Int32) z_5 (1 : Int32))) d11_91 rfl <| ziL X5 Hb d11_93 rfl <| ziL X5 Hb d11_95 rfl <| zcn X5 Hb d11_97 (tlt ((by decide) : (1 : Int32) < (4 : Int32))).2.1 <| zaL X5 Hb d11_100 rfl rfl <| ziL X5 Hb d11_102 rfl <| zii X5 Hb (L' := (own_F11 a u8 b (0 : Int32) (4 : Int32) (1 : Int32) z_5 (2 : Int32))) d11_104 rfl 2 rfl rfl ?_
    refine zba X5 Hb hZ rfl B6 d11_107 <| ziS X5 Hb (L' := (own_F12 a u8 b (0 : Int32) (4 : Int32) (1 : Int32) z_5 (2 : Int32) yb)) d11_108 rfl <| ziL X5 Hb d11_110 rfl <| ziy X5 Hb d11_112 ((if0 _ _).trans (tlt (hp.1 : yb < (0 : Int32))).1) 129 (by decide) rfl <| ziL X5 Hb d11_129 rfl <| zsp X5 Hb d11_131 254 rfl <| zan X5 Hb d11_134 <| zsp X5 Hb d11_135 194 rfl ?_
    refine zcn X5 Hb d11_138 (teq (hp.2.2.2.2.2.2.mpr hl : (yb &&& (254 : Int32)) = (194 : Int32))).2 <| ziL X5 Hb d11_141 rfl <| ziL X5 Hb d11_143 rfl <| zcn X5 Hb d11_145 (tlt ((by decide) : (2 : Int32) < (4 : Int32))).2.1 <| zaL X5 Hb d11_148 rfl rfl <| ziL X5 Hb d11_150 rfl <| zba X5 Hb hZ rfl B7 d11_152 <| ziS X5 Hb (L' := (own_F14 a u8 b (0 : Int32) (4 : Int32) (1 : Int32) z_5 (2 : Int32) yb yc)) d11_153 rfl ?_
    refine ziL X5 Hb d11_155 rfl <| zbp X5 Hb d11_157 (-64) rfl <| zcn X5 Hb d11_159 (tlt (hp.2.2.2.2.1 : yc < (-64 : Int32))).2.1 <| zaL X5 Hb d11_162 rfl rfl <| ziL X5 Hb d11_164 rfl <| zii X5 Hb (L' := (own_F14 a u8 b (0 : Int32) (4 : Int32) (2 : Int32) z_5 (2 : Int32) yb yc)) d11_166 rfl 2 rfl rfl <| ziL X5 Hb d11_169 rfl <| ziL X5 Hb d11_171 rfl ?_
    refine st8 _ <| zib X8 Hb d11_176 <| st9 _ <| zii X9 Hb (L' := (own_F14 a u8 b (0 : Int32) (4 : Int32) (2 : Int32) z_5 (3 : Int32) yb yc)) d11_178 rfl 3 rfl rfl <| zgo X9 Hb d11_181 93 (by decide) rfl <| ziL X9 Hb d11_93 rfl <| ziL X9 Hb d11_95 rfl <| zcn X9 Hb d11_97 (tlt ((by decide) : (3 : Int32) < (4 : Int32))).2.1 ?_
    refine zaL X9 Hb d11_100 rfl rfl <| ziL X9 Hb d11_102 rfl <| zii X9 Hb (L' := (own_F14 a u8 b (0 : Int32) (4 : Int32) (2 : Int32) z_5 (4 : Int32) yb yc)) d11_104 rfl 4 rfl rfl <| zba X9 Hb hZ e9 B10 d11_107 <| ziS X9 Hb (L' := (own_F14 a u8 b (0 : Int32) (4 : Int32) (2 : Int32) z_5 (4 : Int32) yt yc)) d11_108 rfl <| ziL X9 Hb d11_110 rfl <| ziy X9 Hb d11_112 ((if0 _ _).trans (tlt (nt : yt < (0 : Int32))).1) 129 (by decide) rfl <| ziL X9 Hb d11_129 rfl ?_
    refine zsp X9 Hb d11_131 254 rfl <| zan X9 Hb d11_134 <| zsp X9 Hb d11_135 194 rfl ?_
    exact k
  have w13 : ∀ t, Steps p.tables e below (T9.setTop (mkF m 184 (own_F14 a u8 b (0 : Int32) (4 : Int32) (2 : Int32) z_5 (4 : Int32) yt yc) [])) t → Steps p.tables e below (s₁.setTop (entryFrame m #[.ref a, .ref u8, .ref b, .int 0, .int 4] 11)) t := fun t k => by
    refine w11 t ?_
    by_cases hm12 : (yt &&& (254 : Int32)) = (194 : Int32)
    · refine zcn X9 Hb d11_138 (teq hm12).2 <| ziL X9 Hb d11_141 rfl <| ziL X9 Hb d11_143 rfl <| zcy X9 Hb d11_145 (flt ((by decide) : ¬ ((4 : Int32) < (4 : Int32)))).2.1 184 (by decide) rfl ?_
      exact k
    · refine zcy X9 Hb d11_138 (feq hm12).2 184 (by decide) rfl ?_
      exact k
  have lt14_a := E_a.lt
  have lt14_b := V_b.lt
  have lt14_z_5 := V_z_c5.lt
  obtain ⟨_, T14, Lc14, X14, hQ14, st14⟩ := own_cS X9 Hb hZ hown hml (L := (own_F14 a u8 b (0 : Int32) (4 : Int32) (2 : Int32) z_5 (3 : Int32) yt yc)) rfl (rm17_4 hw  O ) (W 119 rfl) (W 104 rfl) (W 21 rfl) (W 105 rfl) pd1 e9 d11_228 [.int 4] [] rfl rfl (by decide) 0 rfl (by decide)
  obtain ⟨z_14, kz_14, rfl, N14q, K14, V_z_c14, gz_14, gn_14⟩ := hQ14
  have N14 := Fr.app N9 N14q
  have E_a := E_a.keep K14
  have F_v_a := F_v_a.keep K14 nin0
  have F_c_a := F_c_a.keep K14 nin0
  have V_b := V_b.keep K14 nin0
  have E_b := E_b.keep K14
  have V_z_c5 := V_z_c5.keep K14 nin0
  have E_z_c5 := E_z_c5.keep K14
  have ne_a_z_14 : a ≠ z_14 := Nat.ne_of_lt (Nat.lt_of_lt_of_le lt14_a gz_14)
  have ne_b_z_14 : b ≠ z_14 := Nat.ne_of_lt (Nat.lt_of_lt_of_le lt14_b gz_14)
  have ne_z_5_z_14 : z_5 ≠ z_14 := Nat.ne_of_lt (Nat.lt_of_lt_of_le lt14_z_5 gz_14)
  have g_z_14 := gn_14
  have z_z_14 : h0.size ≤ z_14 := Nat.le_trans K.1 gz_14
  have O := O.keep K14 all0
  have K := K.trans K14 all0
  obtain ⟨_, T15, Lc15, X15, hQ15, st15⟩ := own_cS X14 Hb hZ hown hml (L := (own_F15 a u8 b (0 : Int32) (4 : Int32) (2 : Int32) z_5 (3 : Int32) z_14 yc)) rfl (rm21_4_2 hw z_5 z_14 kb ya ((cw.toInt8.toInt32).toInt8.toInt32) yc yt kz_14 O SU V_z_c5 V_z_c14 ne_z_5_z_14 g_z_14) (W 120 rfl) (W 121 rfl) (W 94 rfl) (W 122 rfl) pd13 rfl d11_241 [.ref z_5, .int 0, .ref z_14, .int 0, .int 2] [] rfl rfl (by decide) 0 rfl (by decide)
  obtain ⟨rfl, N15q, K15, V_d_c15⟩ := hQ15
  have N15 := Fr.app N14 N15q
  have E_a := E_a.keep K15
  have F_v_a := F_v_a.keep K15 (ninS ne_a_z_14 nin0)
  have F_c_a := F_c_a.keep K15 (ninS ne_a_z_14 nin0)
  have V_b := V_b.keep K15 (ninS ne_b_z_14 nin0)
  have E_b := E_b.keep K15
  have V_z_c5 := V_z_c5.keep K15 (ninS ne_z_5_z_14 nin0)
  have E_z_c5 := E_z_c5.keep K15
  have O := O.keep K15 (allS g_z_14 all0)
  have K := K.trans K15 (allS (Or.inr z_z_14) all0)
  obtain ⟨_, T16, Lc16, X16, hQ16, st16⟩ := own_cS X15 Hb hZ hown hml (L := (own_F15 a u8 b (0 : Int32) (4 : Int32) (2 : Int32) z_5 (3 : Int32) z_14 yc)) rfl (rm27_Cb hw z_5 z_14 kb ya ((cw.toInt8.toInt32).toInt8.toInt32) yc yt kz_14 (own_lo (ya &&& (255 : Int32))) (own_hi (ya &&& (255 : Int32))) (own_lo (((cw.toInt8.toInt32).toInt8.toInt32) &&& (255 : Int32))) (own_hi (((cw.toInt8.toInt32).toInt8.toInt32) &&& (255 : Int32))) O SU V_z_c5 V_d_c15 ne_z_5_z_14 nt g_z_14) (W 140 rfl) (W 141 rfl) (W 7 rfl) (W 142 rfl) pd26 rfl d11_255 [.ref z_5, .int 3, .int 4, .ref z_14, .int 2, .int 1] [] rfl rfl (by decide) 0 rfl (by decide)
  obtain ⟨rfl, N16q, K16, V_d_c16⟩ := hQ16
  have N16 := Fr.app N15 N16q
  have E_a := E_a.keep K16
  have F_v_a := F_v_a.keep K16 (ninS ne_a_z_14 nin0)
  have F_c_a := F_c_a.keep K16 (ninS ne_a_z_14 nin0)
  have V_b := V_b.keep K16 (ninS ne_b_z_14 nin0)
  have E_b := E_b.keep K16
  have V_z_c5 := V_z_c5.keep K16 (ninS ne_z_5_z_14 nin0)
  have E_z_c5 := E_z_c5.keep K16
  have O := O.keep K16 (allS g_z_14 all0)
  have K := K.trans K16 (allS (Or.inr z_z_14) all0)
  have lt17_a := E_a.lt
  have lt17_b := V_b.lt
  have lt17_z_5 := V_z_c5.lt
  have lt17_z_14 := V_d_c16.lt
  obtain ⟨_, T17, Lc17, X17, hQ17, st17⟩ := own_cS X16 Hb hZ hown hml (L := (own_F15 a u8 b (0 : Int32) (4 : Int32) (3 : Int32) z_5 (3 : Int32) z_14 yc)) rfl (rm33_8_6 hw z_14 kz_14 (own_lo (ya &&& (255 : Int32))) (own_hi (ya &&& (255 : Int32))) (own_lo (((cw.toInt8.toInt32).toInt8.toInt32) &&& (255 : Int32))) (own_hi (((cw.toInt8.toInt32).toInt8.toInt32) &&& (255 : Int32))) (own_lo (65533 : Int32)) (own_hi (65533 : Int32)) (0 : Int32) (0 : Int32) O V_d_c16) (W 166 rfl) (W 167 rfl) (W 75 rfl) (W 168 rfl) pd27 rfl d11_273 [.ref z_14, .int 6] [] rfl rfl (by decide) 0 rfl (by decide)
  obtain ⟨z_17, kz_17, rfl, N17q, K17, V_z_c17, gz_17, gn_17⟩ := hQ17
  have N17 := Fr.app N16 N17q
  have E_a := E_a.keep K17
  have F_v_a := F_v_a.keep K17 nin0
  have F_c_a := F_c_a.keep K17 nin0
  have V_b := V_b.keep K17 nin0
  have E_b := E_b.keep K17
  have V_z_c5 := V_z_c5.keep K17 nin0
  have E_z_c5 := E_z_c5.keep K17
  have V_d_c16 := V_d_c16.keep K17 nin0
  have ne_a_z_17 : a ≠ z_17 := Nat.ne_of_lt (Nat.lt_of_lt_of_le lt17_a gz_17)
  have ne_b_z_17 : b ≠ z_17 := Nat.ne_of_lt (Nat.lt_of_lt_of_le lt17_b gz_17)
  have ne_z_5_z_17 : z_5 ≠ z_17 := Nat.ne_of_lt (Nat.lt_of_lt_of_le lt17_z_5 gz_17)
  have ne_z_14_z_17 : z_14 ≠ z_17 := Nat.ne_of_lt (Nat.lt_of_lt_of_le lt17_z_14 gz_17)
  have g_z_17 := gn_17
  have z_z_17 : h0.size ≤ z_17 := Nat.le_trans K.1 gz_17
  have O := O.keep K17 all0
  have K := K.trans K17 all0
  have ne_b_a : b ≠ a := (Exa.ne E_b E_a (by decide))
  obtain ⟨T18, h18, X18, e18, W18, st18⟩ := putF X17 hx hZ hown (host := "") (Or.inl (W 31 rfl)) Via.refl rfl F_v_a E_a (Or.inr ⟨(W 32 rfl), rfl, hnm⟩) (W 6 rfl) (ty := (.array .byte)) (by decide) rfl rfl (g := (mkF m 281 (own_F15 a u8 b (0 : Int32) (4 : Int32) (3 : Int32) z_5 (3 : Int32) z_17 yc) [.ref z_17, .ref a])) rfl rfl (hb hby d11_281)
  have F_v_a := F_v_a.same W18
  have E_a := E_a.wr W18
  have F_c_a := F_c_a.other W18 (Or.inr (slot_ne (Or.inr (W 30 rfl)) (Or.inr (W 32 rfl)) (by decide) (t := .byte) (t' := (.array .byte)) (by decide) (by decide)))
  have V_b := V_b.other W18 ne_b_a
  have E_b := E_b.wr W18
  have V_z_c5 := V_z_c5.other W18 (Ne.symm ne_a_z_5)
  have E_z_c5 := E_z_c5.wr W18
  have V_d_c16 := V_d_c16.other W18 (Ne.symm ne_a_z_14)
  have V_z_c17 := V_z_c17.other W18 (Ne.symm ne_a_z_17)
  have O := O.wr W18 g_a
  have K := K.wr W18 (Or.inl (List.mem_of_getElem? (i := 0) rfl))
  have N18 := Fr.snoc X18 N17 g_a
  obtain ⟨T19, h19, X19, e19, W19, st19⟩ := putFN X18 hx hZ hown (W 29 rfl) Via.refl e18 F_c_a E_a (Or.inr ⟨(W 30 rfl), rfl, hnm⟩) (W 6 rfl) (ty := .byte) (v' := (.int 1)) (by decide) rfl rfl (g := (mkF m 286 (own_F15 a u8 b (0 : Int32) (4 : Int32) (3 : Int32) z_5 (3 : Int32) z_17 yc) [.int 1, .ref a])) rfl rfl (hb hby d11_286)
  have F_c_a := F_c_a.same W19
  have E_a := E_a.wr W19
  have F_v_a := F_v_a.other W19 (Or.inr (slot_ne (Or.inr (W 32 rfl)) (Or.inr (W 30 rfl)) (by decide) (t := (.array .byte)) (t' := .byte) (by decide) (by decide)))
  have V_b := V_b.other W19 ne_b_a
  have E_b := E_b.wr W19
  have V_z_c5 := V_z_c5.other W19 (Ne.symm ne_a_z_5)
  have E_z_c5 := E_z_c5.wr W19
  have V_d_c16 := V_d_c16.other W19 (Ne.symm ne_a_z_14)
  have V_z_c17 := V_z_c17.other W19 (Ne.symm ne_a_z_17)
  have O := O.wr W19 g_a
  have K := K.wr W19 (Or.inl (List.mem_of_getElem? (i := 0) rfl))
  have N19 := Fr.snoc X19 N18 g_a
  have w20 : ∀ t, Steps p.tables e below (T19.setTop (mkF m 879 (own_F15 a u8 b (0 : Int32) (4 : Int32) (3 : Int32) z_5 (3 : Int32) z_17 yc) [])) t → Steps p.tables e below (s₁.setTop (entryFrame m #[.ref a, .ref u8, .ref b, .int 0, .int 4] 11)) t := fun t k => by
    refine w13 t ?_
    refine zii X9 Hb (L' := (own_F14 a u8 b (0 : Int32) (4 : Int32) (2 : Int32) z_5 (3 : Int32) yt yc)) d11_184 rfl 3 rfl rfl <| zgo X9 Hb d11_187 190 (by decide) rfl <| ziL X9 Hb d11_190 rfl <| ziL X9 Hb d11_192 rfl <| zcy X9 Hb d11_194 (feq ((by decide) : ¬ ((3 : Int32) = (4 : Int32)))).2 226 (by decide) rfl <| ziL X9 Hb d11_226 rfl <| st14 _ <| zaS X14 Hb (L' := (own_F15 a u8 b (0 : Int32) (4 : Int32) (2 : Int32) z_5 (3 : Int32) z_14 yc)) d11_231 rfl rfl ?_
    refine zaL X14 Hb d11_233 rfl rfl <| zic X14 Hb d11_235 0 rfl <| zaL X14 Hb d11_236 rfl rfl <| zic X14 Hb d11_238 0 rfl <| ziL X14 Hb d11_239 rfl <| st15 _ <| zaL X15 Hb d11_244 rfl rfl <| ziL X15 Hb d11_246 rfl ?_
    refine ziL X15 Hb d11_248 rfl <| zaL X15 Hb d11_250 rfl rfl <| ziL X15 Hb d11_252 rfl <| zic X15 Hb d11_254 1 rfl <| st16 _ <| ziS X16 Hb (L' := (own_F15 a u8 b (0 : Int32) (4 : Int32) (3 : Int32) z_5 (3 : Int32) z_14 yc)) d11_258 rfl <| ziL X16 Hb d11_260 rfl <| ziL X16 Hb d11_262 rfl ?_
    refine zcn X16 Hb d11_264 (feq ((by decide) : ¬ ((3 : Int32) = (4 : Int32)))).1 <| zaL X16 Hb d11_267 rfl rfl <| ziL X16 Hb d11_269 rfl <| zic X16 Hb d11_271 1 rfl <| zsl' X16 Hb d11_272 6 rfl <| st17 _ <| zaS X17 Hb (L' := (own_F15 a u8 b (0 : Int32) (4 : Int32) (3 : Int32) z_5 (3 : Int32) z_17 yc)) d11_276 rfl rfl <| zal X17 Hb d11_278 rfl rfl ?_
    refine zaL X17 Hb d11_279 rfl rfl <| st18 _ <| zal X18 Hb d11_284 rfl rfl <| zic X18 Hb d11_285 1 rfl <| st19 _ <| zgo X19 Hb d11_289 879 (by decide) rfl ?_
    exact k
  obtain ⟨fs, hr, hrun, hended, hW, hsame⟩ := X19.leave (v := none) (fun _ => rfl)
  refine ⟨_, _, w20 _ ?_, hrun, hended, _, _, rfl, ?_, ⟨_, rfl⟩, hW, hsame.mono (by decide) (by decide)⟩
  · exact X19.returnOut hx Bd.returns (hb hby d11_879) hr
  · show Q11_Cb Z a u8 b kb ya yb yc yt cw  h0 n0 _ T19.heap _
    rw [e19]
    exact ⟨z_17, kz_17, rfl, N19, K, F_v_a, F_c_a, V_z_c17⟩
theorem rm9_Cb {l : Launch} {Z : State} {a0 : Array Value} (hw : own_W a0 Z) (a b u8 : Addr) (kb : ClassId) (ya yb yc yt cw : Int32) {zc : Int32} {fm : Value} {h0 : Heap} {n0 : Nat} (O0 : Old Z n0 h0) (SU : own_SU Z zc fm u8) (E_a : Exa Z h0 a "java/lang/String") (F_v_a : Fld Z h0 a "java/lang/String" "value" "[B" .null) (F_c_a : Fld Z h0 a "java/lang/String" "coder" "B" (.int 0)) (V_b : Arv Z h0 b kb .byte (4 : Int32) [.int ya, .int yb, .int yc, .int yt] (.int 0)) (E_b : Exa Z h0 b "[B") (E_u8 : Exa Z h0 u8 "sun/nio/cs/UTF_8") (na : ¬ ya < (0 : Int32)) (hp : own_P2 cw yb yc) (hl : cw < 256) (nt : yt < (0 : Int32)) (g_a : n0 ≤ a) : own_M l own_n9 jdk_42_method_49_code 3 none (own_rm 6 3 20 98) Z h0 #[.ref a, .ref b, .ref u8] (fun v h L => ∃ t1 : Addr, ∃ kt : ClassId, v = none ∧ Fr n0 L ∧ Keep h0 h [a] ∧ Fld Z h a "java/lang/String" "value" "[B" (.ref t1) ∧ Fld Z h a "java/lang/String" "coder" "B" (.int 1) ∧ Arv Z h t1 kt .byte (6 : Int32) [(.int (own_lo (ya &&& (255 : Int32)))), (.int (own_hi (ya &&& (255 : Int32)))), (.int (own_lo ((own_b cw) &&& (255 : Int32)))), (.int (own_hi ((own_b cw) &&& (255 : Int32)))), (.int (own_lo (65533 : Int32))), (.int (own_hi (65533 : Int32)))] (.int 0)) := by
  refine own_body (L0 := #[.val (.ref a), .val (.ref b), .val (.ref u8)]) (plainFor_of_name pn_java_lang_String) rfl rfl ?_
  intro p e s m below meth c s₁ f0 Bd hx Hb hml hZ hown X0 e0 pre0
  have hby := Hb.2
  have W := own_q hw
  have N0 := Fr.nil n0
  have O := O0
  have K := Keep.refl h0 [a]
  obtain ⟨_, T1, Lc1, X1, hQ1, st1⟩ := own_cS X0 Hb hZ hown hml (L := #[.val (.ref a), .val (.ref b), .val (.ref u8)]) rfl (rm10 hw u8 O ) (W 58 rfl) (W 59 rfl) (W 60 rfl) (W 61 rfl) pd23 e0 d9_2 [.ref u8] [.ref a] rfl rfl (by decide) 1 rfl (by decide)
  obtain ⟨rfl, N1q, eh1⟩ := hQ1
  have N1 := Fr.app N0 N1q
  obtain ⟨T2, X2, e2, st2⟩ := castY X1 hx hZ hown (W 62 rfl) eh1 (Ins.of_exa E_u8 (W 63 rfl)) (g := (mkF m 5 #[.val (.ref a), .val (.ref b), .val (.ref u8)] [.ref u8, .ref a])) rfl rfl (hb hby d9_5)
  have B3 := own_ln V_b
  have ne_b_a : b ≠ a := (Exa.ne E_b E_a (by decide))
  obtain ⟨_, _, ⟨T4, L4, k4, n4⟩, -, X4, ⟨Lc4, hQ4, l4, y4, z4⟩, st4⟩ := X2.specialBackH hx (y := own_n11) rfl hown (mvT hZ (W 64 rfl)) (mvT hZ (W 65 rfl)) (mvT hZ (W 66 rfl)) (by decide) (backOfWith (W := 0) (rm11_Cb l Z a0 hw [] a u8 b kb ya yb yc yt cw h0 n0 O SU E_a F_v_a F_c_a V_b E_b na hp hl nt g_a) hZ (W 66 rfl) (W 7 rfl) (by decide) (by decide)) (g := (mkF m 12 #[.val (.ref a), .val (.ref b), .val (.ref u8)] [.int 4, .int 0, .ref b, .ref u8, .ref a])) rfl (by rw [hml]; rfl) (Steps.refl _) (a := a) (argsL := [.ref u8, .ref b, .int 0, .int 4]) (rest := []) (lenOf pd24 rfl) rfl (by show 2 * 0 + _ ≤ _; exact Nat.le_of_eq rfl) (hb hby d9_12) (fun _ _ => ⟨rfl, e2, (by decide : 0 + 3 ≤ _), (by decide : 0 + 20 ≤ _)⟩)
  dsimp only [Pt.U, Pt.locs, Pt.cells, Pt.slots] at X4 l4 y4 z4 st4 hQ4
  have X4 := own_un X4 l4 y4 z4
  obtain ⟨t1_4, kt_4, rfl, N4q, K4, F_v_a_c4, F_c_a_c4, V_t_c4⟩ := hQ4
  have N4 := Fr.app N1 N4q
  have E_a := E_a.keep K4
  have V_b := V_b.keep K4 (ninS ne_b_a nin0)
  have E_b := E_b.keep K4
  have E_u8 := E_u8.keep K4
  have O := O.keep K4 (allS g_a all0)
  have K := K.trans K4 (allS (Or.inl (List.mem_of_getElem? (i := 0) rfl)) all0)
  have w5 : own_Go p e below f0 T4 m 15 #[.val (.ref a), .val (.ref b), .val (.ref u8)] [] := fun t k => by
    refine pre0 t ?_
    refine zal X0 Hb d9_0 rfl rfl <| zal X0 Hb d9_1 rfl rfl <| st1 _ <| st2 _ <| zal X2 Hb d9_8 rfl rfl <| zic X2 Hb d9_9 0 rfl <| zal X2 Hb d9_10 rfl rfl <| zal_ X2 Hb hZ e2 B3 d9_11 ?_
    refine st4.trans ?_
    exact k
  exact own_oV X4 Hb Bd.notSynchronized Bd.returns w5 d9_15 rfl (by decide) (by decide) ⟨t1_4, kt_4, rfl, N4, K, F_v_a_c4, F_c_a_c4, V_t_c4⟩
theorem rm8_Cb {l : Launch} {Z : State} {a0 : Array Value} (hw : own_W a0 Z) (a rb : Addr) (kb : ClassId) (ya yb yc yt cw : Int32) {zc : Int32} {fm : Value} {u8 : Addr} {h0 : Heap} {n0 : Nat} (O0 : Old Z n0 h0) (SU : own_SU Z zc fm u8) (F_b_a : Fld Z h0 a "com/example/gradual_reply/gradualreply/EncodedBody" "bytes" "[B" (.ref rb)) (V_rb : Arv Z h0 rb kb .byte (4 : Int32) [.int ya, .int yb, .int yc, .int yt] (.int 0)) (E_rb : Exa Z h0 rb "[B") (E_u8 : Exa Z h0 u8 "sun/nio/cs/UTF_8") (na : ¬ ya < (0 : Int32)) (hp : own_P2 cw yb yc) (hl : cw < 256) (nt : yt < (0 : Int32)) : own_M l own_n8 prog_6_method_4_code 1 (some (.object "java/lang/String")) (own_rm 7 4 24 113) Z h0 #[.ref a] (fun v h L => ∃ z : Addr, ∃ t1 : Addr, ∃ kt : ClassId, v = some (.ref z) ∧ Fr n0 L ∧ Keep h0 h [] ∧ Exa Z h z "java/lang/String" ∧ Fld Z h z "java/lang/String" "value" "[B" (.ref t1) ∧ Fld Z h z "java/lang/String" "coder" "B" (.int 1) ∧ Arv Z h t1 kt .byte (6 : Int32) [(.int (own_lo (ya &&& (255 : Int32)))), (.int (own_hi (ya &&& (255 : Int32)))), (.int (own_lo ((own_b cw) &&& (255 : Int32)))), (.int (own_hi ((own_b cw) &&& (255 : Int32)))), (.int (own_lo (65533 : Int32))), (.int (own_hi (65533 : Int32)))] (.int 0)) := by
  refine own_body (L0 := #[.val (.ref a)]) (plainFor_of_name pn_com_example_gradual_reply_gradualreply_EncodedBody) rfl rfl ?_
  intro p e s m below meth c s₁ f0 Bd hx Hb hml hZ hown X0 e0 pre0
  have hby := Hb.2
  have W := own_q hw
  have N0 := Fr.nil n0
  have O := O0
  have K := Keep.refl h0 []
  obtain ⟨T1, h1, X1, e1, E1, A1, D1, -, st1⟩ := newO X0 hx hZ hown (W 52 rfl) (W 6 rfl) (W 7 rfl) e0 (g := (mkF m 0 #[.val (.ref a)] [])) rfl (hb hby d8_0) (by decide) (by decide)
  obtain ⟨b1, gq1⟩ : ∃ z, z = Array.size h0 := ⟨_, rfl⟩
  rw [← gq1] at A1 D1 st1
  have ne_a_b1 : a ≠ b1 := Nat.ne_of_lt (Nat.lt_of_lt_of_le F_b_a.lt (Nat.le_of_eq gq1.symm))
  have ne_rb_b1 : rb ≠ b1 := Nat.ne_of_lt (Nat.lt_of_lt_of_le V_rb.lt (Nat.le_of_eq gq1.symm))
  have ne_u8_b1 : u8 ≠ b1 := Nat.ne_of_lt (Nat.lt_of_lt_of_le E_u8.lt (Nat.le_of_eq gq1.symm))
  have g_b1 : n0 ≤ b1 := Nat.le_trans (O.1 ▸ O.2.1) (Nat.le_of_eq gq1.symm)
  have z_b1 : h0.size ≤ b1 := Nat.le_trans K.1 (Nat.le_of_eq gq1.symm)
  have F_b_a := F_b_a.ext E1
  have V_rb := V_rb.ext E1
  have E_rb := E_rb.ext E1
  have E_u8 := E_u8.ext E1
  have O := O.ext E1
  have K := K.ext E1
  have F_coder_b1 : Fld Z h1 b1 "java/lang/String" "coder" "B" (.int 0) := D1 (Or.inr (W 30 rfl)) (ty := .byte) (by decide)
  have F_value_b1 : Fld Z h1 b1 "java/lang/String" "value" "[B" .null := D1 (Or.inr (W 32 rfl)) (ty := (.array .byte)) (by decide)
  obtain ⟨T2, X2, e2, st2⟩ := getF X1 hx hZ hown (host := "") (Or.inl (W 45 rfl)) Via.refl e1 F_b_a (g := (mkF m 5 #[.val (.ref a)] [.ref a, .ref b1, .ref b1])) rfl rfl (hb hby d8_5)
  obtain ⟨T3, X3, e3, st3⟩ := getS2 X2 hx hZ hown (host := "") (Or.inl (W 53 rfl)) Via.refl e2 (SU.2.2.2.2.2.1.ext O.2) (g := (mkF m 8 #[.val (.ref a)] [.ref rb, .ref b1, .ref b1])) rfl (hb hby d8_8)
  obtain ⟨_, T4, Lc4, X4, hQ4, st4⟩ := own_cI X3 Hb hZ hown hml (L := #[.val (.ref a)]) rfl (rm9_Cb hw b1 rb u8 kb ya yb yc yt cw O SU A1 F_value_b1 F_coder_b1 V_rb E_rb E_u8 na hp hl nt g_b1) (W 55 rfl) (W 56 rfl) (W 7 rfl) (W 57 rfl) pd25 e3 d8_11 b1 [.ref rb, .ref u8] [.ref b1] rfl rfl (by decide) 1 rfl (by decide)
  obtain ⟨t1_4, kt_4, rfl, N4q, K4, F_v_a_c4, F_c_a_c4, V_t_c4⟩ := hQ4
  have N4 := Fr.app N0 N4q
  have F_b_a := F_b_a.keep K4 (ninS ne_a_b1 nin0)
  have V_rb := V_rb.keep K4 (ninS ne_rb_b1 nin0)
  have E_rb := E_rb.keep K4
  have E_u8 := E_u8.keep K4
  have A1 := A1.keep K4
  have O := O.keep K4 (allS g_b1 all0)
  have K := K.trans K4 (allS (Or.inr z_b1) all0)
  have w5 : own_Go p e below f0 T4 m 14 #[.val (.ref a)] [.ref b1] := fun t k => by
    refine pre0 t ?_
    refine st1 _ <| zdu X1 Hb d8_3 rfl <| zal X1 Hb d8_4 rfl rfl <| st2 _ <| st3 _ <| st4 _ ?_
    exact k
  exact own_oR X4 Hb Bd.notSynchronized Bd.returns rfl w5 d8_14 rfl (by decide) (by decide) ⟨b1, t1_4, kt_4, rfl, N4, K, A1, F_v_a_c4, F_c_a_c4, V_t_c4⟩
theorem ef_11_D (m : MethodId) (x0 : Addr) (x1 : Addr) (x2 : Addr) : entryFrame m #[.ref x0, .ref x1, .ref x2, .int 0, .int 4] 11 = mkF m 0 #[.val (.ref x0), .val (.ref x1), .val (.ref x2), .val (.int 0), .val (.int 4), .unset, .unset, .unset, .unset, .unset, .unset] [] := by first | (simp [entryFrame, mkF, argsToLocals, Value.category]; done) | rfl
def Q11_D (Z : State) (a : Addr) (u8 : Addr) (b : Addr) (kb : ClassId) (ya : Int32) (yb : Int32) (yc : Int32) (yt : Int32) (cw : Int32) (h0 : Heap) (n0 : Nat) (v : Option Value) (h : Heap) (L : List Loc) : Prop := ∃ t1 : Addr, ∃ kt : ClassId, v = none ∧ Fr n0 L ∧ Keep h0 h [a] ∧ Fld Z h a "java/lang/String" "value" "[B" (.ref t1) ∧ Fld Z h a "java/lang/String" "coder" "B" (.int 1) ∧ Arv Z h t1 kt .byte (6 : Int32) [(.int (own_lo (ya &&& (255 : Int32)))), (.int (own_hi (ya &&& (255 : Int32)))), .int (own_lo cw), .int (own_hi cw), (.int (own_lo (own_tl yt))), (.int (own_hi (own_tl yt)))] (.int 0)
set_option maxRecDepth 65536 in
set_option maxHeartbeats 40000000 in
theorem rm11_D (l : Launch) (Z : State) (a0 : Array Value) (hw : ∀ d ∈ tables_1, d.before a0 Z = true) (ws : List Jvm.Cond) (a : Addr) (u8 : Addr) (b : Addr) (kb : ClassId) (ya : Int32) (yb : Int32) (yc : Int32) (yt : Int32) (cw : Int32) {zc : Int32} {fm : Value} (h0 : Heap) (n0 : Nat) (O0 : Old Z n0 h0) (SU : own_SU Z zc fm u8) (E_a : Exa Z h0 a "java/lang/String") (F_v_a : Fld Z h0 a "java/lang/String" "value" "[B" .null) (F_c_a : Fld Z h0 a "java/lang/String" "coder" "B" (.int 0)) (V_b : Arv Z h0 b kb .byte (4 : Int32) [.int ya, .int yb, .int yc, .int yt] (.int 0)) (E_b : Exa Z h0 b "[B") (na : ¬ ya < (0 : Int32)) (hp : own_P2 cw yb yc) (hl : ¬ cw < 256) (g_a : n0 ≤ a) :
    MetFree l (⟨"java/lang/String", "<init>", "(Ljava/nio/charset/Charset;[BII)V"⟩ : MethodName) (head1 (Jvm.Cond.codeWith (⟨"java/lang/String", "<init>", "(Ljava/nio/charset/Charset;[BII)V"⟩ : MethodName) jdk_42_method_11_code 11 none [((800 : Nat), (813 : Nat), (816 : Nat), (202 : Nat))] :: ws) ({ frames := 5, cells := 3, slots := 20, locals := 76 } : Room)) (fun aA uU => aA = #[.ref a, .ref u8, .ref b, .int 0, .int 4] ∧ Z.Warmed39 uU.vm ∧ uU.heap = h0) (fun _ _ _ _ _ => True) (fun _ uU oO uU' => ∃ vV lL, oO = .returned vV ∧ Q11_D Z a u8 b kb ya yb yc yt cw  h0 n0 vV uU'.heap lL ∧ FrameEnd uU oO uU' lL ({ frames := 5, cells := 3, slots := 20, locals := 76 } : Room).cells ({ frames := 5, cells := 3, slots := 20, locals := 76 } : Room).slots) := by
  refine MetFree.of_bodySF (plainFor_of_name pn_java_lang_String) hisWith ?_
  intro p e s m args below meth c s₁ Bd hml0 hP hK
  obtain ⟨rfl, hZ, hh⟩ := hP
  have hx := Bd.exec
  have hby := Bd.bytes
  have hml : c.maxLocals = 11 := hml0
  have hown : s.vm.findClass "java/lang/String" = some m.cls := findClass_of_methodNamed Bd.named
  have hnm := (name_of_methodNamed Bd.named Bd.method).1
  have X0 : Stand p l e ({ frames := 5, cells := 3, slots := 20, locals := 76 } : Room) s m #[.ref a, .ref u8, .ref b, .int 0, .int 4] below meth c s₁ [] 0 0 := Stand.of_body Bd
  have e0 : s₁.heap = h0 := by rw [← hh, Bd.state]; rfl
  have N0 := Fr.nil n0
  have O := O0
  have K := Keep.refl h0 [a]
  have Hb : own_H p c jdk_42_method_11_code := ⟨hx, hby⟩
  have W := own_q hw
  have pre0 : ∀ t, Steps p.tables e below (s₁.setTop (mkF m 0 #[.val (.ref a), .val (.ref u8), .val (.ref b), .val (.int 0), .val (.int 4), .unset, .unset, .unset, .unset, .unset, .unset] [])) t → Steps p.tables e below (s₁.setTop (entryFrame m #[.ref a, .ref u8, .ref b, .int 0, .int 4] 11)) t := fun t k => castTop (ef_11_D m a u8 b) k
  obtain ⟨T1, X1, e1, st1⟩ := initO X0 hx hZ hown (W 15 rfl) (W 16 rfl) (W 17 rfl) e0 (g := (mkF m 1 (own_F8 a u8 b (0 : Int32) (4 : Int32)) [.ref a])) rfl (by rw [hml]; rfl) rfl (hb hby d11_1) (by decide) (W := 0) (by show 2 * 0 + _ ≤ _; exact Nat.le_of_eq rfl) (by decide)
  obtain ⟨T2, X2, e2, st2⟩ := getS2 X1 hx hZ hown (host := "") (Or.inl (W 67 rfl)) Via.refl e1 (SU.2.2.2.2.2.2.1.ext O.2) (g := (mkF m 31 (own_F8 a u8 b (0 : Int32) (4 : Int32)) [.ref u8])) rfl (hb hby d11_31)
  obtain ⟨T3, X3, e3, st3⟩ := getS2 X2 hx hZ hown (host := "") (Or.inl (W 18 rfl)) Via.refl e2 (SU.2.2.2.1.ext O.2) (g := (mkF m 37 (own_F8 a u8 b (0 : Int32) (4 : Int32)) [])) rfl (hb hby d11_37)
  obtain ⟨_, T4, Lc4, X4, hQ4, st4⟩ := own_cS X3 Hb hZ hown hml (L := (own_F8 a u8 b (0 : Int32) (4 : Int32))) rfl (rm12_4_1 hw b kb ya yb yc yt O V_b na hp.1) (W 69 rfl) (W 70 rfl) (W 71 rfl) (W 72 rfl) pd21 e3 d11_47 [.ref b, .int 0, .int 4] [] rfl rfl (by decide) 0 rfl (by decide)
  obtain ⟨rfl, N4q, eh4⟩ := hQ4
  have N4 := Fr.app N0 N4q
  have lt5_a := E_a.lt
  have lt5_b := V_b.lt
  obtain ⟨_, T5, Lc5, X5, hQ5, st5⟩ := own_cS X4 Hb hZ hown hml (L := (own_F9 a u8 b (0 : Int32) (4 : Int32) (1 : Int32))) rfl (rm13 hw b (4 : Int32) kb [.int ya, .int yb, .int yc, .int yt] O V_b E_b (by decide)) (W 73 rfl) (W 74 rfl) (W 75 rfl) (W 76 rfl) pd22 eh4 d11_84 [.ref b, .int 0, .int 4] [] rfl rfl (by decide) 0 rfl (by decide)
  obtain ⟨z_5, rfl, N5q, K5, V_z_c5, E_z_c5, gz_5, gn_5⟩ := hQ5
  have N5 := Fr.app N4 N5q
  have E_a := E_a.keep K5
  have F_v_a := F_v_a.keep K5 nin0
  have F_c_a := F_c_a.keep K5 nin0
  have V_b := V_b.keep K5 nin0
  have E_b := E_b.keep K5
  have ne_a_z_5 : a ≠ z_5 := Nat.ne_of_lt (Nat.lt_of_lt_of_le lt5_a gz_5)
  have ne_b_z_5 : b ≠ z_5 := Nat.ne_of_lt (Nat.lt_of_lt_of_le lt5_b gz_5)
  have g_z_5 := gn_5
  have z_z_5 : h0.size ≤ z_5 := Nat.le_trans K.1 gz_5
  have O := O.keep K5 all0
  have K := K.trans K5 all0
  have B6 : own_El Z (T5.heap) z_5 .byte (1 : Int32) (.int yb) := own_el V_z_c5 ⟨by decide, by decide⟩ rfl
  have lt7_a := E_a.lt
  have lt7_b := V_b.lt
  have lt7_z_5 := V_z_c5.lt
  obtain ⟨_, T7, Lc7, X7, hQ7, st7⟩ := own_cS X5 Hb hZ hown hml (L := (own_F12 a u8 b (0 : Int32) (4 : Int32) (1 : Int32) z_5 (1 : Int32) yb)) rfl (rm17_4 hw  O ) (W 119 rfl) (W 104 rfl) (W 21 rfl) (W 105 rfl) pd1 rfl d11_228 [.int 4] [] rfl rfl (by decide) 0 rfl (by decide)
  obtain ⟨z_7, kz_7, rfl, N7q, K7, V_z_c7, gz_7, gn_7⟩ := hQ7
  have N7 := Fr.app N5 N7q
  have E_a := E_a.keep K7
  have F_v_a := F_v_a.keep K7 nin0
  have F_c_a := F_c_a.keep K7 nin0
  have V_b := V_b.keep K7 nin0
  have E_b := E_b.keep K7
  have V_z_c5 := V_z_c5.keep K7 nin0
  have E_z_c5 := E_z_c5.keep K7
  have ne_a_z_7 : a ≠ z_7 := Nat.ne_of_lt (Nat.lt_of_lt_of_le lt7_a gz_7)
  have ne_b_z_7 : b ≠ z_7 := Nat.ne_of_lt (Nat.lt_of_lt_of_le lt7_b gz_7)
  have ne_z_5_z_7 : z_5 ≠ z_7 := Nat.ne_of_lt (Nat.lt_of_lt_of_le lt7_z_5 gz_7)
  have g_z_7 := gn_7
  have z_z_7 : h0.size ≤ z_7 := Nat.le_trans K.1 gz_7
  have O := O.keep K7 all0
  have K := K.trans K7 all0
  obtain ⟨_, T8, Lc8, X8, hQ8, st8⟩ := own_cS X7 Hb hZ hown hml (L := (own_F13 a u8 b (0 : Int32) (4 : Int32) (1 : Int32) z_5 (1 : Int32) z_7)) rfl (rm21_4_1 hw z_5 z_7 kb ya yb yc yt kz_7 O SU V_z_c5 V_z_c7 ne_z_5_z_7 g_z_7) (W 120 rfl) (W 121 rfl) (W 94 rfl) (W 122 rfl) pd13 rfl d11_241 [.ref z_5, .int 0, .ref z_7, .int 0, .int 1] [] rfl rfl (by decide) 0 rfl (by decide)
  obtain ⟨rfl, N8q, K8, V_d_c8⟩ := hQ8
  have N8 := Fr.app N7 N8q
  have E_a := E_a.keep K8
  have F_v_a := F_v_a.keep K8 (ninS ne_a_z_7 nin0)
  have F_c_a := F_c_a.keep K8 (ninS ne_a_z_7 nin0)
  have V_b := V_b.keep K8 (ninS ne_b_z_7 nin0)
  have E_b := E_b.keep K8
  have V_z_c5 := V_z_c5.keep K8 (ninS ne_z_5_z_7 nin0)
  have E_z_c5 := E_z_c5.keep K8
  have O := O.keep K8 (allS g_z_7 all0)
  have K := K.trans K8 (allS (Or.inr z_z_7) all0)
  obtain ⟨_, T9, Lc9, X9, hQ9, st9⟩ := own_cS X8 Hb hZ hown hml (L := (own_F13 a u8 b (0 : Int32) (4 : Int32) (1 : Int32) z_5 (1 : Int32) z_7)) rfl (rm27_D hw z_5 z_7 kb ya yb yc yt cw kz_7 (own_lo (ya &&& (255 : Int32))) (own_hi (ya &&& (255 : Int32))) O SU V_z_c5 V_d_c8 ne_z_5_z_7 hp g_z_7) (W 140 rfl) (W 141 rfl) (W 7 rfl) (W 142 rfl) pd26 rfl d11_255 [.ref z_5, .int 1, .int 4, .ref z_7, .int 1, .int 1] [] rfl rfl (by decide) 0 rfl (by decide)
  obtain ⟨rfl, N9q, K9, V_d_c9⟩ := hQ9
  have N9 := Fr.app N8 N9q
  have E_a := E_a.keep K9
  have F_v_a := F_v_a.keep K9 (ninS ne_a_z_7 nin0)
  have F_c_a := F_c_a.keep K9 (ninS ne_a_z_7 nin0)
  have V_b := V_b.keep K9 (ninS ne_b_z_7 nin0)
  have E_b := E_b.keep K9
  have V_z_c5 := V_z_c5.keep K9 (ninS ne_z_5_z_7 nin0)
  have E_z_c5 := E_z_c5.keep K9
  have O := O.keep K9 (allS g_z_7 all0)
  have K := K.trans K9 (allS (Or.inr z_z_7) all0)
  have lt10_a := E_a.lt
  have lt10_b := V_b.lt
  have lt10_z_5 := V_z_c5.lt
  have lt10_z_7 := V_d_c9.lt
  obtain ⟨_, T10, Lc10, X10, hQ10, st10⟩ := own_cS X9 Hb hZ hown hml (L := (own_F13 a u8 b (0 : Int32) (4 : Int32) (3 : Int32) z_5 (1 : Int32) z_7)) rfl (rm33_8_6 hw z_7 kz_7 (own_lo (ya &&& (255 : Int32))) (own_hi (ya &&& (255 : Int32))) (own_lo cw) (own_hi cw) (own_lo (own_tl yt)) (own_hi (own_tl yt)) (0 : Int32) (0 : Int32) O V_d_c9) (W 166 rfl) (W 167 rfl) (W 75 rfl) (W 168 rfl) pd27 rfl d11_273 [.ref z_7, .int 6] [] rfl rfl (by decide) 0 rfl (by decide)
  obtain ⟨z_10, kz_10, rfl, N10q, K10, V_z_c10, gz_10, gn_10⟩ := hQ10
  have N10 := Fr.app N9 N10q
  have E_a := E_a.keep K10
  have F_v_a := F_v_a.keep K10 nin0
  have F_c_a := F_c_a.keep K10 nin0
  have V_b := V_b.keep K10 nin0
  have E_b := E_b.keep K10
  have V_z_c5 := V_z_c5.keep K10 nin0
  have E_z_c5 := E_z_c5.keep K10
  have V_d_c9 := V_d_c9.keep K10 nin0
  have ne_a_z_10 : a ≠ z_10 := Nat.ne_of_lt (Nat.lt_of_lt_of_le lt10_a gz_10)
  have ne_b_z_10 : b ≠ z_10 := Nat.ne_of_lt (Nat.lt_of_lt_of_le lt10_b gz_10)
  have ne_z_5_z_10 : z_5 ≠ z_10 := Nat.ne_of_lt (Nat.lt_of_lt_of_le lt10_z_5 gz_10)
  have ne_z_7_z_10 : z_7 ≠ z_10 := Nat.ne_of_lt (Nat.lt_of_lt_of_le lt10_z_7 gz_10)
  have g_z_10 := gn_10
  have z_z_10 : h0.size ≤ z_10 := Nat.le_trans K.1 gz_10
  have O := O.keep K10 all0
  have K := K.trans K10 all0
  have ne_b_a : b ≠ a := (Exa.ne E_b E_a (by decide))
  obtain ⟨T11, h11, X11, e11, W11, st11⟩ := putF X10 hx hZ hown (host := "") (Or.inl (W 31 rfl)) Via.refl rfl F_v_a E_a (Or.inr ⟨(W 32 rfl), rfl, hnm⟩) (W 6 rfl) (ty := (.array .byte)) (by decide) rfl rfl (g := (mkF m 281 (own_F13 a u8 b (0 : Int32) (4 : Int32) (3 : Int32) z_5 (1 : Int32) z_10) [.ref z_10, .ref a])) rfl rfl (hb hby d11_281)
  have F_v_a := F_v_a.same W11
  have E_a := E_a.wr W11
  have F_c_a := F_c_a.other W11 (Or.inr (slot_ne (Or.inr (W 30 rfl)) (Or.inr (W 32 rfl)) (by decide) (t := .byte) (t' := (.array .byte)) (by decide) (by decide)))
  have V_b := V_b.other W11 ne_b_a
  have E_b := E_b.wr W11
  have V_z_c5 := V_z_c5.other W11 (Ne.symm ne_a_z_5)
  have E_z_c5 := E_z_c5.wr W11
  have V_d_c9 := V_d_c9.other W11 (Ne.symm ne_a_z_7)
  have V_z_c10 := V_z_c10.other W11 (Ne.symm ne_a_z_10)
  have O := O.wr W11 g_a
  have K := K.wr W11 (Or.inl (List.mem_of_getElem? (i := 0) rfl))
  have N11 := Fr.snoc X11 N10 g_a
  obtain ⟨T12, h12, X12, e12, W12, st12⟩ := putFN X11 hx hZ hown (W 29 rfl) Via.refl e11 F_c_a E_a (Or.inr ⟨(W 30 rfl), rfl, hnm⟩) (W 6 rfl) (ty := .byte) (v' := (.int 1)) (by decide) rfl rfl (g := (mkF m 286 (own_F13 a u8 b (0 : Int32) (4 : Int32) (3 : Int32) z_5 (1 : Int32) z_10) [.int 1, .ref a])) rfl rfl (hb hby d11_286)
  have F_c_a := F_c_a.same W12
  have E_a := E_a.wr W12
  have F_v_a := F_v_a.other W12 (Or.inr (slot_ne (Or.inr (W 32 rfl)) (Or.inr (W 30 rfl)) (by decide) (t := (.array .byte)) (t' := .byte) (by decide) (by decide)))
  have V_b := V_b.other W12 ne_b_a
  have E_b := E_b.wr W12
  have V_z_c5 := V_z_c5.other W12 (Ne.symm ne_a_z_5)
  have E_z_c5 := E_z_c5.wr W12
  have V_d_c9 := V_d_c9.other W12 (Ne.symm ne_a_z_7)
  have V_z_c10 := V_z_c10.other W12 (Ne.symm ne_a_z_10)
  have O := O.wr W12 g_a
  have K := K.wr W12 (Or.inl (List.mem_of_getElem? (i := 0) rfl))
  have N12 := Fr.snoc X12 N11 g_a
  have w13 : ∀ t, Steps p.tables e below (T12.setTop (mkF m 879 (own_F13 a u8 b (0 : Int32) (4 : Int32) (3 : Int32) z_5 (1 : Int32) z_10) [])) t → Steps p.tables e below (s₁.setTop (entryFrame m #[.ref a, .ref u8, .ref b, .int 0, .int 4] 11)) t := fun t k => by
    refine pre0 t ?_
    refine zal X0 Hb d11_0 rfl rfl <| st1 _ <| ziL X1 Hb d11_4 rfl <| ziy X1 Hb d11_6 ((if0 _ _).trans (feq ((by decide) : ¬ ((4 : Int32) = (0 : Int32)))).2) 30 (by decide) rfl <| zal X1 Hb d11_30 rfl rfl <| st2 _ <| Jvm.RoadKit.acmp (g := (mkF m 34 (own_F8 a u8 b (0 : Int32) (4 : Int32)) [.ref u8, .ref u8])) X2 hx rfl rfl rfl (pc0 := 34) (pc' := 37) (same := true) rfl (hb hby d11_34) rfl (decide_eq_true rfl) (by decide) (by decide) <| st3 _ ?_
    refine zin X3 Hb d11_40 ((if0 _ _).trans (feq (SU.2.2.2.2.2.2.2.1 : ¬ (zc = (0 : Int32)))).1) <| zal X3 Hb d11_43 rfl rfl <| zil X3 Hb d11_44 rfl <| ziL X3 Hb d11_45 rfl <| st4 _ <| ziS X4 Hb (L' := (own_F9 a u8 b (0 : Int32) (4 : Int32) (1 : Int32))) d11_50 rfl <| ziL X4 Hb d11_52 rfl <| ziL X4 Hb d11_54 rfl ?_
    refine zcy X4 Hb d11_56 (feq ((by decide) : ¬ ((1 : Int32) = (4 : Int32)))).2 78 (by decide) rfl <| zal X4 Hb d11_78 rfl rfl <| zil X4 Hb d11_79 rfl <| zil X4 Hb d11_80 rfl <| ziL X4 Hb d11_81 rfl <| zia' X4 Hb d11_83 4 rfl <| st5 _ <| zaS X5 Hb (L' := (own_F10 a u8 b (0 : Int32) (4 : Int32) (1 : Int32) z_5)) d11_87 rfl rfl ?_
    refine ziL X5 Hb d11_89 rfl <| ziS X5 Hb (L' := (own_F11 a u8 b (0 : Int32) (4 : Int32) (1 : Int32) z_5 (1 : Int32))) d11_91 rfl <| ziL X5 Hb d11_93 rfl <| ziL X5 Hb d11_95 rfl <| zcn X5 Hb d11_97 (tlt ((by decide) : (1 : Int32) < (4 : Int32))).2.1 <| zaL X5 Hb d11_100 rfl rfl <| ziL X5 Hb d11_102 rfl <| zii X5 Hb (L' := (own_F11 a u8 b (0 : Int32) (4 : Int32) (1 : Int32) z_5 (2 : Int32))) d11_104 rfl 2 rfl rfl ?_
    refine zba X5 Hb hZ rfl B6 d11_107 <| ziS X5 Hb (L' := (own_F12 a u8 b (0 : Int32) (4 : Int32) (1 : Int32) z_5 (2 : Int32) yb)) d11_108 rfl <| ziL X5 Hb d11_110 rfl <| ziy X5 Hb d11_112 ((if0 _ _).trans (tlt (hp.1 : yb < (0 : Int32))).1) 129 (by decide) rfl <| ziL X5 Hb d11_129 rfl <| zsp X5 Hb d11_131 254 rfl <| zan X5 Hb d11_134 <| zsp X5 Hb d11_135 194 rfl ?_
    refine zcy X5 Hb d11_138 (feq (fun z => hl (hp.2.2.2.2.2.2.mp z) : ¬ ((yb &&& (254 : Int32)) = (194 : Int32)))).2 184 (by decide) rfl <| zii X5 Hb (L' := (own_F12 a u8 b (0 : Int32) (4 : Int32) (1 : Int32) z_5 (1 : Int32) yb)) d11_184 rfl 1 rfl rfl <| zgo X5 Hb d11_187 190 (by decide) rfl <| ziL X5 Hb d11_190 rfl <| ziL X5 Hb d11_192 rfl <| zcy X5 Hb d11_194 (feq ((by decide) : ¬ ((1 : Int32) = (4 : Int32)))).2 226 (by decide) rfl <| ziL X5 Hb d11_226 rfl <| st7 _ ?_
    refine zaS X7 Hb (L' := (own_F13 a u8 b (0 : Int32) (4 : Int32) (1 : Int32) z_5 (1 : Int32) z_7)) d11_231 rfl rfl <| zaL X7 Hb d11_233 rfl rfl <| zic X7 Hb d11_235 0 rfl <| zaL X7 Hb d11_236 rfl rfl <| zic X7 Hb d11_238 0 rfl <| ziL X7 Hb d11_239 rfl <| st8 _ <| zaL X8 Hb d11_244 rfl rfl ?_
    refine ziL X8 Hb d11_246 rfl <| ziL X8 Hb d11_248 rfl <| zaL X8 Hb d11_250 rfl rfl <| ziL X8 Hb d11_252 rfl <| zic X8 Hb d11_254 1 rfl <| st9 _ <| ziS X9 Hb (L' := (own_F13 a u8 b (0 : Int32) (4 : Int32) (3 : Int32) z_5 (1 : Int32) z_7)) d11_258 rfl <| ziL X9 Hb d11_260 rfl ?_
    refine ziL X9 Hb d11_262 rfl <| zcn X9 Hb d11_264 (feq ((by decide) : ¬ ((3 : Int32) = (4 : Int32)))).1 <| zaL X9 Hb d11_267 rfl rfl <| ziL X9 Hb d11_269 rfl <| zic X9 Hb d11_271 1 rfl <| zsl' X9 Hb d11_272 6 rfl <| st10 _ <| zaS X10 Hb (L' := (own_F13 a u8 b (0 : Int32) (4 : Int32) (3 : Int32) z_5 (1 : Int32) z_10)) d11_276 rfl rfl ?_
    refine zal X10 Hb d11_278 rfl rfl <| zaL X10 Hb d11_279 rfl rfl <| st11 _ <| zal X11 Hb d11_284 rfl rfl <| zic X11 Hb d11_285 1 rfl <| st12 _ <| zgo X12 Hb d11_289 879 (by decide) rfl ?_
    exact k
  obtain ⟨fs, hr, hrun, hended, hW, hsame⟩ := X12.leave (v := none) (fun _ => rfl)
  refine ⟨_, _, w13 _ ?_, hrun, hended, _, _, rfl, ?_, ⟨_, rfl⟩, hW, hsame.mono (by decide) (by decide)⟩
  · exact X12.returnOut hx Bd.returns (hb hby d11_879) hr
  · show Q11_D Z a u8 b kb ya yb yc yt cw  h0 n0 _ T12.heap _
    rw [e12]
    exact ⟨z_10, kz_10, rfl, N12, K, F_v_a, F_c_a, V_z_c10⟩
theorem rm9_D {l : Launch} {Z : State} {a0 : Array Value} (hw : own_W a0 Z) (a b u8 : Addr) (kb : ClassId) (ya yb yc yt cw : Int32) {zc : Int32} {fm : Value} {h0 : Heap} {n0 : Nat} (O0 : Old Z n0 h0) (SU : own_SU Z zc fm u8) (E_a : Exa Z h0 a "java/lang/String") (F_v_a : Fld Z h0 a "java/lang/String" "value" "[B" .null) (F_c_a : Fld Z h0 a "java/lang/String" "coder" "B" (.int 0)) (V_b : Arv Z h0 b kb .byte (4 : Int32) [.int ya, .int yb, .int yc, .int yt] (.int 0)) (E_b : Exa Z h0 b "[B") (E_u8 : Exa Z h0 u8 "sun/nio/cs/UTF_8") (na : ¬ ya < (0 : Int32)) (hp : own_P2 cw yb yc) (hl : ¬ cw < 256) (g_a : n0 ≤ a) : own_M l own_n9 jdk_42_method_49_code 3 none (own_rm 6 3 20 98) Z h0 #[.ref a, .ref b, .ref u8] (fun v h L => ∃ t1 : Addr, ∃ kt : ClassId, v = none ∧ Fr n0 L ∧ Keep h0 h [a] ∧ Fld Z h a "java/lang/String" "value" "[B" (.ref t1) ∧ Fld Z h a "java/lang/String" "coder" "B" (.int 1) ∧ Arv Z h t1 kt .byte (6 : Int32) [(.int (own_lo (ya &&& (255 : Int32)))), (.int (own_hi (ya &&& (255 : Int32)))), .int (own_lo cw), .int (own_hi cw), (.int (own_lo (own_tl yt))), (.int (own_hi (own_tl yt)))] (.int 0)) := by
  refine own_body (L0 := #[.val (.ref a), .val (.ref b), .val (.ref u8)]) (plainFor_of_name pn_java_lang_String) rfl rfl ?_
  intro p e s m below meth c s₁ f0 Bd hx Hb hml hZ hown X0 e0 pre0
  have hby := Hb.2
  have W := own_q hw
  have N0 := Fr.nil n0
  have O := O0
  have K := Keep.refl h0 [a]
  obtain ⟨_, T1, Lc1, X1, hQ1, st1⟩ := own_cS X0 Hb hZ hown hml (L := #[.val (.ref a), .val (.ref b), .val (.ref u8)]) rfl (rm10 hw u8 O ) (W 58 rfl) (W 59 rfl) (W 60 rfl) (W 61 rfl) pd23 e0 d9_2 [.ref u8] [.ref a] rfl rfl (by decide) 1 rfl (by decide)
  obtain ⟨rfl, N1q, eh1⟩ := hQ1
  have N1 := Fr.app N0 N1q
  obtain ⟨T2, X2, e2, st2⟩ := castY X1 hx hZ hown (W 62 rfl) eh1 (Ins.of_exa E_u8 (W 63 rfl)) (g := (mkF m 5 #[.val (.ref a), .val (.ref b), .val (.ref u8)] [.ref u8, .ref a])) rfl rfl (hb hby d9_5)
  have B3 := own_ln V_b
  have ne_b_a : b ≠ a := (Exa.ne E_b E_a (by decide))
  obtain ⟨_, _, ⟨T4, L4, k4, n4⟩, -, X4, ⟨Lc4, hQ4, l4, y4, z4⟩, st4⟩ := X2.specialBackH hx (y := own_n11) rfl hown (mvT hZ (W 64 rfl)) (mvT hZ (W 65 rfl)) (mvT hZ (W 66 rfl)) (by decide) (backOfWith (W := 0) (rm11_D l Z a0 hw [] a u8 b kb ya yb yc yt cw h0 n0 O SU E_a F_v_a F_c_a V_b E_b na hp hl g_a) hZ (W 66 rfl) (W 7 rfl) (by decide) (by decide)) (g := (mkF m 12 #[.val (.ref a), .val (.ref b), .val (.ref u8)] [.int 4, .int 0, .ref b, .ref u8, .ref a])) rfl (by rw [hml]; rfl) (Steps.refl _) (a := a) (argsL := [.ref u8, .ref b, .int 0, .int 4]) (rest := []) (lenOf pd24 rfl) rfl (by show 2 * 0 + _ ≤ _; exact Nat.le_of_eq rfl) (hb hby d9_12) (fun _ _ => ⟨rfl, e2, (by decide : 0 + 3 ≤ _), (by decide : 0 + 20 ≤ _)⟩)
  dsimp only [Pt.U, Pt.locs, Pt.cells, Pt.slots] at X4 l4 y4 z4 st4 hQ4
  have X4 := own_un X4 l4 y4 z4
  obtain ⟨t1_4, kt_4, rfl, N4q, K4, F_v_a_c4, F_c_a_c4, V_t_c4⟩ := hQ4
  have N4 := Fr.app N1 N4q
  have E_a := E_a.keep K4
  have V_b := V_b.keep K4 (ninS ne_b_a nin0)
  have E_b := E_b.keep K4
  have E_u8 := E_u8.keep K4
  have O := O.keep K4 (allS g_a all0)
  have K := K.trans K4 (allS (Or.inl (List.mem_of_getElem? (i := 0) rfl)) all0)
  have w5 : own_Go p e below f0 T4 m 15 #[.val (.ref a), .val (.ref b), .val (.ref u8)] [] := fun t k => by
    refine pre0 t ?_
    refine zal X0 Hb d9_0 rfl rfl <| zal X0 Hb d9_1 rfl rfl <| st1 _ <| st2 _ <| zal X2 Hb d9_8 rfl rfl <| zic X2 Hb d9_9 0 rfl <| zal X2 Hb d9_10 rfl rfl <| zal_ X2 Hb hZ e2 B3 d9_11 ?_
    refine st4.trans ?_
    exact k
  exact own_oV X4 Hb Bd.notSynchronized Bd.returns w5 d9_15 rfl (by decide) (by decide) ⟨t1_4, kt_4, rfl, N4, K, F_v_a_c4, F_c_a_c4, V_t_c4⟩
theorem rm8_D {l : Launch} {Z : State} {a0 : Array Value} (hw : own_W a0 Z) (a rb : Addr) (kb : ClassId) (ya yb yc yt cw : Int32) {zc : Int32} {fm : Value} {u8 : Addr} {h0 : Heap} {n0 : Nat} (O0 : Old Z n0 h0) (SU : own_SU Z zc fm u8) (F_b_a : Fld Z h0 a "com/example/gradual_reply/gradualreply/EncodedBody" "bytes" "[B" (.ref rb)) (V_rb : Arv Z h0 rb kb .byte (4 : Int32) [.int ya, .int yb, .int yc, .int yt] (.int 0)) (E_rb : Exa Z h0 rb "[B") (E_u8 : Exa Z h0 u8 "sun/nio/cs/UTF_8") (na : ¬ ya < (0 : Int32)) (hp : own_P2 cw yb yc) (hl : ¬ cw < 256) : own_M l own_n8 prog_6_method_4_code 1 (some (.object "java/lang/String")) (own_rm 7 4 24 113) Z h0 #[.ref a] (fun v h L => ∃ z : Addr, ∃ t1 : Addr, ∃ kt : ClassId, v = some (.ref z) ∧ Fr n0 L ∧ Keep h0 h [] ∧ Exa Z h z "java/lang/String" ∧ Fld Z h z "java/lang/String" "value" "[B" (.ref t1) ∧ Fld Z h z "java/lang/String" "coder" "B" (.int 1) ∧ Arv Z h t1 kt .byte (6 : Int32) [(.int (own_lo (ya &&& (255 : Int32)))), (.int (own_hi (ya &&& (255 : Int32)))), .int (own_lo cw), .int (own_hi cw), (.int (own_lo (own_tl yt))), (.int (own_hi (own_tl yt)))] (.int 0)) := by
  refine own_body (L0 := #[.val (.ref a)]) (plainFor_of_name pn_com_example_gradual_reply_gradualreply_EncodedBody) rfl rfl ?_
  intro p e s m below meth c s₁ f0 Bd hx Hb hml hZ hown X0 e0 pre0
  have hby := Hb.2
  have W := own_q hw
  have N0 := Fr.nil n0
  have O := O0
  have K := Keep.refl h0 []
  obtain ⟨T1, h1, X1, e1, E1, A1, D1, -, st1⟩ := newO X0 hx hZ hown (W 52 rfl) (W 6 rfl) (W 7 rfl) e0 (g := (mkF m 0 #[.val (.ref a)] [])) rfl (hb hby d8_0) (by decide) (by decide)
  obtain ⟨b1, gq1⟩ : ∃ z, z = Array.size h0 := ⟨_, rfl⟩
  rw [← gq1] at A1 D1 st1
  have ne_a_b1 : a ≠ b1 := Nat.ne_of_lt (Nat.lt_of_lt_of_le F_b_a.lt (Nat.le_of_eq gq1.symm))
  have ne_rb_b1 : rb ≠ b1 := Nat.ne_of_lt (Nat.lt_of_lt_of_le V_rb.lt (Nat.le_of_eq gq1.symm))
  have ne_u8_b1 : u8 ≠ b1 := Nat.ne_of_lt (Nat.lt_of_lt_of_le E_u8.lt (Nat.le_of_eq gq1.symm))
  have g_b1 : n0 ≤ b1 := Nat.le_trans (O.1 ▸ O.2.1) (Nat.le_of_eq gq1.symm)
  have z_b1 : h0.size ≤ b1 := Nat.le_trans K.1 (Nat.le_of_eq gq1.symm)
  have F_b_a := F_b_a.ext E1
  have V_rb := V_rb.ext E1
  have E_rb := E_rb.ext E1
  have E_u8 := E_u8.ext E1
  have O := O.ext E1
  have K := K.ext E1
  have F_coder_b1 : Fld Z h1 b1 "java/lang/String" "coder" "B" (.int 0) := D1 (Or.inr (W 30 rfl)) (ty := .byte) (by decide)
  have F_value_b1 : Fld Z h1 b1 "java/lang/String" "value" "[B" .null := D1 (Or.inr (W 32 rfl)) (ty := (.array .byte)) (by decide)
  obtain ⟨T2, X2, e2, st2⟩ := getF X1 hx hZ hown (host := "") (Or.inl (W 45 rfl)) Via.refl e1 F_b_a (g := (mkF m 5 #[.val (.ref a)] [.ref a, .ref b1, .ref b1])) rfl rfl (hb hby d8_5)
  obtain ⟨T3, X3, e3, st3⟩ := getS2 X2 hx hZ hown (host := "") (Or.inl (W 53 rfl)) Via.refl e2 (SU.2.2.2.2.2.1.ext O.2) (g := (mkF m 8 #[.val (.ref a)] [.ref rb, .ref b1, .ref b1])) rfl (hb hby d8_8)
  obtain ⟨_, T4, Lc4, X4, hQ4, st4⟩ := own_cI X3 Hb hZ hown hml (L := #[.val (.ref a)]) rfl (rm9_D hw b1 rb u8 kb ya yb yc yt cw O SU A1 F_value_b1 F_coder_b1 V_rb E_rb E_u8 na hp hl g_b1) (W 55 rfl) (W 56 rfl) (W 7 rfl) (W 57 rfl) pd25 e3 d8_11 b1 [.ref rb, .ref u8] [.ref b1] rfl rfl (by decide) 1 rfl (by decide)
  obtain ⟨t1_4, kt_4, rfl, N4q, K4, F_v_a_c4, F_c_a_c4, V_t_c4⟩ := hQ4
  have N4 := Fr.app N0 N4q
  have F_b_a := F_b_a.keep K4 (ninS ne_a_b1 nin0)
  have V_rb := V_rb.keep K4 (ninS ne_rb_b1 nin0)
  have E_rb := E_rb.keep K4
  have E_u8 := E_u8.keep K4
  have A1 := A1.keep K4
  have O := O.keep K4 (allS g_b1 all0)
  have K := K.trans K4 (allS (Or.inr z_b1) all0)
  have w5 : own_Go p e below f0 T4 m 14 #[.val (.ref a)] [.ref b1] := fun t k => by
    refine pre0 t ?_
    refine st1 _ <| zdu X1 Hb d8_3 rfl <| zal X1 Hb d8_4 rfl rfl <| st2 _ <| st3 _ <| st4 _ ?_
    exact k
  exact own_oR X4 Hb Bd.notSynchronized Bd.returns rfl w5 d8_14 rfl (by decide) (by decide) ⟨b1, t1_4, kt_4, rfl, N4, K, A1, F_v_a_c4, F_c_a_c4, V_t_c4⟩
theorem ef_11_E (m : MethodId) (x0 : Addr) (x1 : Addr) (x2 : Addr) : entryFrame m #[.ref x0, .ref x1, .ref x2, .int 0, .int 5] 11 = mkF m 0 #[.val (.ref x0), .val (.ref x1), .val (.ref x2), .val (.int 0), .val (.int 5), .unset, .unset, .unset, .unset, .unset, .unset] [] := by first | (simp [entryFrame, mkF, argsToLocals, Value.category]; done) | rfl
def Q11_E (Z : State) (a : Addr) (u8 : Addr) (b : Addr) (kb : ClassId) (ya : Int32) (yb : Int32) (yc : Int32) (yd : Int32) (yt : Int32) (cw : Int32) (h0 : Heap) (n0 : Nat) (v : Option Value) (h : Heap) (L : List Loc) : Prop := ∃ t1 : Addr, ∃ kt : ClassId, v = none ∧ Fr n0 L ∧ Keep h0 h [a] ∧ Fld Z h a "java/lang/String" "value" "[B" (.ref t1) ∧ Fld Z h a "java/lang/String" "coder" "B" (.int 1) ∧ Arv Z h t1 kt .byte (6 : Int32) [(.int (own_lo (ya &&& (255 : Int32)))), (.int (own_hi (ya &&& (255 : Int32)))), .int (own_lo cw), .int (own_hi cw), (.int (own_lo (own_tl yt))), (.int (own_hi (own_tl yt)))] (.int 0)
set_option maxRecDepth 65536 in
set_option maxHeartbeats 40000000 in
theorem rm11_E (l : Launch) (Z : State) (a0 : Array Value) (hw : ∀ d ∈ tables_1, d.before a0 Z = true) (ws : List Jvm.Cond) (a : Addr) (u8 : Addr) (b : Addr) (kb : ClassId) (ya : Int32) (yb : Int32) (yc : Int32) (yd : Int32) (yt : Int32) (cw : Int32) {zc : Int32} {fm : Value} (h0 : Heap) (n0 : Nat) (O0 : Old Z n0 h0) (SU : own_SU Z zc fm u8) (E_a : Exa Z h0 a "java/lang/String") (F_v_a : Fld Z h0 a "java/lang/String" "value" "[B" .null) (F_c_a : Fld Z h0 a "java/lang/String" "coder" "B" (.int 0)) (V_b : Arv Z h0 b kb .byte (5 : Int32) [.int ya, .int yb, .int yc, .int yd, .int yt] (.int 0)) (E_b : Exa Z h0 b "[B") (na : ¬ ya < (0 : Int32)) (hp : own_P3 cw yb yc yd) (hs : ¬ cw < (55296 : Int32) → ¬ cw < (57344 : Int32)) (g_a : n0 ≤ a) :
    MetFree l (⟨"java/lang/String", "<init>", "(Ljava/nio/charset/Charset;[BII)V"⟩ : MethodName) (head1 (Jvm.Cond.codeWith (⟨"java/lang/String", "<init>", "(Ljava/nio/charset/Charset;[BII)V"⟩ : MethodName) jdk_42_method_11_code 11 none [((800 : Nat), (813 : Nat), (816 : Nat), (202 : Nat))] :: ws) ({ frames := 5, cells := 3, slots := 22, locals := 76 } : Room)) (fun aA uU => aA = #[.ref a, .ref u8, .ref b, .int 0, .int 5] ∧ Z.Warmed39 uU.vm ∧ uU.heap = h0) (fun _ _ _ _ _ => True) (fun _ uU oO uU' => ∃ vV lL, oO = .returned vV ∧ Q11_E Z a u8 b kb ya yb yc yd yt cw  h0 n0 vV uU'.heap lL ∧ FrameEnd uU oO uU' lL ({ frames := 5, cells := 3, slots := 22, locals := 76 } : Room).cells ({ frames := 5, cells := 3, slots := 22, locals := 76 } : Room).slots) := by
  refine MetFree.of_bodySF (plainFor_of_name pn_java_lang_String) hisWith ?_
  intro p e s m args below meth c s₁ Bd hml0 hP hK
  obtain ⟨rfl, hZ, hh⟩ := hP
  have hx := Bd.exec
  have hby := Bd.bytes
  have hml : c.maxLocals = 11 := hml0
  have hown : s.vm.findClass "java/lang/String" = some m.cls := findClass_of_methodNamed Bd.named
  have hnm := (name_of_methodNamed Bd.named Bd.method).1
  have X0 : Stand p l e ({ frames := 5, cells := 3, slots := 22, locals := 76 } : Room) s m #[.ref a, .ref u8, .ref b, .int 0, .int 5] below meth c s₁ [] 0 0 := Stand.of_body Bd
  have e0 : s₁.heap = h0 := by rw [← hh, Bd.state]; rfl
  have N0 := Fr.nil n0
  have O := O0
  have K := Keep.refl h0 [a]
  have Hb : own_H p c jdk_42_method_11_code := ⟨hx, hby⟩
  have W := own_q hw
  have pre0 : ∀ t, Steps p.tables e below (s₁.setTop (mkF m 0 #[.val (.ref a), .val (.ref u8), .val (.ref b), .val (.int 0), .val (.int 5), .unset, .unset, .unset, .unset, .unset, .unset] [])) t → Steps p.tables e below (s₁.setTop (entryFrame m #[.ref a, .ref u8, .ref b, .int 0, .int 5] 11)) t := fun t k => castTop (ef_11_E m a u8 b) k
  obtain ⟨T1, X1, e1, st1⟩ := initO X0 hx hZ hown (W 15 rfl) (W 16 rfl) (W 17 rfl) e0 (g := (mkF m 1 (own_F8 a u8 b (0 : Int32) (5 : Int32)) [.ref a])) rfl (by rw [hml]; rfl) rfl (hb hby d11_1) (by decide) (W := 0) (by show 2 * 0 + _ ≤ _; exact Nat.le_of_eq rfl) (by decide)
  obtain ⟨T2, X2, e2, st2⟩ := getS2 X1 hx hZ hown (host := "") (Or.inl (W 67 rfl)) Via.refl e1 (SU.2.2.2.2.2.2.1.ext O.2) (g := (mkF m 31 (own_F8 a u8 b (0 : Int32) (5 : Int32)) [.ref u8])) rfl (hb hby d11_31)
  obtain ⟨T3, X3, e3, st3⟩ := getS2 X2 hx hZ hown (host := "") (Or.inl (W 18 rfl)) Via.refl e2 (SU.2.2.2.1.ext O.2) (g := (mkF m 37 (own_F8 a u8 b (0 : Int32) (5 : Int32)) [])) rfl (hb hby d11_37)
  obtain ⟨_, T4, Lc4, X4, hQ4, st4⟩ := own_cS X3 Hb hZ hown hml (L := (own_F8 a u8 b (0 : Int32) (5 : Int32))) rfl (rm12_5_1 hw b kb ya yb yc yd yt O V_b na hp.1) (W 69 rfl) (W 70 rfl) (W 71 rfl) (W 72 rfl) pd21 e3 d11_47 [.ref b, .int 0, .int 5] [] rfl rfl (by decide) 0 rfl (by decide)
  obtain ⟨rfl, N4q, eh4⟩ := hQ4
  have N4 := Fr.app N0 N4q
  have lt5_a := E_a.lt
  have lt5_b := V_b.lt
  obtain ⟨_, T5, Lc5, X5, hQ5, st5⟩ := own_cS X4 Hb hZ hown hml (L := (own_F9 a u8 b (0 : Int32) (5 : Int32) (1 : Int32))) rfl (rm13 hw b (5 : Int32) kb [.int ya, .int yb, .int yc, .int yd, .int yt] O V_b E_b (by decide)) (W 73 rfl) (W 74 rfl) (W 75 rfl) (W 76 rfl) pd22 eh4 d11_84 [.ref b, .int 0, .int 5] [] rfl rfl (by decide) 0 rfl (by decide)
  obtain ⟨z_5, rfl, N5q, K5, V_z_c5, E_z_c5, gz_5, gn_5⟩ := hQ5
  have N5 := Fr.app N4 N5q
  have E_a := E_a.keep K5
  have F_v_a := F_v_a.keep K5 nin0
  have F_c_a := F_c_a.keep K5 nin0
  have V_b := V_b.keep K5 nin0
  have E_b := E_b.keep K5
  have ne_a_z_5 : a ≠ z_5 := Nat.ne_of_lt (Nat.lt_of_lt_of_le lt5_a gz_5)
  have ne_b_z_5 : b ≠ z_5 := Nat.ne_of_lt (Nat.lt_of_lt_of_le lt5_b gz_5)
  have g_z_5 := gn_5
  have z_z_5 : h0.size ≤ z_5 := Nat.le_trans K.1 gz_5
  have O := O.keep K5 all0
  have K := K.trans K5 all0
  have B6 : own_El Z (T5.heap) z_5 .byte (1 : Int32) (.int yb) := own_el V_z_c5 ⟨by decide, by decide⟩ rfl
  have lt7_a := E_a.lt
  have lt7_b := V_b.lt
  have lt7_z_5 := V_z_c5.lt
  obtain ⟨_, T7, Lc7, X7, hQ7, st7⟩ := own_cS X5 Hb hZ hown hml (L := (own_F12 a u8 b (0 : Int32) (5 : Int32) (1 : Int32) z_5 (1 : Int32) yb)) rfl (rm17_5 hw  O ) (W 119 rfl) (W 104 rfl) (W 21 rfl) (W 105 rfl) pd1 rfl d11_228 [.int 5] [] rfl rfl (by decide) 0 rfl (by decide)
  obtain ⟨z_7, kz_7, rfl, N7q, K7, V_z_c7, gz_7, gn_7⟩ := hQ7
  have N7 := Fr.app N5 N7q
  have E_a := E_a.keep K7
  have F_v_a := F_v_a.keep K7 nin0
  have F_c_a := F_c_a.keep K7 nin0
  have V_b := V_b.keep K7 nin0
  have E_b := E_b.keep K7
  have V_z_c5 := V_z_c5.keep K7 nin0
  have E_z_c5 := E_z_c5.keep K7
  have ne_a_z_7 : a ≠ z_7 := Nat.ne_of_lt (Nat.lt_of_lt_of_le lt7_a gz_7)
  have ne_b_z_7 : b ≠ z_7 := Nat.ne_of_lt (Nat.lt_of_lt_of_le lt7_b gz_7)
  have ne_z_5_z_7 : z_5 ≠ z_7 := Nat.ne_of_lt (Nat.lt_of_lt_of_le lt7_z_5 gz_7)
  have g_z_7 := gn_7
  have z_z_7 : h0.size ≤ z_7 := Nat.le_trans K.1 gz_7
  have O := O.keep K7 all0
  have K := K.trans K7 all0
  obtain ⟨_, T8, Lc8, X8, hQ8, st8⟩ := own_cS X7 Hb hZ hown hml (L := (own_F13 a u8 b (0 : Int32) (5 : Int32) (1 : Int32) z_5 (1 : Int32) z_7)) rfl (rm21_5_1 hw z_5 z_7 kb ya yb yc yd yt kz_7 O SU V_z_c5 V_z_c7 ne_z_5_z_7 g_z_7) (W 120 rfl) (W 121 rfl) (W 94 rfl) (W 122 rfl) pd13 rfl d11_241 [.ref z_5, .int 0, .ref z_7, .int 0, .int 1] [] rfl rfl (by decide) 0 rfl (by decide)
  obtain ⟨rfl, N8q, K8, V_d_c8⟩ := hQ8
  have N8 := Fr.app N7 N8q
  have E_a := E_a.keep K8
  have F_v_a := F_v_a.keep K8 (ninS ne_a_z_7 nin0)
  have F_c_a := F_c_a.keep K8 (ninS ne_a_z_7 nin0)
  have V_b := V_b.keep K8 (ninS ne_b_z_7 nin0)
  have E_b := E_b.keep K8
  have V_z_c5 := V_z_c5.keep K8 (ninS ne_z_5_z_7 nin0)
  have E_z_c5 := E_z_c5.keep K8
  have O := O.keep K8 (allS g_z_7 all0)
  have K := K.trans K8 (allS (Or.inr z_z_7) all0)
  obtain ⟨_, T9, Lc9, X9, hQ9, st9⟩ := own_cS X8 Hb hZ hown hml (L := (own_F13 a u8 b (0 : Int32) (5 : Int32) (1 : Int32) z_5 (1 : Int32) z_7)) rfl (rm27_E hw z_5 z_7 kb ya yb yc yd yt cw kz_7 (own_lo (ya &&& (255 : Int32))) (own_hi (ya &&& (255 : Int32))) O SU V_z_c5 V_d_c8 ne_z_5_z_7 hp hs g_z_7) (W 140 rfl) (W 141 rfl) (W 7 rfl) (W 142 rfl) pd26 rfl d11_255 [.ref z_5, .int 1, .int 5, .ref z_7, .int 1, .int 1] [] rfl rfl (by decide) 0 rfl (by decide)
  obtain ⟨rfl, N9q, K9, V_d_c9⟩ := hQ9
  have N9 := Fr.app N8 N9q
  have E_a := E_a.keep K9
  have F_v_a := F_v_a.keep K9 (ninS ne_a_z_7 nin0)
  have F_c_a := F_c_a.keep K9 (ninS ne_a_z_7 nin0)
  have V_b := V_b.keep K9 (ninS ne_b_z_7 nin0)
  have E_b := E_b.keep K9
  have V_z_c5 := V_z_c5.keep K9 (ninS ne_z_5_z_7 nin0)
  have E_z_c5 := E_z_c5.keep K9
  have O := O.keep K9 (allS g_z_7 all0)
  have K := K.trans K9 (allS (Or.inr z_z_7) all0)
  have lt10_a := E_a.lt
  have lt10_b := V_b.lt
  have lt10_z_5 := V_z_c5.lt
  have lt10_z_7 := V_d_c9.lt
  obtain ⟨_, T10, Lc10, X10, hQ10, st10⟩ := own_cS X9 Hb hZ hown hml (L := (own_F13 a u8 b (0 : Int32) (5 : Int32) (3 : Int32) z_5 (1 : Int32) z_7)) rfl (rm33_10_6 hw z_7 kz_7 (own_lo (ya &&& (255 : Int32))) (own_hi (ya &&& (255 : Int32))) (own_lo cw) (own_hi cw) (own_lo (own_tl yt)) (own_hi (own_tl yt)) (0 : Int32) (0 : Int32) (0 : Int32) (0 : Int32) O V_d_c9) (W 166 rfl) (W 167 rfl) (W 75 rfl) (W 168 rfl) pd27 rfl d11_273 [.ref z_7, .int 6] [] rfl rfl (by decide) 0 rfl (by decide)
  obtain ⟨z_10, kz_10, rfl, N10q, K10, V_z_c10, gz_10, gn_10⟩ := hQ10
  have N10 := Fr.app N9 N10q
  have E_a := E_a.keep K10
  have F_v_a := F_v_a.keep K10 nin0
  have F_c_a := F_c_a.keep K10 nin0
  have V_b := V_b.keep K10 nin0
  have E_b := E_b.keep K10
  have V_z_c5 := V_z_c5.keep K10 nin0
  have E_z_c5 := E_z_c5.keep K10
  have V_d_c9 := V_d_c9.keep K10 nin0
  have ne_a_z_10 : a ≠ z_10 := Nat.ne_of_lt (Nat.lt_of_lt_of_le lt10_a gz_10)
  have ne_b_z_10 : b ≠ z_10 := Nat.ne_of_lt (Nat.lt_of_lt_of_le lt10_b gz_10)
  have ne_z_5_z_10 : z_5 ≠ z_10 := Nat.ne_of_lt (Nat.lt_of_lt_of_le lt10_z_5 gz_10)
  have ne_z_7_z_10 : z_7 ≠ z_10 := Nat.ne_of_lt (Nat.lt_of_lt_of_le lt10_z_7 gz_10)
  have g_z_10 := gn_10
  have z_z_10 : h0.size ≤ z_10 := Nat.le_trans K.1 gz_10
  have O := O.keep K10 all0
  have K := K.trans K10 all0
  have ne_b_a : b ≠ a := (Exa.ne E_b E_a (by decide))
  obtain ⟨T11, h11, X11, e11, W11, st11⟩ := putF X10 hx hZ hown (host := "") (Or.inl (W 31 rfl)) Via.refl rfl F_v_a E_a (Or.inr ⟨(W 32 rfl), rfl, hnm⟩) (W 6 rfl) (ty := (.array .byte)) (by decide) rfl rfl (g := (mkF m 281 (own_F13 a u8 b (0 : Int32) (5 : Int32) (3 : Int32) z_5 (1 : Int32) z_10) [.ref z_10, .ref a])) rfl rfl (hb hby d11_281)
  have F_v_a := F_v_a.same W11
  have E_a := E_a.wr W11
  have F_c_a := F_c_a.other W11 (Or.inr (slot_ne (Or.inr (W 30 rfl)) (Or.inr (W 32 rfl)) (by decide) (t := .byte) (t' := (.array .byte)) (by decide) (by decide)))
  have V_b := V_b.other W11 ne_b_a
  have E_b := E_b.wr W11
  have V_z_c5 := V_z_c5.other W11 (Ne.symm ne_a_z_5)
  have E_z_c5 := E_z_c5.wr W11
  have V_d_c9 := V_d_c9.other W11 (Ne.symm ne_a_z_7)
  have V_z_c10 := V_z_c10.other W11 (Ne.symm ne_a_z_10)
  have O := O.wr W11 g_a
  have K := K.wr W11 (Or.inl (List.mem_of_getElem? (i := 0) rfl))
  have N11 := Fr.snoc X11 N10 g_a
  obtain ⟨T12, h12, X12, e12, W12, st12⟩ := putFN X11 hx hZ hown (W 29 rfl) Via.refl e11 F_c_a E_a (Or.inr ⟨(W 30 rfl), rfl, hnm⟩) (W 6 rfl) (ty := .byte) (v' := (.int 1)) (by decide) rfl rfl (g := (mkF m 286 (own_F13 a u8 b (0 : Int32) (5 : Int32) (3 : Int32) z_5 (1 : Int32) z_10) [.int 1, .ref a])) rfl rfl (hb hby d11_286)
  have F_c_a := F_c_a.same W12
  have E_a := E_a.wr W12
  have F_v_a := F_v_a.other W12 (Or.inr (slot_ne (Or.inr (W 32 rfl)) (Or.inr (W 30 rfl)) (by decide) (t := (.array .byte)) (t' := .byte) (by decide) (by decide)))
  have V_b := V_b.other W12 ne_b_a
  have E_b := E_b.wr W12
  have V_z_c5 := V_z_c5.other W12 (Ne.symm ne_a_z_5)
  have E_z_c5 := E_z_c5.wr W12
  have V_d_c9 := V_d_c9.other W12 (Ne.symm ne_a_z_7)
  have V_z_c10 := V_z_c10.other W12 (Ne.symm ne_a_z_10)
  have O := O.wr W12 g_a
  have K := K.wr W12 (Or.inl (List.mem_of_getElem? (i := 0) rfl))
  have N12 := Fr.snoc X12 N11 g_a
  have w13 : ∀ t, Steps p.tables e below (T12.setTop (mkF m 879 (own_F13 a u8 b (0 : Int32) (5 : Int32) (3 : Int32) z_5 (1 : Int32) z_10) [])) t → Steps p.tables e below (s₁.setTop (entryFrame m #[.ref a, .ref u8, .ref b, .int 0, .int 5] 11)) t := fun t k => by
    refine pre0 t ?_
    refine zal X0 Hb d11_0 rfl rfl <| st1 _ <| ziL X1 Hb d11_4 rfl <| ziy X1 Hb d11_6 ((if0 _ _).trans (feq ((by decide) : ¬ ((5 : Int32) = (0 : Int32)))).2) 30 (by decide) rfl <| zal X1 Hb d11_30 rfl rfl <| st2 _ <| Jvm.RoadKit.acmp (g := (mkF m 34 (own_F8 a u8 b (0 : Int32) (5 : Int32)) [.ref u8, .ref u8])) X2 hx rfl rfl rfl (pc0 := 34) (pc' := 37) (same := true) rfl (hb hby d11_34) rfl (decide_eq_true rfl) (by decide) (by decide) <| st3 _ ?_
    refine zin X3 Hb d11_40 ((if0 _ _).trans (feq (SU.2.2.2.2.2.2.2.1 : ¬ (zc = (0 : Int32)))).1) <| zal X3 Hb d11_43 rfl rfl <| zil X3 Hb d11_44 rfl <| ziL X3 Hb d11_45 rfl <| st4 _ <| ziS X4 Hb (L' := (own_F9 a u8 b (0 : Int32) (5 : Int32) (1 : Int32))) d11_50 rfl <| ziL X4 Hb d11_52 rfl <| ziL X4 Hb d11_54 rfl ?_
    refine zcy X4 Hb d11_56 (feq ((by decide) : ¬ ((1 : Int32) = (5 : Int32)))).2 78 (by decide) rfl <| zal X4 Hb d11_78 rfl rfl <| zil X4 Hb d11_79 rfl <| zil X4 Hb d11_80 rfl <| ziL X4 Hb d11_81 rfl <| zia' X4 Hb d11_83 5 rfl <| st5 _ <| zaS X5 Hb (L' := (own_F10 a u8 b (0 : Int32) (5 : Int32) (1 : Int32) z_5)) d11_87 rfl rfl ?_
    refine ziL X5 Hb d11_89 rfl <| ziS X5 Hb (L' := (own_F11 a u8 b (0 : Int32) (5 : Int32) (1 : Int32) z_5 (1 : Int32))) d11_91 rfl <| ziL X5 Hb d11_93 rfl <| ziL X5 Hb d11_95 rfl <| zcn X5 Hb d11_97 (tlt ((by decide) : (1 : Int32) < (5 : Int32))).2.1 <| zaL X5 Hb d11_100 rfl rfl <| ziL X5 Hb d11_102 rfl <| zii X5 Hb (L' := (own_F11 a u8 b (0 : Int32) (5 : Int32) (1 : Int32) z_5 (2 : Int32))) d11_104 rfl 2 rfl rfl ?_
    refine zba X5 Hb hZ rfl B6 d11_107 <| ziS X5 Hb (L' := (own_F12 a u8 b (0 : Int32) (5 : Int32) (1 : Int32) z_5 (2 : Int32) yb)) d11_108 rfl <| ziL X5 Hb d11_110 rfl <| ziy X5 Hb d11_112 ((if0 _ _).trans (tlt (hp.1 : yb < (0 : Int32))).1) 129 (by decide) rfl <| ziL X5 Hb d11_129 rfl <| zsp X5 Hb d11_131 254 rfl <| zan X5 Hb d11_134 <| zsp X5 Hb d11_135 194 rfl ?_
    refine zcy X5 Hb d11_138 (feq (hp.2.2.2.1 : ¬ ((yb &&& (254 : Int32)) = (194 : Int32)))).2 184 (by decide) rfl <| zii X5 Hb (L' := (own_F12 a u8 b (0 : Int32) (5 : Int32) (1 : Int32) z_5 (1 : Int32) yb)) d11_184 rfl 1 rfl rfl <| zgo X5 Hb d11_187 190 (by decide) rfl <| ziL X5 Hb d11_190 rfl <| ziL X5 Hb d11_192 rfl <| zcy X5 Hb d11_194 (feq ((by decide) : ¬ ((1 : Int32) = (5 : Int32)))).2 226 (by decide) rfl <| ziL X5 Hb d11_226 rfl <| st7 _ ?_
    refine zaS X7 Hb (L' := (own_F13 a u8 b (0 : Int32) (5 : Int32) (1 : Int32) z_5 (1 : Int32) z_7)) d11_231 rfl rfl <| zaL X7 Hb d11_233 rfl rfl <| zic X7 Hb d11_235 0 rfl <| zaL X7 Hb d11_236 rfl rfl <| zic X7 Hb d11_238 0 rfl <| ziL X7 Hb d11_239 rfl <| st8 _ <| zaL X8 Hb d11_244 rfl rfl ?_
    refine ziL X8 Hb d11_246 rfl <| ziL X8 Hb d11_248 rfl <| zaL X8 Hb d11_250 rfl rfl <| ziL X8 Hb d11_252 rfl <| zic X8 Hb d11_254 1 rfl <| st9 _ <| ziS X9 Hb (L' := (own_F13 a u8 b (0 : Int32) (5 : Int32) (3 : Int32) z_5 (1 : Int32) z_7)) d11_258 rfl <| ziL X9 Hb d11_260 rfl ?_
    refine ziL X9 Hb d11_262 rfl <| zcn X9 Hb d11_264 (feq ((by decide) : ¬ ((3 : Int32) = (5 : Int32)))).1 <| zaL X9 Hb d11_267 rfl rfl <| ziL X9 Hb d11_269 rfl <| zic X9 Hb d11_271 1 rfl <| zsl' X9 Hb d11_272 6 rfl <| st10 _ <| zaS X10 Hb (L' := (own_F13 a u8 b (0 : Int32) (5 : Int32) (3 : Int32) z_5 (1 : Int32) z_10)) d11_276 rfl rfl ?_
    refine zal X10 Hb d11_278 rfl rfl <| zaL X10 Hb d11_279 rfl rfl <| st11 _ <| zal X11 Hb d11_284 rfl rfl <| zic X11 Hb d11_285 1 rfl <| st12 _ <| zgo X12 Hb d11_289 879 (by decide) rfl ?_
    exact k
  obtain ⟨fs, hr, hrun, hended, hW, hsame⟩ := X12.leave (v := none) (fun _ => rfl)
  refine ⟨_, _, w13 _ ?_, hrun, hended, _, _, rfl, ?_, ⟨_, rfl⟩, hW, hsame.mono (by decide) (by decide)⟩
  · exact X12.returnOut hx Bd.returns (hb hby d11_879) hr
  · show Q11_E Z a u8 b kb ya yb yc yd yt cw  h0 n0 _ T12.heap _
    rw [e12]
    exact ⟨z_10, kz_10, rfl, N12, K, F_v_a, F_c_a, V_z_c10⟩
theorem rm9_E {l : Launch} {Z : State} {a0 : Array Value} (hw : own_W a0 Z) (a b u8 : Addr) (kb : ClassId) (ya yb yc yd yt cw : Int32) {zc : Int32} {fm : Value} {h0 : Heap} {n0 : Nat} (O0 : Old Z n0 h0) (SU : own_SU Z zc fm u8) (E_a : Exa Z h0 a "java/lang/String") (F_v_a : Fld Z h0 a "java/lang/String" "value" "[B" .null) (F_c_a : Fld Z h0 a "java/lang/String" "coder" "B" (.int 0)) (V_b : Arv Z h0 b kb .byte (5 : Int32) [.int ya, .int yb, .int yc, .int yd, .int yt] (.int 0)) (E_b : Exa Z h0 b "[B") (E_u8 : Exa Z h0 u8 "sun/nio/cs/UTF_8") (na : ¬ ya < (0 : Int32)) (hp : own_P3 cw yb yc yd) (hs : ¬ cw < (55296 : Int32) → ¬ cw < (57344 : Int32)) (g_a : n0 ≤ a) : own_M l own_n9 jdk_42_method_49_code 3 none (own_rm 6 3 22 98) Z h0 #[.ref a, .ref b, .ref u8] (fun v h L => ∃ t1 : Addr, ∃ kt : ClassId, v = none ∧ Fr n0 L ∧ Keep h0 h [a] ∧ Fld Z h a "java/lang/String" "value" "[B" (.ref t1) ∧ Fld Z h a "java/lang/String" "coder" "B" (.int 1) ∧ Arv Z h t1 kt .byte (6 : Int32) [(.int (own_lo (ya &&& (255 : Int32)))), (.int (own_hi (ya &&& (255 : Int32)))), .int (own_lo cw), .int (own_hi cw), (.int (own_lo (own_tl yt))), (.int (own_hi (own_tl yt)))] (.int 0)) := by
  refine own_body (L0 := #[.val (.ref a), .val (.ref b), .val (.ref u8)]) (plainFor_of_name pn_java_lang_String) rfl rfl ?_
  intro p e s m below meth c s₁ f0 Bd hx Hb hml hZ hown X0 e0 pre0
  have hby := Hb.2
  have W := own_q hw
  have N0 := Fr.nil n0
  have O := O0
  have K := Keep.refl h0 [a]
  obtain ⟨_, T1, Lc1, X1, hQ1, st1⟩ := own_cS X0 Hb hZ hown hml (L := #[.val (.ref a), .val (.ref b), .val (.ref u8)]) rfl (rm10 hw u8 O ) (W 58 rfl) (W 59 rfl) (W 60 rfl) (W 61 rfl) pd23 e0 d9_2 [.ref u8] [.ref a] rfl rfl (by decide) 1 rfl (by decide)
  obtain ⟨rfl, N1q, eh1⟩ := hQ1
  have N1 := Fr.app N0 N1q
  obtain ⟨T2, X2, e2, st2⟩ := castY X1 hx hZ hown (W 62 rfl) eh1 (Ins.of_exa E_u8 (W 63 rfl)) (g := (mkF m 5 #[.val (.ref a), .val (.ref b), .val (.ref u8)] [.ref u8, .ref a])) rfl rfl (hb hby d9_5)
  have B3 := own_ln V_b
  have ne_b_a : b ≠ a := (Exa.ne E_b E_a (by decide))
  obtain ⟨_, _, ⟨T4, L4, k4, n4⟩, -, X4, ⟨Lc4, hQ4, l4, y4, z4⟩, st4⟩ := X2.specialBackH hx (y := own_n11) rfl hown (mvT hZ (W 64 rfl)) (mvT hZ (W 65 rfl)) (mvT hZ (W 66 rfl)) (by decide) (backOfWith (W := 0) (rm11_E l Z a0 hw [] a u8 b kb ya yb yc yd yt cw h0 n0 O SU E_a F_v_a F_c_a V_b E_b na hp hs g_a) hZ (W 66 rfl) (W 7 rfl) (by decide) (by decide)) (g := (mkF m 12 #[.val (.ref a), .val (.ref b), .val (.ref u8)] [.int 5, .int 0, .ref b, .ref u8, .ref a])) rfl (by rw [hml]; rfl) (Steps.refl _) (a := a) (argsL := [.ref u8, .ref b, .int 0, .int 5]) (rest := []) (lenOf pd24 rfl) rfl (by show 2 * 0 + _ ≤ _; exact Nat.le_of_eq rfl) (hb hby d9_12) (fun _ _ => ⟨rfl, e2, (by decide : 0 + 3 ≤ _), (by decide : 0 + 22 ≤ _)⟩)
  dsimp only [Pt.U, Pt.locs, Pt.cells, Pt.slots] at X4 l4 y4 z4 st4 hQ4
  have X4 := own_un X4 l4 y4 z4
  obtain ⟨t1_4, kt_4, rfl, N4q, K4, F_v_a_c4, F_c_a_c4, V_t_c4⟩ := hQ4
  have N4 := Fr.app N1 N4q
  have E_a := E_a.keep K4
  have V_b := V_b.keep K4 (ninS ne_b_a nin0)
  have E_b := E_b.keep K4
  have E_u8 := E_u8.keep K4
  have O := O.keep K4 (allS g_a all0)
  have K := K.trans K4 (allS (Or.inl (List.mem_of_getElem? (i := 0) rfl)) all0)
  have w5 : own_Go p e below f0 T4 m 15 #[.val (.ref a), .val (.ref b), .val (.ref u8)] [] := fun t k => by
    refine pre0 t ?_
    refine zal X0 Hb d9_0 rfl rfl <| zal X0 Hb d9_1 rfl rfl <| st1 _ <| st2 _ <| zal X2 Hb d9_8 rfl rfl <| zic X2 Hb d9_9 0 rfl <| zal X2 Hb d9_10 rfl rfl <| zal_ X2 Hb hZ e2 B3 d9_11 ?_
    refine st4.trans ?_
    exact k
  exact own_oV X4 Hb Bd.notSynchronized Bd.returns w5 d9_15 rfl (by decide) (by decide) ⟨t1_4, kt_4, rfl, N4, K, F_v_a_c4, F_c_a_c4, V_t_c4⟩
theorem rm8_E {l : Launch} {Z : State} {a0 : Array Value} (hw : own_W a0 Z) (a rb : Addr) (kb : ClassId) (ya yb yc yd yt cw : Int32) {zc : Int32} {fm : Value} {u8 : Addr} {h0 : Heap} {n0 : Nat} (O0 : Old Z n0 h0) (SU : own_SU Z zc fm u8) (F_b_a : Fld Z h0 a "com/example/gradual_reply/gradualreply/EncodedBody" "bytes" "[B" (.ref rb)) (V_rb : Arv Z h0 rb kb .byte (5 : Int32) [.int ya, .int yb, .int yc, .int yd, .int yt] (.int 0)) (E_rb : Exa Z h0 rb "[B") (E_u8 : Exa Z h0 u8 "sun/nio/cs/UTF_8") (na : ¬ ya < (0 : Int32)) (hp : own_P3 cw yb yc yd) (hs : ¬ cw < (55296 : Int32) → ¬ cw < (57344 : Int32)) : own_M l own_n8 prog_6_method_4_code 1 (some (.object "java/lang/String")) (own_rm 7 4 26 113) Z h0 #[.ref a] (fun v h L => ∃ z : Addr, ∃ t1 : Addr, ∃ kt : ClassId, v = some (.ref z) ∧ Fr n0 L ∧ Keep h0 h [] ∧ Exa Z h z "java/lang/String" ∧ Fld Z h z "java/lang/String" "value" "[B" (.ref t1) ∧ Fld Z h z "java/lang/String" "coder" "B" (.int 1) ∧ Arv Z h t1 kt .byte (6 : Int32) [(.int (own_lo (ya &&& (255 : Int32)))), (.int (own_hi (ya &&& (255 : Int32)))), .int (own_lo cw), .int (own_hi cw), (.int (own_lo (own_tl yt))), (.int (own_hi (own_tl yt)))] (.int 0)) := by
  refine own_body (L0 := #[.val (.ref a)]) (plainFor_of_name pn_com_example_gradual_reply_gradualreply_EncodedBody) rfl rfl ?_
  intro p e s m below meth c s₁ f0 Bd hx Hb hml hZ hown X0 e0 pre0
  have hby := Hb.2
  have W := own_q hw
  have N0 := Fr.nil n0
  have O := O0
  have K := Keep.refl h0 []
  obtain ⟨T1, h1, X1, e1, E1, A1, D1, -, st1⟩ := newO X0 hx hZ hown (W 52 rfl) (W 6 rfl) (W 7 rfl) e0 (g := (mkF m 0 #[.val (.ref a)] [])) rfl (hb hby d8_0) (by decide) (by decide)
  obtain ⟨b1, gq1⟩ : ∃ z, z = Array.size h0 := ⟨_, rfl⟩
  rw [← gq1] at A1 D1 st1
  have ne_a_b1 : a ≠ b1 := Nat.ne_of_lt (Nat.lt_of_lt_of_le F_b_a.lt (Nat.le_of_eq gq1.symm))
  have ne_rb_b1 : rb ≠ b1 := Nat.ne_of_lt (Nat.lt_of_lt_of_le V_rb.lt (Nat.le_of_eq gq1.symm))
  have ne_u8_b1 : u8 ≠ b1 := Nat.ne_of_lt (Nat.lt_of_lt_of_le E_u8.lt (Nat.le_of_eq gq1.symm))
  have g_b1 : n0 ≤ b1 := Nat.le_trans (O.1 ▸ O.2.1) (Nat.le_of_eq gq1.symm)
  have z_b1 : h0.size ≤ b1 := Nat.le_trans K.1 (Nat.le_of_eq gq1.symm)
  have F_b_a := F_b_a.ext E1
  have V_rb := V_rb.ext E1
  have E_rb := E_rb.ext E1
  have E_u8 := E_u8.ext E1
  have O := O.ext E1
  have K := K.ext E1
  have F_coder_b1 : Fld Z h1 b1 "java/lang/String" "coder" "B" (.int 0) := D1 (Or.inr (W 30 rfl)) (ty := .byte) (by decide)
  have F_value_b1 : Fld Z h1 b1 "java/lang/String" "value" "[B" .null := D1 (Or.inr (W 32 rfl)) (ty := (.array .byte)) (by decide)
  obtain ⟨T2, X2, e2, st2⟩ := getF X1 hx hZ hown (host := "") (Or.inl (W 45 rfl)) Via.refl e1 F_b_a (g := (mkF m 5 #[.val (.ref a)] [.ref a, .ref b1, .ref b1])) rfl rfl (hb hby d8_5)
  obtain ⟨T3, X3, e3, st3⟩ := getS2 X2 hx hZ hown (host := "") (Or.inl (W 53 rfl)) Via.refl e2 (SU.2.2.2.2.2.1.ext O.2) (g := (mkF m 8 #[.val (.ref a)] [.ref rb, .ref b1, .ref b1])) rfl (hb hby d8_8)
  obtain ⟨_, T4, Lc4, X4, hQ4, st4⟩ := own_cI X3 Hb hZ hown hml (L := #[.val (.ref a)]) rfl (rm9_E hw b1 rb u8 kb ya yb yc yd yt cw O SU A1 F_value_b1 F_coder_b1 V_rb E_rb E_u8 na hp hs g_b1) (W 55 rfl) (W 56 rfl) (W 7 rfl) (W 57 rfl) pd25 e3 d8_11 b1 [.ref rb, .ref u8] [.ref b1] rfl rfl (by decide) 1 rfl (by decide)
  obtain ⟨t1_4, kt_4, rfl, N4q, K4, F_v_a_c4, F_c_a_c4, V_t_c4⟩ := hQ4
  have N4 := Fr.app N0 N4q
  have F_b_a := F_b_a.keep K4 (ninS ne_a_b1 nin0)
  have V_rb := V_rb.keep K4 (ninS ne_rb_b1 nin0)
  have E_rb := E_rb.keep K4
  have E_u8 := E_u8.keep K4
  have A1 := A1.keep K4
  have O := O.keep K4 (allS g_b1 all0)
  have K := K.trans K4 (allS (Or.inr z_b1) all0)
  have w5 : own_Go p e below f0 T4 m 14 #[.val (.ref a)] [.ref b1] := fun t k => by
    refine pre0 t ?_
    refine st1 _ <| zdu X1 Hb d8_3 rfl <| zal X1 Hb d8_4 rfl rfl <| st2 _ <| st3 _ <| st4 _ ?_
    exact k
  exact own_oR X4 Hb Bd.notSynchronized Bd.returns rfl w5 d8_14 rfl (by decide) (by decide) ⟨b1, t1_4, kt_4, rfl, N4, K, A1, F_v_a_c4, F_c_a_c4, V_t_c4⟩
theorem ef_11_F (m : MethodId) (x0 : Addr) (x1 : Addr) (x2 : Addr) : entryFrame m #[.ref x0, .ref x1, .ref x2, .int 0, .int 6] 11 = mkF m 0 #[.val (.ref x0), .val (.ref x1), .val (.ref x2), .val (.int 0), .val (.int 6), .unset, .unset, .unset, .unset, .unset, .unset] [] := by first | (simp [entryFrame, mkF, argsToLocals, Value.category]; done) | rfl
def Q11_F (Z : State) (a : Addr) (u8 : Addr) (b : Addr) (kb : ClassId) (ya : Int32) (yb : Int32) (yc : Int32) (yd : Int32) (ye : Int32) (yt : Int32) (cw : Int32) (h0 : Heap) (n0 : Nat) (v : Option Value) (h : Heap) (L : List Loc) : Prop := ∃ t1 : Addr, ∃ kt : ClassId, v = none ∧ Fr n0 L ∧ Keep h0 h [a] ∧ Fld Z h a "java/lang/String" "value" "[B" (.ref t1) ∧ Fld Z h a "java/lang/String" "coder" "B" (.int 1) ∧ Arv Z h t1 kt .byte (8 : Int32) [(.int (own_lo (ya &&& (255 : Int32)))), (.int (own_hi (ya &&& (255 : Int32)))), (.int (own_lo (own_hs cw))), (.int (own_hi (own_hs cw))), (.int (own_lo (own_ls cw))), (.int (own_hi (own_ls cw))), (.int (own_lo (own_tl yt))), (.int (own_hi (own_tl yt)))] (.int 0)
set_option maxRecDepth 65536 in
set_option maxHeartbeats 40000000 in
theorem rm11_F (l : Launch) (Z : State) (a0 : Array Value) (hw : ∀ d ∈ tables_1, d.before a0 Z = true) (ws : List Jvm.Cond) (a : Addr) (u8 : Addr) (b : Addr) (kb : ClassId) (ya : Int32) (yb : Int32) (yc : Int32) (yd : Int32) (ye : Int32) (yt : Int32) (cw : Int32) {zc : Int32} {fm : Value} (h0 : Heap) (n0 : Nat) (O0 : Old Z n0 h0) (SU : own_SU Z zc fm u8) (E_a : Exa Z h0 a "java/lang/String") (F_v_a : Fld Z h0 a "java/lang/String" "value" "[B" .null) (F_c_a : Fld Z h0 a "java/lang/String" "coder" "B" (.int 0)) (V_b : Arv Z h0 b kb .byte (6 : Int32) [.int ya, .int yb, .int yc, .int yd, .int ye, .int yt] (.int 0)) (E_b : Exa Z h0 b "[B") (na : ¬ ya < (0 : Int32)) (hp : own_P4 cw yb yc yd ye) (hs : ¬ cw < (65536 : Int32)) (ht : cw < (1114112 : Int32)) (g_a : n0 ≤ a) :
    MetFree l (⟨"java/lang/String", "<init>", "(Ljava/nio/charset/Charset;[BII)V"⟩ : MethodName) (head1 (Jvm.Cond.codeWith (⟨"java/lang/String", "<init>", "(Ljava/nio/charset/Charset;[BII)V"⟩ : MethodName) jdk_42_method_11_code 11 none [((800 : Nat), (813 : Nat), (816 : Nat), (202 : Nat))] :: ws) ({ frames := 5, cells := 3, slots := 26, locals := 76 } : Room)) (fun aA uU => aA = #[.ref a, .ref u8, .ref b, .int 0, .int 6] ∧ Z.Warmed39 uU.vm ∧ uU.heap = h0) (fun _ _ _ _ _ => True) (fun _ uU oO uU' => ∃ vV lL, oO = .returned vV ∧ Q11_F Z a u8 b kb ya yb yc yd ye yt cw  h0 n0 vV uU'.heap lL ∧ FrameEnd uU oO uU' lL ({ frames := 5, cells := 3, slots := 26, locals := 76 } : Room).cells ({ frames := 5, cells := 3, slots := 26, locals := 76 } : Room).slots) := by
  refine MetFree.of_bodySF (plainFor_of_name pn_java_lang_String) hisWith ?_
  intro p e s m args below meth c s₁ Bd hml0 hP hK
  obtain ⟨rfl, hZ, hh⟩ := hP
  have hx := Bd.exec
  have hby := Bd.bytes
  have hml : c.maxLocals = 11 := hml0
  have hown : s.vm.findClass "java/lang/String" = some m.cls := findClass_of_methodNamed Bd.named
  have hnm := (name_of_methodNamed Bd.named Bd.method).1
  have X0 : Stand p l e ({ frames := 5, cells := 3, slots := 26, locals := 76 } : Room) s m #[.ref a, .ref u8, .ref b, .int 0, .int 6] below meth c s₁ [] 0 0 := Stand.of_body Bd
  have e0 : s₁.heap = h0 := by rw [← hh, Bd.state]; rfl
  have N0 := Fr.nil n0
  have O := O0
  have K := Keep.refl h0 [a]
  have Hb : own_H p c jdk_42_method_11_code := ⟨hx, hby⟩
  have W := own_q hw
  have pre0 : ∀ t, Steps p.tables e below (s₁.setTop (mkF m 0 #[.val (.ref a), .val (.ref u8), .val (.ref b), .val (.int 0), .val (.int 6), .unset, .unset, .unset, .unset, .unset, .unset] [])) t → Steps p.tables e below (s₁.setTop (entryFrame m #[.ref a, .ref u8, .ref b, .int 0, .int 6] 11)) t := fun t k => castTop (ef_11_F m a u8 b) k
  obtain ⟨T1, X1, e1, st1⟩ := initO X0 hx hZ hown (W 15 rfl) (W 16 rfl) (W 17 rfl) e0 (g := (mkF m 1 (own_F8 a u8 b (0 : Int32) (6 : Int32)) [.ref a])) rfl (by rw [hml]; rfl) rfl (hb hby d11_1) (by decide) (W := 0) (by show 2 * 0 + _ ≤ _; exact Nat.le_of_eq rfl) (by decide)
  obtain ⟨T2, X2, e2, st2⟩ := getS2 X1 hx hZ hown (host := "") (Or.inl (W 67 rfl)) Via.refl e1 (SU.2.2.2.2.2.2.1.ext O.2) (g := (mkF m 31 (own_F8 a u8 b (0 : Int32) (6 : Int32)) [.ref u8])) rfl (hb hby d11_31)
  obtain ⟨T3, X3, e3, st3⟩ := getS2 X2 hx hZ hown (host := "") (Or.inl (W 18 rfl)) Via.refl e2 (SU.2.2.2.1.ext O.2) (g := (mkF m 37 (own_F8 a u8 b (0 : Int32) (6 : Int32)) [])) rfl (hb hby d11_37)
  obtain ⟨_, T4, Lc4, X4, hQ4, st4⟩ := own_cS X3 Hb hZ hown hml (L := (own_F8 a u8 b (0 : Int32) (6 : Int32))) rfl (rm12_6_1 hw b kb ya yb yc yd ye yt O V_b na hp.1) (W 69 rfl) (W 70 rfl) (W 71 rfl) (W 72 rfl) pd21 e3 d11_47 [.ref b, .int 0, .int 6] [] rfl rfl (by decide) 0 rfl (by decide)
  obtain ⟨rfl, N4q, eh4⟩ := hQ4
  have N4 := Fr.app N0 N4q
  have lt5_a := E_a.lt
  have lt5_b := V_b.lt
  obtain ⟨_, T5, Lc5, X5, hQ5, st5⟩ := own_cS X4 Hb hZ hown hml (L := (own_F9 a u8 b (0 : Int32) (6 : Int32) (1 : Int32))) rfl (rm13 hw b (6 : Int32) kb [.int ya, .int yb, .int yc, .int yd, .int ye, .int yt] O V_b E_b (by decide)) (W 73 rfl) (W 74 rfl) (W 75 rfl) (W 76 rfl) pd22 eh4 d11_84 [.ref b, .int 0, .int 6] [] rfl rfl (by decide) 0 rfl (by decide)
  obtain ⟨z_5, rfl, N5q, K5, V_z_c5, E_z_c5, gz_5, gn_5⟩ := hQ5
  have N5 := Fr.app N4 N5q
  have E_a := E_a.keep K5
  have F_v_a := F_v_a.keep K5 nin0
  have F_c_a := F_c_a.keep K5 nin0
  have V_b := V_b.keep K5 nin0
  have E_b := E_b.keep K5
  have ne_a_z_5 : a ≠ z_5 := Nat.ne_of_lt (Nat.lt_of_lt_of_le lt5_a gz_5)
  have ne_b_z_5 : b ≠ z_5 := Nat.ne_of_lt (Nat.lt_of_lt_of_le lt5_b gz_5)
  have g_z_5 := gn_5
  have z_z_5 : h0.size ≤ z_5 := Nat.le_trans K.1 gz_5
  have O := O.keep K5 all0
  have K := K.trans K5 all0
  have B6 : own_El Z (T5.heap) z_5 .byte (1 : Int32) (.int yb) := own_el V_z_c5 ⟨by decide, by decide⟩ rfl
  have lt7_a := E_a.lt
  have lt7_b := V_b.lt
  have lt7_z_5 := V_z_c5.lt
  obtain ⟨_, T7, Lc7, X7, hQ7, st7⟩ := own_cS X5 Hb hZ hown hml (L := (own_F12 a u8 b (0 : Int32) (6 : Int32) (1 : Int32) z_5 (1 : Int32) yb)) rfl (rm17_6 hw  O ) (W 119 rfl) (W 104 rfl) (W 21 rfl) (W 105 rfl) pd1 rfl d11_228 [.int 6] [] rfl rfl (by decide) 0 rfl (by decide)
  obtain ⟨z_7, kz_7, rfl, N7q, K7, V_z_c7, gz_7, gn_7⟩ := hQ7
  have N7 := Fr.app N5 N7q
  have E_a := E_a.keep K7
  have F_v_a := F_v_a.keep K7 nin0
  have F_c_a := F_c_a.keep K7 nin0
  have V_b := V_b.keep K7 nin0
  have E_b := E_b.keep K7
  have V_z_c5 := V_z_c5.keep K7 nin0
  have E_z_c5 := E_z_c5.keep K7
  have ne_a_z_7 : a ≠ z_7 := Nat.ne_of_lt (Nat.lt_of_lt_of_le lt7_a gz_7)
  have ne_b_z_7 : b ≠ z_7 := Nat.ne_of_lt (Nat.lt_of_lt_of_le lt7_b gz_7)
  have ne_z_5_z_7 : z_5 ≠ z_7 := Nat.ne_of_lt (Nat.lt_of_lt_of_le lt7_z_5 gz_7)
  have g_z_7 := gn_7
  have z_z_7 : h0.size ≤ z_7 := Nat.le_trans K.1 gz_7
  have O := O.keep K7 all0
  have K := K.trans K7 all0
  obtain ⟨_, T8, Lc8, X8, hQ8, st8⟩ := own_cS X7 Hb hZ hown hml (L := (own_F13 a u8 b (0 : Int32) (6 : Int32) (1 : Int32) z_5 (1 : Int32) z_7)) rfl (rm21_6_1 hw z_5 z_7 kb ya yb yc yd ye yt kz_7 O SU V_z_c5 V_z_c7 ne_z_5_z_7 g_z_7) (W 120 rfl) (W 121 rfl) (W 94 rfl) (W 122 rfl) pd13 rfl d11_241 [.ref z_5, .int 0, .ref z_7, .int 0, .int 1] [] rfl rfl (by decide) 0 rfl (by decide)
  obtain ⟨rfl, N8q, K8, V_d_c8⟩ := hQ8
  have N8 := Fr.app N7 N8q
  have E_a := E_a.keep K8
  have F_v_a := F_v_a.keep K8 (ninS ne_a_z_7 nin0)
  have F_c_a := F_c_a.keep K8 (ninS ne_a_z_7 nin0)
  have V_b := V_b.keep K8 (ninS ne_b_z_7 nin0)
  have E_b := E_b.keep K8
  have V_z_c5 := V_z_c5.keep K8 (ninS ne_z_5_z_7 nin0)
  have E_z_c5 := E_z_c5.keep K8
  have O := O.keep K8 (allS g_z_7 all0)
  have K := K.trans K8 (allS (Or.inr z_z_7) all0)
  obtain ⟨_, T9, Lc9, X9, hQ9, st9⟩ := own_cS X8 Hb hZ hown hml (L := (own_F13 a u8 b (0 : Int32) (6 : Int32) (1 : Int32) z_5 (1 : Int32) z_7)) rfl (rm27_F hw z_5 z_7 kb ya yb yc yd ye yt cw kz_7 (own_lo (ya &&& (255 : Int32))) (own_hi (ya &&& (255 : Int32))) O SU V_z_c5 V_d_c8 ne_z_5_z_7 hp hs ht g_z_7) (W 140 rfl) (W 141 rfl) (W 7 rfl) (W 142 rfl) pd26 rfl d11_255 [.ref z_5, .int 1, .int 6, .ref z_7, .int 1, .int 1] [] rfl rfl (by decide) 0 rfl (by decide)
  obtain ⟨rfl, N9q, K9, V_d_c9⟩ := hQ9
  have N9 := Fr.app N8 N9q
  have E_a := E_a.keep K9
  have F_v_a := F_v_a.keep K9 (ninS ne_a_z_7 nin0)
  have F_c_a := F_c_a.keep K9 (ninS ne_a_z_7 nin0)
  have V_b := V_b.keep K9 (ninS ne_b_z_7 nin0)
  have E_b := E_b.keep K9
  have V_z_c5 := V_z_c5.keep K9 (ninS ne_z_5_z_7 nin0)
  have E_z_c5 := E_z_c5.keep K9
  have O := O.keep K9 (allS g_z_7 all0)
  have K := K.trans K9 (allS (Or.inr z_z_7) all0)
  have lt10_a := E_a.lt
  have lt10_b := V_b.lt
  have lt10_z_5 := V_z_c5.lt
  have lt10_z_7 := V_d_c9.lt
  obtain ⟨_, T10, Lc10, X10, hQ10, st10⟩ := own_cS X9 Hb hZ hown hml (L := (own_F13 a u8 b (0 : Int32) (6 : Int32) (4 : Int32) z_5 (1 : Int32) z_7)) rfl (rm33_12_8 hw z_7 kz_7 (own_lo (ya &&& (255 : Int32))) (own_hi (ya &&& (255 : Int32))) (own_lo (own_hs cw)) (own_hi (own_hs cw)) (own_lo (own_ls cw)) (own_hi (own_ls cw)) (own_lo (own_tl yt)) (own_hi (own_tl yt)) (0 : Int32) (0 : Int32) (0 : Int32) (0 : Int32) O V_d_c9) (W 166 rfl) (W 167 rfl) (W 75 rfl) (W 168 rfl) pd27 rfl d11_273 [.ref z_7, .int 8] [] rfl rfl (by decide) 0 rfl (by decide)
  obtain ⟨z_10, kz_10, rfl, N10q, K10, V_z_c10, gz_10, gn_10⟩ := hQ10
  have N10 := Fr.app N9 N10q
  have E_a := E_a.keep K10
  have F_v_a := F_v_a.keep K10 nin0
  have F_c_a := F_c_a.keep K10 nin0
  have V_b := V_b.keep K10 nin0
  have E_b := E_b.keep K10
  have V_z_c5 := V_z_c5.keep K10 nin0
  have E_z_c5 := E_z_c5.keep K10
  have V_d_c9 := V_d_c9.keep K10 nin0
  have ne_a_z_10 : a ≠ z_10 := Nat.ne_of_lt (Nat.lt_of_lt_of_le lt10_a gz_10)
  have ne_b_z_10 : b ≠ z_10 := Nat.ne_of_lt (Nat.lt_of_lt_of_le lt10_b gz_10)
  have ne_z_5_z_10 : z_5 ≠ z_10 := Nat.ne_of_lt (Nat.lt_of_lt_of_le lt10_z_5 gz_10)
  have ne_z_7_z_10 : z_7 ≠ z_10 := Nat.ne_of_lt (Nat.lt_of_lt_of_le lt10_z_7 gz_10)
  have g_z_10 := gn_10
  have z_z_10 : h0.size ≤ z_10 := Nat.le_trans K.1 gz_10
  have O := O.keep K10 all0
  have K := K.trans K10 all0
  have ne_b_a : b ≠ a := (Exa.ne E_b E_a (by decide))
  obtain ⟨T11, h11, X11, e11, W11, st11⟩ := putF X10 hx hZ hown (host := "") (Or.inl (W 31 rfl)) Via.refl rfl F_v_a E_a (Or.inr ⟨(W 32 rfl), rfl, hnm⟩) (W 6 rfl) (ty := (.array .byte)) (by decide) rfl rfl (g := (mkF m 281 (own_F13 a u8 b (0 : Int32) (6 : Int32) (4 : Int32) z_5 (1 : Int32) z_10) [.ref z_10, .ref a])) rfl rfl (hb hby d11_281)
  have F_v_a := F_v_a.same W11
  have E_a := E_a.wr W11
  have F_c_a := F_c_a.other W11 (Or.inr (slot_ne (Or.inr (W 30 rfl)) (Or.inr (W 32 rfl)) (by decide) (t := .byte) (t' := (.array .byte)) (by decide) (by decide)))
  have V_b := V_b.other W11 ne_b_a
  have E_b := E_b.wr W11
  have V_z_c5 := V_z_c5.other W11 (Ne.symm ne_a_z_5)
  have E_z_c5 := E_z_c5.wr W11
  have V_d_c9 := V_d_c9.other W11 (Ne.symm ne_a_z_7)
  have V_z_c10 := V_z_c10.other W11 (Ne.symm ne_a_z_10)
  have O := O.wr W11 g_a
  have K := K.wr W11 (Or.inl (List.mem_of_getElem? (i := 0) rfl))
  have N11 := Fr.snoc X11 N10 g_a
  obtain ⟨T12, h12, X12, e12, W12, st12⟩ := putFN X11 hx hZ hown (W 29 rfl) Via.refl e11 F_c_a E_a (Or.inr ⟨(W 30 rfl), rfl, hnm⟩) (W 6 rfl) (ty := .byte) (v' := (.int 1)) (by decide) rfl rfl (g := (mkF m 286 (own_F13 a u8 b (0 : Int32) (6 : Int32) (4 : Int32) z_5 (1 : Int32) z_10) [.int 1, .ref a])) rfl rfl (hb hby d11_286)
  have F_c_a := F_c_a.same W12
  have E_a := E_a.wr W12
  have F_v_a := F_v_a.other W12 (Or.inr (slot_ne (Or.inr (W 32 rfl)) (Or.inr (W 30 rfl)) (by decide) (t := (.array .byte)) (t' := .byte) (by decide) (by decide)))
  have V_b := V_b.other W12 ne_b_a
  have E_b := E_b.wr W12
  have V_z_c5 := V_z_c5.other W12 (Ne.symm ne_a_z_5)
  have E_z_c5 := E_z_c5.wr W12
  have V_d_c9 := V_d_c9.other W12 (Ne.symm ne_a_z_7)
  have V_z_c10 := V_z_c10.other W12 (Ne.symm ne_a_z_10)
  have O := O.wr W12 g_a
  have K := K.wr W12 (Or.inl (List.mem_of_getElem? (i := 0) rfl))
  have N12 := Fr.snoc X12 N11 g_a
  have w13 : ∀ t, Steps p.tables e below (T12.setTop (mkF m 879 (own_F13 a u8 b (0 : Int32) (6 : Int32) (4 : Int32) z_5 (1 : Int32) z_10) [])) t → Steps p.tables e below (s₁.setTop (entryFrame m #[.ref a, .ref u8, .ref b, .int 0, .int 6] 11)) t := fun t k => by
    refine pre0 t ?_
    refine zal X0 Hb d11_0 rfl rfl <| st1 _ <| ziL X1 Hb d11_4 rfl <| ziy X1 Hb d11_6 ((if0 _ _).trans (feq ((by decide) : ¬ ((6 : Int32) = (0 : Int32)))).2) 30 (by decide) rfl <| zal X1 Hb d11_30 rfl rfl <| st2 _ <| Jvm.RoadKit.acmp (g := (mkF m 34 (own_F8 a u8 b (0 : Int32) (6 : Int32)) [.ref u8, .ref u8])) X2 hx rfl rfl rfl (pc0 := 34) (pc' := 37) (same := true) rfl (hb hby d11_34) rfl (decide_eq_true rfl) (by decide) (by decide) <| st3 _ ?_
    refine zin X3 Hb d11_40 ((if0 _ _).trans (feq (SU.2.2.2.2.2.2.2.1 : ¬ (zc = (0 : Int32)))).1) <| zal X3 Hb d11_43 rfl rfl <| zil X3 Hb d11_44 rfl <| ziL X3 Hb d11_45 rfl <| st4 _ <| ziS X4 Hb (L' := (own_F9 a u8 b (0 : Int32) (6 : Int32) (1 : Int32))) d11_50 rfl <| ziL X4 Hb d11_52 rfl <| ziL X4 Hb d11_54 rfl ?_
    refine zcy X4 Hb d11_56 (feq ((by decide) : ¬ ((1 : Int32) = (6 : Int32)))).2 78 (by decide) rfl <| zal X4 Hb d11_78 rfl rfl <| zil X4 Hb d11_79 rfl <| zil X4 Hb d11_80 rfl <| ziL X4 Hb d11_81 rfl <| zia' X4 Hb d11_83 6 rfl <| st5 _ <| zaS X5 Hb (L' := (own_F10 a u8 b (0 : Int32) (6 : Int32) (1 : Int32) z_5)) d11_87 rfl rfl ?_
    refine ziL X5 Hb d11_89 rfl <| ziS X5 Hb (L' := (own_F11 a u8 b (0 : Int32) (6 : Int32) (1 : Int32) z_5 (1 : Int32))) d11_91 rfl <| ziL X5 Hb d11_93 rfl <| ziL X5 Hb d11_95 rfl <| zcn X5 Hb d11_97 (tlt ((by decide) : (1 : Int32) < (6 : Int32))).2.1 <| zaL X5 Hb d11_100 rfl rfl <| ziL X5 Hb d11_102 rfl <| zii X5 Hb (L' := (own_F11 a u8 b (0 : Int32) (6 : Int32) (1 : Int32) z_5 (2 : Int32))) d11_104 rfl 2 rfl rfl ?_
    refine zba X5 Hb hZ rfl B6 d11_107 <| ziS X5 Hb (L' := (own_F12 a u8 b (0 : Int32) (6 : Int32) (1 : Int32) z_5 (2 : Int32) yb)) d11_108 rfl <| ziL X5 Hb d11_110 rfl <| ziy X5 Hb d11_112 ((if0 _ _).trans (tlt (hp.1 : yb < (0 : Int32))).1) 129 (by decide) rfl <| ziL X5 Hb d11_129 rfl <| zsp X5 Hb d11_131 254 rfl <| zan X5 Hb d11_134 <| zsp X5 Hb d11_135 194 rfl ?_
    refine zcy X5 Hb d11_138 (feq (hp.2.2.2.2.1 : ¬ ((yb &&& (254 : Int32)) = (194 : Int32)))).2 184 (by decide) rfl <| zii X5 Hb (L' := (own_F12 a u8 b (0 : Int32) (6 : Int32) (1 : Int32) z_5 (1 : Int32) yb)) d11_184 rfl 1 rfl rfl <| zgo X5 Hb d11_187 190 (by decide) rfl <| ziL X5 Hb d11_190 rfl <| ziL X5 Hb d11_192 rfl <| zcy X5 Hb d11_194 (feq ((by decide) : ¬ ((1 : Int32) = (6 : Int32)))).2 226 (by decide) rfl <| ziL X5 Hb d11_226 rfl <| st7 _ ?_
    refine zaS X7 Hb (L' := (own_F13 a u8 b (0 : Int32) (6 : Int32) (1 : Int32) z_5 (1 : Int32) z_7)) d11_231 rfl rfl <| zaL X7 Hb d11_233 rfl rfl <| zic X7 Hb d11_235 0 rfl <| zaL X7 Hb d11_236 rfl rfl <| zic X7 Hb d11_238 0 rfl <| ziL X7 Hb d11_239 rfl <| st8 _ <| zaL X8 Hb d11_244 rfl rfl ?_
    refine ziL X8 Hb d11_246 rfl <| ziL X8 Hb d11_248 rfl <| zaL X8 Hb d11_250 rfl rfl <| ziL X8 Hb d11_252 rfl <| zic X8 Hb d11_254 1 rfl <| st9 _ <| ziS X9 Hb (L' := (own_F13 a u8 b (0 : Int32) (6 : Int32) (4 : Int32) z_5 (1 : Int32) z_7)) d11_258 rfl <| ziL X9 Hb d11_260 rfl ?_
    refine ziL X9 Hb d11_262 rfl <| zcn X9 Hb d11_264 (feq ((by decide) : ¬ ((4 : Int32) = (6 : Int32)))).1 <| zaL X9 Hb d11_267 rfl rfl <| ziL X9 Hb d11_269 rfl <| zic X9 Hb d11_271 1 rfl <| zsl' X9 Hb d11_272 8 rfl <| st10 _ <| zaS X10 Hb (L' := (own_F13 a u8 b (0 : Int32) (6 : Int32) (4 : Int32) z_5 (1 : Int32) z_10)) d11_276 rfl rfl ?_
    refine zal X10 Hb d11_278 rfl rfl <| zaL X10 Hb d11_279 rfl rfl <| st11 _ <| zal X11 Hb d11_284 rfl rfl <| zic X11 Hb d11_285 1 rfl <| st12 _ <| zgo X12 Hb d11_289 879 (by decide) rfl ?_
    exact k
  obtain ⟨fs, hr, hrun, hended, hW, hsame⟩ := X12.leave (v := none) (fun _ => rfl)
  refine ⟨_, _, w13 _ ?_, hrun, hended, _, _, rfl, ?_, ⟨_, rfl⟩, hW, hsame.mono (by decide) (by decide)⟩
  · exact X12.returnOut hx Bd.returns (hb hby d11_879) hr
  · show Q11_F Z a u8 b kb ya yb yc yd ye yt cw  h0 n0 _ T12.heap _
    rw [e12]
    exact ⟨z_10, kz_10, rfl, N12, K, F_v_a, F_c_a, V_z_c10⟩
theorem rm9_F {l : Launch} {Z : State} {a0 : Array Value} (hw : own_W a0 Z) (a b u8 : Addr) (kb : ClassId) (ya yb yc yd ye yt cw : Int32) {zc : Int32} {fm : Value} {h0 : Heap} {n0 : Nat} (O0 : Old Z n0 h0) (SU : own_SU Z zc fm u8) (E_a : Exa Z h0 a "java/lang/String") (F_v_a : Fld Z h0 a "java/lang/String" "value" "[B" .null) (F_c_a : Fld Z h0 a "java/lang/String" "coder" "B" (.int 0)) (V_b : Arv Z h0 b kb .byte (6 : Int32) [.int ya, .int yb, .int yc, .int yd, .int ye, .int yt] (.int 0)) (E_b : Exa Z h0 b "[B") (E_u8 : Exa Z h0 u8 "sun/nio/cs/UTF_8") (na : ¬ ya < (0 : Int32)) (hp : own_P4 cw yb yc yd ye) (hs : ¬ cw < (65536 : Int32)) (ht : cw < (1114112 : Int32)) (g_a : n0 ≤ a) : own_M l own_n9 jdk_42_method_49_code 3 none (own_rm 6 3 26 98) Z h0 #[.ref a, .ref b, .ref u8] (fun v h L => ∃ t1 : Addr, ∃ kt : ClassId, v = none ∧ Fr n0 L ∧ Keep h0 h [a] ∧ Fld Z h a "java/lang/String" "value" "[B" (.ref t1) ∧ Fld Z h a "java/lang/String" "coder" "B" (.int 1) ∧ Arv Z h t1 kt .byte (8 : Int32) [(.int (own_lo (ya &&& (255 : Int32)))), (.int (own_hi (ya &&& (255 : Int32)))), (.int (own_lo (own_hs cw))), (.int (own_hi (own_hs cw))), (.int (own_lo (own_ls cw))), (.int (own_hi (own_ls cw))), (.int (own_lo (own_tl yt))), (.int (own_hi (own_tl yt)))] (.int 0)) := by
  refine own_body (L0 := #[.val (.ref a), .val (.ref b), .val (.ref u8)]) (plainFor_of_name pn_java_lang_String) rfl rfl ?_
  intro p e s m below meth c s₁ f0 Bd hx Hb hml hZ hown X0 e0 pre0
  have hby := Hb.2
  have W := own_q hw
  have N0 := Fr.nil n0
  have O := O0
  have K := Keep.refl h0 [a]
  obtain ⟨_, T1, Lc1, X1, hQ1, st1⟩ := own_cS X0 Hb hZ hown hml (L := #[.val (.ref a), .val (.ref b), .val (.ref u8)]) rfl (rm10 hw u8 O ) (W 58 rfl) (W 59 rfl) (W 60 rfl) (W 61 rfl) pd23 e0 d9_2 [.ref u8] [.ref a] rfl rfl (by decide) 1 rfl (by decide)
  obtain ⟨rfl, N1q, eh1⟩ := hQ1
  have N1 := Fr.app N0 N1q
  obtain ⟨T2, X2, e2, st2⟩ := castY X1 hx hZ hown (W 62 rfl) eh1 (Ins.of_exa E_u8 (W 63 rfl)) (g := (mkF m 5 #[.val (.ref a), .val (.ref b), .val (.ref u8)] [.ref u8, .ref a])) rfl rfl (hb hby d9_5)
  have B3 := own_ln V_b
  have ne_b_a : b ≠ a := (Exa.ne E_b E_a (by decide))
  obtain ⟨_, _, ⟨T4, L4, k4, n4⟩, -, X4, ⟨Lc4, hQ4, l4, y4, z4⟩, st4⟩ := X2.specialBackH hx (y := own_n11) rfl hown (mvT hZ (W 64 rfl)) (mvT hZ (W 65 rfl)) (mvT hZ (W 66 rfl)) (by decide) (backOfWith (W := 0) (rm11_F l Z a0 hw [] a u8 b kb ya yb yc yd ye yt cw h0 n0 O SU E_a F_v_a F_c_a V_b E_b na hp hs ht g_a) hZ (W 66 rfl) (W 7 rfl) (by decide) (by decide)) (g := (mkF m 12 #[.val (.ref a), .val (.ref b), .val (.ref u8)] [.int 6, .int 0, .ref b, .ref u8, .ref a])) rfl (by rw [hml]; rfl) (Steps.refl _) (a := a) (argsL := [.ref u8, .ref b, .int 0, .int 6]) (rest := []) (lenOf pd24 rfl) rfl (by show 2 * 0 + _ ≤ _; exact Nat.le_of_eq rfl) (hb hby d9_12) (fun _ _ => ⟨rfl, e2, (by decide : 0 + 3 ≤ _), (by decide : 0 + 26 ≤ _)⟩)
  dsimp only [Pt.U, Pt.locs, Pt.cells, Pt.slots] at X4 l4 y4 z4 st4 hQ4
  have X4 := own_un X4 l4 y4 z4
  obtain ⟨t1_4, kt_4, rfl, N4q, K4, F_v_a_c4, F_c_a_c4, V_t_c4⟩ := hQ4
  have N4 := Fr.app N1 N4q
  have E_a := E_a.keep K4
  have V_b := V_b.keep K4 (ninS ne_b_a nin0)
  have E_b := E_b.keep K4
  have E_u8 := E_u8.keep K4
  have O := O.keep K4 (allS g_a all0)
  have K := K.trans K4 (allS (Or.inl (List.mem_of_getElem? (i := 0) rfl)) all0)
  have w5 : own_Go p e below f0 T4 m 15 #[.val (.ref a), .val (.ref b), .val (.ref u8)] [] := fun t k => by
    refine pre0 t ?_
    refine zal X0 Hb d9_0 rfl rfl <| zal X0 Hb d9_1 rfl rfl <| st1 _ <| st2 _ <| zal X2 Hb d9_8 rfl rfl <| zic X2 Hb d9_9 0 rfl <| zal X2 Hb d9_10 rfl rfl <| zal_ X2 Hb hZ e2 B3 d9_11 ?_
    refine st4.trans ?_
    exact k
  exact own_oV X4 Hb Bd.notSynchronized Bd.returns w5 d9_15 rfl (by decide) (by decide) ⟨t1_4, kt_4, rfl, N4, K, F_v_a_c4, F_c_a_c4, V_t_c4⟩
theorem rm8_F {l : Launch} {Z : State} {a0 : Array Value} (hw : own_W a0 Z) (a rb : Addr) (kb : ClassId) (ya yb yc yd ye yt cw : Int32) {zc : Int32} {fm : Value} {u8 : Addr} {h0 : Heap} {n0 : Nat} (O0 : Old Z n0 h0) (SU : own_SU Z zc fm u8) (F_b_a : Fld Z h0 a "com/example/gradual_reply/gradualreply/EncodedBody" "bytes" "[B" (.ref rb)) (V_rb : Arv Z h0 rb kb .byte (6 : Int32) [.int ya, .int yb, .int yc, .int yd, .int ye, .int yt] (.int 0)) (E_rb : Exa Z h0 rb "[B") (E_u8 : Exa Z h0 u8 "sun/nio/cs/UTF_8") (na : ¬ ya < (0 : Int32)) (hp : own_P4 cw yb yc yd ye) (hs : ¬ cw < (65536 : Int32)) (ht : cw < (1114112 : Int32)) : own_M l own_n8 prog_6_method_4_code 1 (some (.object "java/lang/String")) (own_rm 7 4 30 113) Z h0 #[.ref a] (fun v h L => ∃ z : Addr, ∃ t1 : Addr, ∃ kt : ClassId, v = some (.ref z) ∧ Fr n0 L ∧ Keep h0 h [] ∧ Exa Z h z "java/lang/String" ∧ Fld Z h z "java/lang/String" "value" "[B" (.ref t1) ∧ Fld Z h z "java/lang/String" "coder" "B" (.int 1) ∧ Arv Z h t1 kt .byte (8 : Int32) [(.int (own_lo (ya &&& (255 : Int32)))), (.int (own_hi (ya &&& (255 : Int32)))), (.int (own_lo (own_hs cw))), (.int (own_hi (own_hs cw))), (.int (own_lo (own_ls cw))), (.int (own_hi (own_ls cw))), (.int (own_lo (own_tl yt))), (.int (own_hi (own_tl yt)))] (.int 0)) := by
  refine own_body (L0 := #[.val (.ref a)]) (plainFor_of_name pn_com_example_gradual_reply_gradualreply_EncodedBody) rfl rfl ?_
  intro p e s m below meth c s₁ f0 Bd hx Hb hml hZ hown X0 e0 pre0
  have hby := Hb.2
  have W := own_q hw
  have N0 := Fr.nil n0
  have O := O0
  have K := Keep.refl h0 []
  obtain ⟨T1, h1, X1, e1, E1, A1, D1, -, st1⟩ := newO X0 hx hZ hown (W 52 rfl) (W 6 rfl) (W 7 rfl) e0 (g := (mkF m 0 #[.val (.ref a)] [])) rfl (hb hby d8_0) (by decide) (by decide)
  obtain ⟨b1, gq1⟩ : ∃ z, z = Array.size h0 := ⟨_, rfl⟩
  rw [← gq1] at A1 D1 st1
  have ne_a_b1 : a ≠ b1 := Nat.ne_of_lt (Nat.lt_of_lt_of_le F_b_a.lt (Nat.le_of_eq gq1.symm))
  have ne_rb_b1 : rb ≠ b1 := Nat.ne_of_lt (Nat.lt_of_lt_of_le V_rb.lt (Nat.le_of_eq gq1.symm))
  have ne_u8_b1 : u8 ≠ b1 := Nat.ne_of_lt (Nat.lt_of_lt_of_le E_u8.lt (Nat.le_of_eq gq1.symm))
  have g_b1 : n0 ≤ b1 := Nat.le_trans (O.1 ▸ O.2.1) (Nat.le_of_eq gq1.symm)
  have z_b1 : h0.size ≤ b1 := Nat.le_trans K.1 (Nat.le_of_eq gq1.symm)
  have F_b_a := F_b_a.ext E1
  have V_rb := V_rb.ext E1
  have E_rb := E_rb.ext E1
  have E_u8 := E_u8.ext E1
  have O := O.ext E1
  have K := K.ext E1
  have F_coder_b1 : Fld Z h1 b1 "java/lang/String" "coder" "B" (.int 0) := D1 (Or.inr (W 30 rfl)) (ty := .byte) (by decide)
  have F_value_b1 : Fld Z h1 b1 "java/lang/String" "value" "[B" .null := D1 (Or.inr (W 32 rfl)) (ty := (.array .byte)) (by decide)
  obtain ⟨T2, X2, e2, st2⟩ := getF X1 hx hZ hown (host := "") (Or.inl (W 45 rfl)) Via.refl e1 F_b_a (g := (mkF m 5 #[.val (.ref a)] [.ref a, .ref b1, .ref b1])) rfl rfl (hb hby d8_5)
  obtain ⟨T3, X3, e3, st3⟩ := getS2 X2 hx hZ hown (host := "") (Or.inl (W 53 rfl)) Via.refl e2 (SU.2.2.2.2.2.1.ext O.2) (g := (mkF m 8 #[.val (.ref a)] [.ref rb, .ref b1, .ref b1])) rfl (hb hby d8_8)
  obtain ⟨_, T4, Lc4, X4, hQ4, st4⟩ := own_cI X3 Hb hZ hown hml (L := #[.val (.ref a)]) rfl (rm9_F hw b1 rb u8 kb ya yb yc yd ye yt cw O SU A1 F_value_b1 F_coder_b1 V_rb E_rb E_u8 na hp hs ht g_b1) (W 55 rfl) (W 56 rfl) (W 7 rfl) (W 57 rfl) pd25 e3 d8_11 b1 [.ref rb, .ref u8] [.ref b1] rfl rfl (by decide) 1 rfl (by decide)
  obtain ⟨t1_4, kt_4, rfl, N4q, K4, F_v_a_c4, F_c_a_c4, V_t_c4⟩ := hQ4
  have N4 := Fr.app N0 N4q
  have F_b_a := F_b_a.keep K4 (ninS ne_a_b1 nin0)
  have V_rb := V_rb.keep K4 (ninS ne_rb_b1 nin0)
  have E_rb := E_rb.keep K4
  have E_u8 := E_u8.keep K4
  have A1 := A1.keep K4
  have O := O.keep K4 (allS g_b1 all0)
  have K := K.trans K4 (allS (Or.inr z_b1) all0)
  have w5 : own_Go p e below f0 T4 m 14 #[.val (.ref a)] [.ref b1] := fun t k => by
    refine pre0 t ?_
    refine st1 _ <| zdu X1 Hb d8_3 rfl <| zal X1 Hb d8_4 rfl rfl <| st2 _ <| st3 _ <| st4 _ ?_
    exact k
  exact own_oR X4 Hb Bd.notSynchronized Bd.returns rfl w5 d8_14 rfl (by decide) (by decide) ⟨b1, t1_4, kt_4, rfl, N4, K, A1, F_v_a_c4, F_c_a_c4, V_t_c4⟩
abbrev B7 := prog_6_method_1_code
theorem d7_0 : decode B7 0 = .ok (.aload_n 0, 1) := by decide +kernel
theorem d7_1 : decode B7 1 = .ok (.invokespecial 1, 3) := by decide +kernel
theorem d7_4 : decode B7 4 = .ok (.aload_n 0, 1) := by decide +kernel
theorem d7_5 : decode B7 5 = .ok (.aload_n 1, 1) := by decide +kernel
theorem d7_6 : decode B7 6 = .ok (.putfield 7, 3) := by decide +kernel
theorem d7_9 : decode B7 9 = .ok (.aload_n 0, 1) := by decide +kernel
theorem d7_10 : decode B7 10 = .ok (.aload_n 2, 1) := by decide +kernel
theorem d7_11 : decode B7 11 = .ok (.putfield 13, 3) := by decide +kernel
theorem d7_14 : decode B7 14 = .ok (.return_, 1) := by decide +kernel
theorem rm7 {l : Launch} {Z : State} {a0 : Array Value} (hw : own_W a0 Z) (a b ar : Addr) {h0 : Heap} {n0 : Nat} (O0 : Old Z n0 h0) (E_a : Exa Z h0 a "com/example/gradual_reply/gradualreply/EncodedBody") (F_t_a : Fld Z h0 a "com/example/gradual_reply/gradualreply/EncodedBody" "contentType" "Ljava/lang/String;" .null) (F_b_a : Fld Z h0 a "com/example/gradual_reply/gradualreply/EncodedBody" "bytes" "[B" .null) (g_a : n0 ≤ a) : own_M l own_n7 prog_6_method_1_code 3 none (own_rm 1 0 0 12) Z h0 #[.ref a, .ref b, .ref ar] (fun v h L => v = none ∧ Fr n0 L ∧ Keep h0 h [a] ∧ Fld Z h a "com/example/gradual_reply/gradualreply/EncodedBody" "contentType" "Ljava/lang/String;" (.ref b) ∧ Fld Z h a "com/example/gradual_reply/gradualreply/EncodedBody" "bytes" "[B" (.ref ar)) := by
  refine own_body (L0 := #[.val (.ref a), .val (.ref b), .val (.ref ar)]) (plainFor_of_name pn_com_example_gradual_reply_gradualreply_EncodedBody) rfl rfl ?_
  intro p e s m below meth c s₁ f0 Bd hx Hb hml hZ hown X0 e0 pre0
  have hby := Hb.2
  have hnm := (name_of_methodNamed Bd.named Bd.method).1
  have W := own_q hw
  have N0 := Fr.nil n0
  have O := O0
  have K := Keep.refl h0 [a]
  obtain ⟨T1, X1, e1, st1⟩ := initO X0 hx hZ hown (W 42 rfl) (W 16 rfl) (W 17 rfl) e0 (g := (mkF m 1 #[.val (.ref a), .val (.ref b), .val (.ref ar)] [.ref a])) rfl (by rw [hml]; rfl) rfl (hb hby d7_1) (by decide) (W := 0) (by show 2 * 0 + _ ≤ _; exact Nat.le_of_eq rfl) (by decide)
  obtain ⟨T2, h2, X2, e2, W2, st2⟩ := putF X1 hx hZ hown (host := "") (Or.inl (W 43 rfl)) Via.refl e1 F_t_a E_a (Or.inr ⟨(W 44 rfl), rfl, hnm⟩) (W 34 rfl) (ty := (.object "java/lang/String")) (by decide) rfl rfl (g := (mkF m 6 #[.val (.ref a), .val (.ref b), .val (.ref ar)] [.ref b, .ref a])) rfl rfl (hb hby d7_6)
  have F_t_a := F_t_a.same W2
  have E_a := E_a.wr W2
  have F_b_a := F_b_a.other W2 (Or.inr (slot_ne (Or.inr (W 46 rfl)) (Or.inr (W 44 rfl)) (by decide) (t := (.array .byte)) (t' := (.object "java/lang/String")) (by decide) (by decide)))
  have O := O.wr W2 g_a
  have K := K.wr W2 (Or.inl (List.mem_of_getElem? (i := 0) rfl))
  have N2 := Fr.snoc X2 N0 g_a
  obtain ⟨T3, h3, X3, e3, W3, st3⟩ := putF X2 hx hZ hown (host := "") (Or.inl (W 45 rfl)) Via.refl e2 F_b_a E_a (Or.inr ⟨(W 46 rfl), rfl, hnm⟩) (W 34 rfl) (ty := (.array .byte)) (by decide) rfl rfl (g := (mkF m 11 #[.val (.ref a), .val (.ref b), .val (.ref ar)] [.ref ar, .ref a])) rfl rfl (hb hby d7_11)
  have F_b_a := F_b_a.same W3
  have E_a := E_a.wr W3
  have F_t_a := F_t_a.other W3 (Or.inr (slot_ne (Or.inr (W 44 rfl)) (Or.inr (W 46 rfl)) (by decide) (t := (.object "java/lang/String")) (t' := (.array .byte)) (by decide) (by decide)))
  have O := O.wr W3 g_a
  have K := K.wr W3 (Or.inl (List.mem_of_getElem? (i := 0) rfl))
  have N3 := Fr.snoc X3 N2 g_a
  have w4 : own_Go p e below f0 T3 m 14 #[.val (.ref a), .val (.ref b), .val (.ref ar)] [] := fun t k => by
    refine pre0 t ?_
    refine zal X0 Hb d7_0 rfl rfl <| st1 _ <| zal X1 Hb d7_4 rfl rfl <| zal X1 Hb d7_5 rfl rfl <| st2 _ <| zal X2 Hb d7_9 rfl rfl <| zal X2 Hb d7_10 rfl rfl <| st3 _ ?_
    exact k
  exact own_oV X3 Hb Bd.notSynchronized Bd.returns w4 d7_14 e3 (by decide) (by decide) ⟨rfl, N3, K, F_t_a, F_b_a⟩
theorem own_tail {x bt tb tc : Int32} (htb : tb = (if bt = (0 : Int32) then (x &&& (127 : Int32)) else ((128 : Int32) ||| (x &&& (127 : Int32))))) (htc : tc = (if bt = (0 : Int32) then ((x &&& (127 : Int32)).toUInt32.toUInt16.toUInt32.toInt32) else (65533 : Int32))) : own_k tc = own_tl (own_b tb) := by
  have hs := own_s7 x
  by_cases h : bt = 0
  · rw [if_pos h] at htb htc
    rw [htb, hs.2.1, own_tlN hs.2.2.1, htc]
    show own_k (own_k _) = own_k _
    rw [hs.1, hs.1]
  · rw [if_neg h] at htb htc
    rw [htb, own_tlP (own_tb x), htc]
    decide
theorem own_kk (x : Int32) : own_k (own_k x) = own_k x := by
  have h := c_i2c x
  exact own_k1 (by unfold own_k; omega) (by unfold own_k; omega)
theorem own_tlr (y : Int32) : ¬ own_tl y < 0 ∧ ¬ (65535 : Int32) < own_tl y := by
  unfold own_tl
  split
  · decide
  · exact own_kr y
theorem own_gck (x : Int32) : own_gc (own_lo (own_k x)) (own_hi (own_k x)) = own_k x := by
  have h := c_i2c x
  exact own_gce (by unfold own_k; omega) (by unfold own_k; omega)
def own_F16 (x0 : Int32) (x1 : Int32) (x2 : Int32) (x3 : Int32) : Array Slot := #[.val (.int x0), .val (.int x1), .val (.int x2), .val (.int x3), .unset, .unset, .unset, .unset, .unset, .unset, .unset, .unset, .unset, .unset]
def own_F17 (x0 : Int32) (x1 : Int32) (x2 : Int32) (x3 : Int32) (x4 : Int32) : Array Slot := #[.val (.int x0), .val (.int x1), .val (.int x2), .val (.int x3), .val (.int x4), .unset, .unset, .unset, .unset, .unset, .unset, .unset, .unset, .unset]
def own_F18 (x0 : Int32) (x1 : Int32) (x2 : Int32) (x3 : Int32) (x4 : Int32) (x5 : Int32) : Array Slot := #[.val (.int x0), .val (.int x1), .val (.int x2), .val (.int x3), .val (.int x4), .val (.int x5), .unset, .unset, .unset, .unset, .unset, .unset, .unset, .unset]
def own_F19 (x0 : Int32) (x1 : Int32) (x2 : Int32) (x3 : Int32) (x4 : Int32) (x5 : Int32) (x6 : Int32) : Array Slot := #[.val (.int x0), .val (.int x1), .val (.int x2), .val (.int x3), .val (.int x4), .val (.int x5), .val (.int x6), .unset, .unset, .unset, .unset, .unset, .unset, .unset]
def own_F20 (x0 : Int32) (x1 : Int32) (x2 : Int32) (x3 : Int32) (x4 : Int32) (x5 : Int32) (x6 : Int32) (x7 : Int32) : Array Slot := #[.val (.int x0), .val (.int x1), .val (.int x2), .val (.int x3), .val (.int x4), .val (.int x5), .val (.int x6), .val (.int x7), .unset, .unset, .unset, .unset, .unset, .unset]
def own_F21 (x0 : Int32) (x1 : Int32) (x2 : Int32) (x3 : Int32) (x4 : Int32) (x5 : Int32) (x6 : Int32) (x7 : Int32) (x8 : Int32) : Array Slot := #[.val (.int x0), .val (.int x1), .val (.int x2), .val (.int x3), .val (.int x4), .val (.int x5), .val (.int x6), .val (.int x7), .val (.int x8), .unset, .unset, .unset, .unset, .unset]
def own_F22 (x0 : Int32) (x1 : Int32) (x2 : Int32) (x3 : Int32) (x4 : Int32) (x5 : Int32) (x6 : Int32) (x7 : Int32) (x8 : Int32) (x9 : Addr) : Array Slot := #[.val (.int x0), .val (.int x1), .val (.int x2), .val (.int x3), .val (.int x4), .val (.int x5), .val (.int x6), .val (.int x7), .val (.int x8), .val (.ref x9), .unset, .unset, .unset, .unset]
def own_F23 (x0 : Int32) (x1 : Int32) (x2 : Int32) (x3 : Int32) (x4 : Int32) (x5 : Int32) (x6 : Int32) (x7 : Int32) (x8 : Int32) (x9 : Addr) (x10 : Addr) : Array Slot := #[.val (.int x0), .val (.int x1), .val (.int x2), .val (.int x3), .val (.int x4), .val (.int x5), .val (.int x6), .val (.int x7), .val (.int x8), .val (.ref x9), .val (.ref x10), .unset, .unset, .unset]
theorem pd28 : parseMethodDescriptor "([C)V" = some ⟨[(.array .char)], none⟩ := by decide +kernel
def own_F24 (x0 : Int32) (x1 : Int32) (x2 : Int32) (x3 : Int32) (x4 : Int32) (x5 : Int32) (x6 : Int32) (x7 : Int32) (x8 : Int32) (x9 : Addr) (x10 : Addr) (x11 : Addr) : Array Slot := #[.val (.int x0), .val (.int x1), .val (.int x2), .val (.int x3), .val (.int x4), .val (.int x5), .val (.int x6), .val (.int x7), .val (.int x8), .val (.ref x9), .val (.ref x10), .val (.ref x11), .unset, .unset]
theorem pd29 : parseMethodDescriptor "(Ljava/lang/String;[B)V" = some ⟨[(.object "java/lang/String"), (.array .byte)], none⟩ := by decide +kernel
def own_F25 (x0 : Int32) (x1 : Int32) (x2 : Int32) (x3 : Int32) (x4 : Int32) (x5 : Int32) (x6 : Int32) (x7 : Int32) (x8 : Int32) (x9 : Addr) (x10 : Addr) (x11 : Addr) (x12 : Addr) : Array Slot := #[.val (.int x0), .val (.int x1), .val (.int x2), .val (.int x3), .val (.int x4), .val (.int x5), .val (.int x6), .val (.int x7), .val (.int x8), .val (.ref x9), .val (.ref x10), .val (.ref x11), .val (.ref x12), .unset]
theorem pd30 : parseMethodDescriptor "()Ljava/lang/String;" = some ⟨[], some (.object "java/lang/String")⟩ := by decide +kernel
def own_F26 (x0 : Int32) (x1 : Int32) (x2 : Int32) (x3 : Int32) (x4 : Int32) (x5 : Int32) (x6 : Int32) (x7 : Int32) (x8 : Int32) (x9 : Addr) (x10 : Addr) (x11 : Addr) (x12 : Addr) (x13 : Addr) : Array Slot := #[.val (.int x0), .val (.int x1), .val (.int x2), .val (.int x3), .val (.int x4), .val (.int x5), .val (.int x6), .val (.int x7), .val (.int x8), .val (.ref x9), .val (.ref x10), .val (.ref x11), .val (.ref x12), .val (.ref x13)]
theorem pd31 : parseMethodDescriptor "(Ljava/lang/Object;)Z" = some ⟨[(.object "java/lang/Object")], some .boolean⟩ := by decide +kernel
def own_F27 (x0 : Int32) (x1 : Int32) (x2 : Int32) (x3 : Int32) (x4 : Int32) (x5 : Int32) (x6 : Int32) (x7 : Int32) (x8 : Int32) (x9 : Addr) (x11 : Int32) : Array Slot := #[.val (.int x0), .val (.int x1), .val (.int x2), .val (.int x3), .val (.int x4), .val (.int x5), .val (.int x6), .val (.int x7), .val (.int x8), .val (.ref x9), .unset, .val (.int x11), .unset, .unset]
def own_F28 (x0 : Int32) (x1 : Int32) (x2 : Int32) (x3 : Int32) (x4 : Int32) (x5 : Int32) (x6 : Int32) (x7 : Int32) (x8 : Int32) (x9 : Addr) (x11 : Int32) (x12 : Int32) : Array Slot := #[.val (.int x0), .val (.int x1), .val (.int x2), .val (.int x3), .val (.int x4), .val (.int x5), .val (.int x6), .val (.int x7), .val (.int x8), .val (.ref x9), .unset, .val (.int x11), .val (.int x12), .unset]
def own_F29 (x0 : Int32) (x1 : Int32) (x2 : Int32) (x3 : Int32) (x4 : Int32) (x5 : Int32) (x6 : Int32) (x7 : Int32) (x8 : Int32) (x9 : Addr) (x11 : Int32) (x12 : Int32) (x13 : Int32) : Array Slot := #[.val (.int x0), .val (.int x1), .val (.int x2), .val (.int x3), .val (.int x4), .val (.int x5), .val (.int x6), .val (.int x7), .val (.int x8), .val (.ref x9), .unset, .val (.int x11), .val (.int x12), .val (.int x13)]
def own_F30 (x0 : Int32) (x1 : Int32) (x2 : Int32) (x3 : Int32) (x4 : Int32) (x5 : Int32) (x6 : Int32) (x7 : Int32) (x8 : Int32) (x9 : Addr) (x10 : Addr) (x11 : Int32) (x12 : Int32) (x13 : Int32) : Array Slot := #[.val (.int x0), .val (.int x1), .val (.int x2), .val (.int x3), .val (.int x4), .val (.int x5), .val (.int x6), .val (.int x7), .val (.int x8), .val (.ref x9), .val (.ref x10), .val (.int x11), .val (.int x12), .val (.int x13)]
def own_F31 (x0 : Int32) (x1 : Int32) (x2 : Int32) (x3 : Int32) (x4 : Int32) (x5 : Int32) (x6 : Int32) (x7 : Int32) (x8 : Int32) (x9 : Addr) (x10 : Addr) (x11 : Addr) (x12 : Int32) (x13 : Int32) : Array Slot := #[.val (.int x0), .val (.int x1), .val (.int x2), .val (.int x3), .val (.int x4), .val (.int x5), .val (.int x6), .val (.int x7), .val (.int x8), .val (.ref x9), .val (.ref x10), .val (.ref x11), .val (.int x12), .val (.int x13)]
def own_F32 (x0 : Int32) (x1 : Int32) (x2 : Int32) (x3 : Int32) (x4 : Int32) (x5 : Int32) (x6 : Int32) (x7 : Int32) (x8 : Int32) (x9 : Addr) (x10 : Addr) (x11 : Addr) (x12 : Addr) (x13 : Int32) : Array Slot := #[.val (.int x0), .val (.int x1), .val (.int x2), .val (.int x3), .val (.int x4), .val (.int x5), .val (.int x6), .val (.int x7), .val (.int x8), .val (.ref x9), .val (.ref x10), .val (.ref x11), .val (.ref x12), .val (.int x13)]
theorem pn_com_example_gradual_reply_gradualreply_EncodedBodyTextPinLaw : plainName "com/example/gradual_reply/gradualreply/EncodedBodyTextPinLaw" = true := by first | (simp [plainName, overriddenIn]; done) | decide +kernel
theorem ef_0 (m : MethodId) (x0 : Int32) (x1 : Int32) (x2 : Int32) : entryFrame m #[.int x0, .int x1, .int x2] maxLocals = mkF m 0 #[.val (.int x0), .val (.int x1), .val (.int x2), .unset, .unset, .unset, .unset, .unset, .unset, .unset, .unset, .unset, .unset, .unset] [] := by first | (simp [entryFrame, mkF, argsToLocals, Value.category, maxLocals]; done) | rfl
def Q0 (Z : State) (i1 : Int32) (i2 : Int32) (i3 : Int32) (zc : Int32) (fm : Value) (u8 : Addr) (h0 : Heap) (n0 : Nat) (v : Option Value) (h : Heap) (L : List Loc) : Prop := v = some (.int 1) ∧ Fr n0 L
set_option maxRecDepth 65536 in
set_option maxHeartbeats 40000000 in
theorem rm0 (l : Launch) (Z : State) (a0 : Array Value) (hw : ∀ d ∈ tables_1, d.before a0 Z = true) (ws : List Jvm.Cond) (i1 : Int32) (i2 : Int32) (i3 : Int32) (zc : Int32) (fm : Value) (u8 : Addr) (h0 : Heap) (n0 : Nat) (O0 : Old Z n0 h0) (SU : own_SU Z zc fm u8) (o_E_u8 : Exa Z Z.heap u8 "sun/nio/cs/UTF_8") :
    MetFree l x (head1 (Jvm.Cond.code x code maxLocals ret :: ws) room_1) (fun aA uU => aA = #[.int i1, .int i2, .int i3] ∧ Z.Warmed39 uU.vm ∧ uU.heap = h0 ∧ CHv Z consts_1 uU.vm h0) (fun _ _ _ _ _ => True) (fun _ uU oO uU' => ∃ vV lL, oO = .returned vV ∧ Q0 Z i1 i2 i3 zc fm u8  h0 n0 vV uU'.heap lL ∧ CHr Z consts_1 uU.vm uU.heap uU'.vm uU'.heap ∧ ReturnedEndW uU oO uU' lL room_1.cells room_1.slots) := by
  refine MetFree.of_bodySF (plainFor_of_name pn_com_example_gradual_reply_gradualreply_EncodedBodyTextPinLaw) hisR ?_
  intro p e s m args below meth c s₁ Bd hml0 hP hK
  obtain ⟨rfl, hZ, hh, H0⟩ := hP
  have hx := Bd.exec
  have hby := Bd.bytes
  have hml : c.maxLocals = 14 := hml0
  have hown : s.vm.findClass "com/example/gradual_reply/gradualreply/EncodedBodyTextPinLaw" = some m.cls := findClass_of_methodNamed Bd.named
  have hnm := (name_of_methodNamed Bd.named Bd.method).1
  have X0 : Stand p l e room_1 (s.setVm s.vm) m #[.int i1, .int i2, .int i3] below meth c s₁ [] 0 0 := Stand.of_body Bd
  have e0 : s₁.heap = h0 := by rw [← hh, Bd.state]; rfl
  have N0 := Fr.nil n0
  have O := O0
  have Hb : own_H p c code := ⟨hx, hby⟩
  have W := own_q hw
  have hS : s.Since s.vm h0.size := own_since s _
  have hk : h0.size ≤ h0.size := Nat.le_refl _
  have C : CHr Z consts_1 s.vm h0 s.vm h0 := CHr.refl H0
  have hEL := own_EW hw
  have hSA := own_wS hw
  have pre0 : ∀ t, Steps p.tables e below (s₁.setTop (mkF m 0 #[.val (.int i1), .val (.int i2), .val (.int i3), .unset, .unset, .unset, .unset, .unset, .unset, .unset, .unset, .unset, .unset, .unset] [])) t → Steps p.tables e below (s₁.setTop (entryFrame m #[.int i1, .int i2, .int i3] maxLocals)) t := fun t k => castTop (ef_0 m i1 i2 i3) k
  have SC := SU.2.2.2.1
  have hzc := SU.2.2.2.2.2.2.2.1
  have w1 : ∀ t, Steps p.tables e below (s₁.setTop (mkF m 9 (own_F16 i1 i2 i3 (i1 &&& (127 : Int32))) [(.int (i2 &&& (2147483647 : Int32)))])) t → Steps p.tables e below (s₁.setTop (entryFrame m #[.int i1, .int i2, .int i3] maxLocals)) t := fun t k => by
    refine pre0 t ?_
    refine zil X0 Hb at_0 rfl <| zbp X0 Hb at_1 127 rfl <| zan X0 Hb at_3 <| zis X0 Hb (L' := (own_F16 i1 i2 i3 (i1 &&& (127 : Int32)))) at_4 rfl <| zil X0 Hb at_5 rfl <| X0.ldcInt hx hown (mvT hZ (W 0 rfl)) (g := (mkF m 6 (own_F16 i1 i2 i3 (i1 &&& (127 : Int32))) [.int i2])) rfl (hb hby at_6) _ <| zan X0 Hb at_8 ?_
    exact k
  have w2 : ∀ t, Steps p.tables e below (s₁.setTop (mkF m 16 (own_F17 i1 i2 i3 (i1 &&& (127 : Int32)) ((i2 &&& (2147483647 : Int32)) - (i2 &&& (2147483647 : Int32)) / (1114112 : Int32) * (1114112 : Int32))) [(.int ((i2 &&& (2147483647 : Int32)) - (i2 &&& (2147483647 : Int32)) / (1114112 : Int32) * (1114112 : Int32)))])) t → Steps p.tables e below (s₁.setTop (entryFrame m #[.int i1, .int i2, .int i3] maxLocals)) t := fun t k => by
    refine w1 t ?_
    refine X0.ldcInt hx hown (mvT hZ (W 1 rfl)) (g := (mkF m 9 (own_F16 i1 i2 i3 (i1 &&& (127 : Int32))) [(.int (i2 &&& (2147483647 : Int32)))])) rfl (hb hby at_9) _ <| XS.irem X0.here hx rfl (hb hby at_11) rfl (by decide) <| ziS X0 Hb at_12 rfl <| ziL X0 Hb at_14 rfl ?_
    exact k
  have w3 : ∀ t, Steps p.tables e below (s₁.setTop (mkF m 18 (own_F17 i1 i2 i3 (i1 &&& (127 : Int32)) ((i2 &&& (2147483647 : Int32)) - (i2 &&& (2147483647 : Int32)) / (1114112 : Int32) * (1114112 : Int32))) [.int 55296, (.int ((i2 &&& (2147483647 : Int32)) - (i2 &&& (2147483647 : Int32)) / (1114112 : Int32) * (1114112 : Int32)))])) t → Steps p.tables e below (s₁.setTop (entryFrame m #[.int i1, .int i2, .int i3] maxLocals)) t := fun t k => by
    refine w2 t ?_
    refine X0.ldcInt hx hown (mvT hZ (W 2 rfl)) (g := (mkF m 16 (own_F17 i1 i2 i3 (i1 &&& (127 : Int32)) ((i2 &&& (2147483647 : Int32)) - (i2 &&& (2147483647 : Int32)) / (1114112 : Int32) * (1114112 : Int32))) [(.int ((i2 &&& (2147483647 : Int32)) - (i2 &&& (2147483647 : Int32)) / (1114112 : Int32) * (1114112 : Int32)))])) rfl (hb hby at_16) _ ?_
    exact k
  obtain ⟨cp, hcp⟩ : ∃ v : Int32, v = (if ((i2 &&& (2147483647 : Int32)) - (i2 &&& (2147483647 : Int32)) / (1114112 : Int32) * (1114112 : Int32)) < (55296 : Int32) then ((i2 &&& (2147483647 : Int32)) - (i2 &&& (2147483647 : Int32)) / (1114112 : Int32) * (1114112 : Int32)) else (if (57343 : Int32) < ((i2 &&& (2147483647 : Int32)) - (i2 &&& (2147483647 : Int32)) / (1114112 : Int32) * (1114112 : Int32)) then ((i2 &&& (2147483647 : Int32)) - (i2 &&& (2147483647 : Int32)) / (1114112 : Int32) * (1114112 : Int32)) else (((i2 &&& (2147483647 : Int32)) - (i2 &&& (2147483647 : Int32)) / (1114112 : Int32) * (1114112 : Int32)) + (8192 : Int32)))) := ⟨_, rfl⟩
  have w6 : ∀ t, Steps p.tables e below (s₁.setTop (mkF m 36 (own_F17 i1 i2 i3 (i1 &&& (127 : Int32)) cp) [])) t → Steps p.tables e below (s₁.setTop (entryFrame m #[.int i1, .int i2, .int i3] maxLocals)) t := fun t k => by
    refine w3 t ?_
    by_cases hm4 : ((i2 &&& (2147483647 : Int32)) - (i2 &&& (2147483647 : Int32)) / (1114112 : Int32) * (1114112 : Int32)) < (55296 : Int32)
    · refine zcy X0 Hb at_18 (tlt hm4).1 36 (by decide) rfl ?_
      rw [show cp = ((i2 &&& (2147483647 : Int32)) - (i2 &&& (2147483647 : Int32)) / (1114112 : Int32) * (1114112 : Int32)) from by rw [hcp]; simp only [if_pos hm4]] at k
      exact k
    · refine zcn X0 Hb at_18 (flt hm4).1 <| ziL X0 Hb at_21 rfl <| X0.ldcInt hx hown (mvT hZ (W 96 rfl)) (g := (mkF m 23 (own_F17 i1 i2 i3 (i1 &&& (127 : Int32)) ((i2 &&& (2147483647 : Int32)) - (i2 &&& (2147483647 : Int32)) / (1114112 : Int32) * (1114112 : Int32))) [(.int ((i2 &&& (2147483647 : Int32)) - (i2 &&& (2147483647 : Int32)) / (1114112 : Int32) * (1114112 : Int32)))])) rfl (hb hby at_23) _ ?_
      by_cases hm5 : (57343 : Int32) < ((i2 &&& (2147483647 : Int32)) - (i2 &&& (2147483647 : Int32)) / (1114112 : Int32) * (1114112 : Int32))
      · refine zcy X0 Hb at_25 (tlt hm5).2.2.1 36 (by decide) rfl ?_
        rw [show cp = ((i2 &&& (2147483647 : Int32)) - (i2 &&& (2147483647 : Int32)) / (1114112 : Int32) * (1114112 : Int32)) from by rw [hcp]; simp only [if_neg hm4, if_pos hm5]] at k
        exact k
      · refine zcn X0 Hb at_25 (flt hm5).2.2.1 <| ziL X0 Hb at_28 rfl <| zsp X0 Hb at_30 8192 rfl <| zia X0 Hb at_33 <| ziS X0 Hb at_34 rfl ?_
        rw [show cp = (((i2 &&& (2147483647 : Int32)) - (i2 &&& (2147483647 : Int32)) / (1114112 : Int32) * (1114112 : Int32)) + (8192 : Int32)) from by rw [hcp]; simp only [if_neg hm4, if_neg hm5]] at k
        exact k
  have hR := own_cp hcp
  have w7 : ∀ t, Steps p.tables e below (s₁.setTop (mkF m 41 (own_F17 i1 i2 i3 (i1 &&& (127 : Int32)) cp) [(.int (i3 &&& (256 : Int32)))])) t → Steps p.tables e below (s₁.setTop (entryFrame m #[.int i1, .int i2, .int i3] maxLocals)) t := fun t k => by
    refine w6 t ?_
    refine zil X0 Hb at_36 rfl <| zsp X0 Hb at_37 256 rfl <| zan X0 Hb at_40 ?_
    exact k
  obtain ⟨bt, hbt⟩ : ∃ v : Int32, v = (if (i3 &&& (256 : Int32)) = (0 : Int32) then (0 : Int32) else (1 : Int32)) := ⟨_, rfl⟩
  have w9 : ∀ t, Steps p.tables e below (s₁.setTop (mkF m 49 (own_F17 i1 i2 i3 (i1 &&& (127 : Int32)) cp) [.int bt])) t → Steps p.tables e below (s₁.setTop (entryFrame m #[.int i1, .int i2, .int i3] maxLocals)) t := fun t k => by
    refine w7 t ?_
    by_cases hm8 : (i3 &&& (256 : Int32)) = (0 : Int32)
    · refine ziy X0 Hb at_41 ((if0 _ _).trans (teq hm8).1) 48 (by decide) rfl <| zic X0 Hb at_48 0 rfl ?_
      rw [show bt = (0 : Int32) from by rw [hbt]; simp only [if_pos hm8]] at k
      exact k
    · refine zin X0 Hb at_41 ((if0 _ _).trans (feq hm8).1) <| zic X0 Hb at_44 1 rfl <| zgo X0 Hb at_45 49 (by decide) rfl ?_
      rw [show bt = (1 : Int32) from by rw [hbt]; simp only [if_neg hm8]] at k
      exact k
  have w10 : ∀ t, Steps p.tables e below (s₁.setTop (mkF m 53 (own_F18 i1 i2 i3 (i1 &&& (127 : Int32)) cp bt) [.int bt])) t → Steps p.tables e below (s₁.setTop (entryFrame m #[.int i1, .int i2, .int i3] maxLocals)) t := fun t k => by
    refine w9 t ?_
    refine ziS X0 Hb (L' := (own_F18 i1 i2 i3 (i1 &&& (127 : Int32)) cp bt)) at_49 rfl <| ziL X0 Hb at_51 rfl ?_
    exact k
  obtain ⟨tb, htb⟩ : ∃ v : Int32, v = (if bt = (0 : Int32) then (i3 &&& (127 : Int32)) else ((128 : Int32) ||| (i3 &&& (127 : Int32)))) := ⟨_, rfl⟩
  have w12 : ∀ t, Steps p.tables e below (s₁.setTop (mkF m 71 (own_F18 i1 i2 i3 (i1 &&& (127 : Int32)) cp bt) [.int tb])) t → Steps p.tables e below (s₁.setTop (entryFrame m #[.int i1, .int i2, .int i3] maxLocals)) t := fun t k => by
    refine w10 t ?_
    by_cases hm11 : bt = (0 : Int32)
    · refine ziy X0 Hb at_53 ((if0 _ _).trans (teq hm11).1) 67 (by decide) rfl <| zil X0 Hb at_67 rfl <| zbp X0 Hb at_68 127 rfl <| zan X0 Hb at_70 ?_
      rw [show tb = (i3 &&& (127 : Int32)) from by rw [htb]; simp only [if_pos hm11]] at k
      exact k
    · refine zin X0 Hb at_53 ((if0 _ _).trans (feq hm11).1) <| zsp X0 Hb at_56 128 rfl <| zil X0 Hb at_59 rfl <| zbp X0 Hb at_60 127 rfl <| zan X0 Hb at_62 <| zor X0 Hb at_63 <| zgo X0 Hb at_64 71 (by decide) rfl ?_
      rw [show tb = ((128 : Int32) ||| (i3 &&& (127 : Int32))) from by rw [htb]; simp only [if_neg hm11]] at k
      exact k
  have w13 : ∀ t, Steps p.tables e below (s₁.setTop (mkF m 75 (own_F19 i1 i2 i3 (i1 &&& (127 : Int32)) cp bt tb) [.int bt])) t → Steps p.tables e below (s₁.setTop (entryFrame m #[.int i1, .int i2, .int i3] maxLocals)) t := fun t k => by
    refine w12 t ?_
    refine ziS X0 Hb (L' := (own_F19 i1 i2 i3 (i1 &&& (127 : Int32)) cp bt tb)) at_71 rfl <| ziL X0 Hb at_73 rfl ?_
    exact k
  obtain ⟨tc, htc⟩ : ∃ v : Int32, v = (if bt = (0 : Int32) then ((i3 &&& (127 : Int32)).toUInt32.toUInt16.toUInt32.toInt32) else (65533 : Int32)) := ⟨_, rfl⟩
  have w15 : ∀ t, Steps p.tables e below (s₁.setTop (mkF m 88 (own_F19 i1 i2 i3 (i1 &&& (127 : Int32)) cp bt tb) [.int tc])) t → Steps p.tables e below (s₁.setTop (entryFrame m #[.int i1, .int i2, .int i3] maxLocals)) t := fun t k => by
    refine w13 t ?_
    by_cases hm14 : bt = (0 : Int32)
    · refine ziy X0 Hb at_75 ((if0 _ _).trans (teq hm14).1) 83 (by decide) rfl <| zil X0 Hb at_83 rfl <| zbp X0 Hb at_84 127 rfl <| zan X0 Hb at_86 <| zik X0 Hb at_87 ?_
      rw [show tc = ((i3 &&& (127 : Int32)).toUInt32.toUInt16.toUInt32.toInt32) from by rw [htc]; simp only [if_pos hm14]] at k
      exact k
    · refine zin X0 Hb at_75 ((if0 _ _).trans (feq hm14).1) <| X0.ldcInt hx hown (mvT hZ (W 97 rfl)) (g := (mkF m 78 (own_F19 i1 i2 i3 (i1 &&& (127 : Int32)) cp bt tb) [])) rfl (hb hby at_78) _ <| zgo X0 Hb at_80 88 (by decide) rfl ?_
      rw [show tc = (65533 : Int32) from by rw [htc]; simp only [if_neg hm14]] at k
      exact k
  have w16 : ∀ t, Steps p.tables e below (s₁.setTop (mkF m 95 (own_F20 i1 i2 i3 (i1 &&& (127 : Int32)) cp bt tb tc) [.int 128, .int cp])) t → Steps p.tables e below (s₁.setTop (entryFrame m #[.int i1, .int i2, .int i3] maxLocals)) t := fun t k => by
    refine w15 t ?_
    refine ziS X0 Hb (L' := (own_F20 i1 i2 i3 (i1 &&& (127 : Int32)) cp bt tb tc)) at_88 rfl <| ziL X0 Hb at_90 rfl <| zsp X0 Hb at_92 128 rfl ?_
    exact k
  by_cases hc95_17 : cp < (128 : Int32)
  · obtain ⟨T18, h18, k18, X18, e18, E18, A18, EX18, st18⟩ := newPE X0 hx hZ (W 3 rfl) e0 (g := (mkF m 138 (own_F21 i1 i2 i3 (i1 &&& (127 : Int32)) cp bt tb tc (1 : Int32)) [.int 3])) rfl (hb hby at_138) rfl (by decide) (cap := 3) (by decide) (by decide) (by decide) (by decide) (ad := "[B") (by decide)
    obtain ⟨b18, gq18⟩ : ∃ z, z = Array.size h0 := ⟨_, rfl⟩
    rw [← gq18] at A18 EX18 st18
    have g_b18 : n0 ≤ b18 := Nat.le_trans (O.1 ▸ O.2.1) (Nat.le_of_eq gq18.symm)
    have R := CHr.ext E18 C.1
    have C := C.trans R
    have hk := Nat.le_trans hk E18.1
    have O := O.ext E18
    have V_b18 : Arv Z h18 b18 k18 .byte (3 : Int32) [.int 0, .int 0, .int 0] (.int 0) := (Arv.new A18 (by decide)).pad (pad_rep [] (.int 0) 3)
    obtain ⟨T19, h19, X19, e19, W19, V_b18, st19⟩ := own_sB X18 Hb hZ e18 V_b18 (j := 0) (x := ((i1 &&& (127 : Int32)).toInt8.toInt32)) (L := (own_F22 i1 i2 i3 (i1 &&& (127 : Int32)) cp bt tb tc (1 : Int32) b18)) (S := []) (vs' := [(.int (((i1 &&& (127 : Int32)).toInt8.toInt32).toInt8.toInt32)), .int 0, .int 0]) ⟨by decide, by decide⟩ rfl (Nat.le_of_ble_eq_true rfl) at_147 rfl
    have R := CHr.wr W19 own_sf0 C.1
    have C := C.trans R
    have hk := (by rw [W19.size]; exact hk : _ ≤ Array.size h19)
    have EX18 := EX18.wr W19
    have O := O.wr W19 g_b18
    have N19 := Fr.snoc X19 N0 g_b18
    obtain ⟨T20, h20, X20, e20, W20, V_b18, st20⟩ := own_sB X19 Hb hZ e19 V_b18 (j := 1) (x := (cp.toInt8.toInt32)) (L := (own_F22 i1 i2 i3 (i1 &&& (127 : Int32)) cp bt tb tc (1 : Int32) b18)) (S := []) (vs' := [(.int (((i1 &&& (127 : Int32)).toInt8.toInt32).toInt8.toInt32)), (.int ((cp.toInt8.toInt32).toInt8.toInt32)), .int 0]) ⟨by decide, by decide⟩ rfl (Nat.le_of_ble_eq_true rfl) at_160 rfl
    have R := CHr.wr W20 own_sf0 C.1
    have C := C.trans R
    have hk := (by rw [W20.size]; exact hk : _ ≤ Array.size h20)
    have EX18 := EX18.wr W20
    have O := O.wr W20 g_b18
    have N20 := Fr.snoc X20 N19 g_b18
    obtain ⟨T21, h21, X21, e21, W21, V_b18, st21⟩ := own_sB X20 Hb hZ e20 V_b18 (j := 2) (x := (tb.toInt8.toInt32)) (L := (own_F22 i1 i2 i3 (i1 &&& (127 : Int32)) cp bt tb tc (1 : Int32) b18)) (S := []) (vs' := [(.int (((i1 &&& (127 : Int32)).toInt8.toInt32).toInt8.toInt32)), (.int ((cp.toInt8.toInt32).toInt8.toInt32)), (.int ((tb.toInt8.toInt32).toInt8.toInt32))]) ⟨by decide, by decide⟩ rfl (Nat.le_of_ble_eq_true rfl) at_326 rfl
    have R := CHr.wr W21 own_sf0 C.1
    have C := C.trans R
    have hk := (by rw [W21.size]; exact hk : _ ≤ Array.size h21)
    have EX18 := EX18.wr W21
    have O := O.wr W21 g_b18
    have N21 := Fr.snoc X21 N20 g_b18
    obtain ⟨T22, h22, k22, X22, e22, E22, A22, st22⟩ := newP X21 hx hZ (W 4 rfl) e21 (g := (mkF m 334 (own_F22 i1 i2 i3 (i1 &&& (127 : Int32)) cp bt tb tc (1 : Int32) b18) [.int 3])) rfl (hb hby at_334) rfl (by decide) (cap := 3) (by decide) (by decide) (by decide) (by decide)
    obtain ⟨b22, gq22⟩ : ∃ z, z = Array.size h21 := ⟨_, rfl⟩
    rw [← gq22] at A22 st22
    have ne_b18_b22 : b18 ≠ b22 := Nat.ne_of_lt (Nat.lt_of_lt_of_le EX18.lt (Nat.le_of_eq gq22.symm))
    have g_b22 : n0 ≤ b22 := Nat.le_trans (O.1 ▸ O.2.1) (Nat.le_of_eq gq22.symm)
    have R := CHr.ext E22 C.1
    have C := C.trans R
    have hk := Nat.le_trans hk E22.1
    have EX18 := EX18.ext E22
    have V_b18 := V_b18.ext E22
    have O := O.ext E22
    have V_b22 : Arv Z h22 b22 k22 .char (3 : Int32) [.int 0, .int 0, .int 0] (.int 0) := (Arv.new A22 (by decide)).pad (pad_rep [] (.int 0) 3)
    obtain ⟨T23, h23, X23, e23, W23, V_b22, st23⟩ := own_sC X22 Hb hZ e22 V_b22 (j := 0) (x := ((i1 &&& (127 : Int32)).toUInt32.toUInt16.toUInt32.toInt32)) (L := (own_F22 i1 i2 i3 (i1 &&& (127 : Int32)) cp bt tb tc (1 : Int32) b18)) (S := [.ref b22]) (vs' := [(.int (((i1 &&& (127 : Int32)).toUInt32.toUInt16.toUInt32.toInt32).toUInt32.toUInt16.toUInt32.toInt32)), .int 0, .int 0]) ⟨by decide, by decide⟩ rfl (Nat.le_of_ble_eq_true rfl) at_340 rfl
    have R := CHr.wr W23 own_sf0 C.1
    have C := C.trans R
    have hk := (by rw [W23.size]; exact hk : _ ≤ Array.size h23)
    have EX18 := EX18.wr W23
    have V_b18 := V_b18.other W23 ne_b18_b22
    have O := O.wr W23 g_b22
    have N23 := Fr.snoc X23 N21 g_b22
    obtain ⟨T24, h24, X24, e24, W24, V_b22, st24⟩ := own_sC X23 Hb hZ e23 V_b22 (j := 1) (x := (cp.toUInt32.toUInt16.toUInt32.toInt32)) (L := (own_F22 i1 i2 i3 (i1 &&& (127 : Int32)) cp bt tb tc (1 : Int32) b18)) (S := [.ref b22]) (vs' := [(.int (((i1 &&& (127 : Int32)).toUInt32.toUInt16.toUInt32.toInt32).toUInt32.toUInt16.toUInt32.toInt32)), (.int ((cp.toUInt32.toUInt16.toUInt32.toInt32).toUInt32.toUInt16.toUInt32.toInt32)), .int 0]) ⟨by decide, by decide⟩ rfl (Nat.le_of_ble_eq_true rfl) at_346 rfl
    have R := CHr.wr W24 own_sf0 C.1
    have C := C.trans R
    have hk := (by rw [W24.size]; exact hk : _ ≤ Array.size h24)
    have EX18 := EX18.wr W24
    have V_b18 := V_b18.other W24 ne_b18_b22
    have O := O.wr W24 g_b22
    have N24 := Fr.snoc X24 N23 g_b22
    obtain ⟨T25, h25, X25, e25, W25, V_b22, st25⟩ := own_sC X24 Hb hZ e24 V_b22 (j := 2) (x := tc) (L := (own_F22 i1 i2 i3 (i1 &&& (127 : Int32)) cp bt tb tc (1 : Int32) b18)) (S := [.ref b22]) (vs' := [(.int (((i1 &&& (127 : Int32)).toUInt32.toUInt16.toUInt32.toInt32).toUInt32.toUInt16.toUInt32.toInt32)), (.int ((cp.toUInt32.toUInt16.toUInt32.toInt32).toUInt32.toUInt16.toUInt32.toInt32)), .int (tc.toUInt32.toUInt16.toUInt32.toInt32)]) ⟨by decide, by decide⟩ rfl (Nat.le_of_ble_eq_true rfl) at_351 rfl
    have R := CHr.wr W25 own_sf0 C.1
    have C := C.trans R
    have hk := (by rw [W25.size]; exact hk : _ ≤ Array.size h25)
    have EX18 := EX18.wr W25
    have V_b18 := V_b18.other W25 ne_b18_b22
    have O := O.wr W25 g_b22
    have N25 := Fr.snoc X25 N24 g_b22
    have w26 : ∀ t, Steps p.tables e below (T25.setTop (mkF m 412 (own_F23 i1 i2 i3 (i1 &&& (127 : Int32)) cp bt tb tc (1 : Int32) b18 b22) [])) t → Steps p.tables e below (s₁.setTop (entryFrame m #[.int i1, .int i2, .int i3] maxLocals)) t := fun t k => by
      refine w16 t ?_
      refine zcn X0 Hb at_95 (tlt hc95_17).2.1 <| zic X0 Hb at_98 1 rfl <| ziS X0 Hb (L' := (own_F21 i1 i2 i3 (i1 &&& (127 : Int32)) cp bt tb tc (1 : Int32))) at_99 rfl <| zgo X0 Hb at_101 134 (by decide) rfl <| zic X0 Hb at_134 2 rfl <| ziL X0 Hb at_135 rfl <| zia' X0 Hb at_137 3 rfl <| st18 _ ?_
      refine zaS X18 Hb (L' := (own_F22 i1 i2 i3 (i1 &&& (127 : Int32)) cp bt tb tc (1 : Int32) b18)) at_140 rfl rfl <| zaL X18 Hb at_142 rfl rfl <| zic X18 Hb at_144 0 rfl <| zil X18 Hb at_145 rfl <| zib X18 Hb at_146 <| st19 _ <| ziL X19 Hb at_148 rfl <| zic X19 Hb at_150 1 rfl ?_
      refine zcn X19 Hb at_151 (teq (rfl : (1 : Int32) = (1 : Int32))).2 <| zaL X19 Hb at_154 rfl rfl <| zic X19 Hb at_156 1 rfl <| ziL X19 Hb at_157 rfl <| zib X19 Hb at_159 <| st20 _ <| zgo X20 Hb at_161 317 (by decide) rfl <| zaL X20 Hb at_317 rfl rfl ?_
      refine zic X20 Hb at_319 1 rfl <| ziL X20 Hb at_320 rfl <| zia' X20 Hb at_322 2 rfl <| ziL X20 Hb at_323 rfl <| zib X20 Hb at_325 <| st21 _ <| ziL X21 Hb at_327 rfl <| zic X21 Hb at_329 4 rfl ?_
      refine zcn X21 Hb at_330 (tlt ((by decide) : (1 : Int32) < (4 : Int32))).2.1 <| zic X21 Hb at_333 3 rfl <| st22 _ <| zdu X22 Hb at_336 rfl <| zic X22 Hb at_337 0 rfl <| zil X22 Hb at_338 rfl <| zik X22 Hb at_339 <| st23 _ ?_
      refine zdu X23 Hb at_341 rfl <| zic X23 Hb at_342 1 rfl <| ziL X23 Hb at_343 rfl <| zik X23 Hb at_345 <| st24 _ <| zdu X24 Hb at_347 rfl <| zic X24 Hb at_348 2 rfl <| ziL X24 Hb at_349 rfl ?_
      refine st25 _ <| zaS X25 Hb (L' := (own_F23 i1 i2 i3 (i1 &&& (127 : Int32)) cp bt tb tc (1 : Int32) b18 b22)) at_352 rfl rfl <| zgo X25 Hb at_354 412 (by decide) rfl ?_
      exact k
    have hc95 := hc95_17
    by_cases hbt0 : bt = (0 : Int32)
    · have hP := own_s7 i1
      have hT := own_s7 i3
      have etb : tb = (i3 &&& (127 : Int32)) := by rw [htb, if_pos hbt0]
      have etc : tc = own_k (i3 &&& (127 : Int32)) := by rw [htc, if_pos hbt0]; rfl
      have hC := own_S7 hR.1 (own_lt1 hc95)
      have V_b18 : Arv Z h25 b18 k18 .byte (3 : Int32) [(.int (i1 &&& (127 : Int32))), .int cp, (.int (i3 &&& (127 : Int32)))] (.int 0) := by
        have q : Arv Z h25 b18 k18 .byte (3 : Int32) [(.int (own_b (i1 &&& (127 : Int32)))), .int (own_b cp), .int (own_b tb)] (.int 0) := V_b18
        rw [hP.2.1, hC.2.1, etb, hT.2.1] at q
        exact q
      have hK : own_k cp = cp := own_k1 hR.1 (by have := own_lt1 hc95; have e1 : (65536 : Int32).toInt = 65536 := rfl; have e2 : (2048 : Int32).toInt = 2048 := rfl; have e3 : (128 : Int32).toInt = 128 := rfl; omega)
      have V_b22 : Arv Z h25 b22 k22 .char (3 : Int32) [(.int (i1 &&& (127 : Int32))), .int cp, (.int (i3 &&& (127 : Int32)))] (.int 0) := by
        have q : Arv Z h25 b22 k22 .char (3 : Int32) [(.int (own_k (own_k (i1 &&& (127 : Int32))))), (.int (own_k (own_k cp))), .int (own_k tc)] (.int 0) := V_b22
        rw [hP.1, hP.1, hK, hK, etc, hT.1, hT.1] at q
        exact q
      have hr1 : 0 ≤ cp.toInt ∧ cp.toInt < 128 := by have h0 := hR.1; have h9 := hR.2.1; have q0 := own_lt1 hc95; have e1 : (65536 : Int32).toInt = 65536 := rfl; have e2 : (2048 : Int32).toInt = 2048 := rfl; have e3 : (128 : Int32).toInt = 128 := rfl; have e4 : (256 : Int32).toInt = 256 := rfl; have e5 : (255 : Int32).toInt = 255 := rfl; have e6 : (1114112 : Int32).toInt = 1114112 := rfl; have e7 : (55296 : Int32).toInt = 55296 := rfl; have e8 : (57344 : Int32).toInt = 57344 := rfl; omega
      have hn5 := hC.2.2.2.1
      have hz5 := hC.2.2.1
      obtain ⟨T27, h27, X27, e27, E27, A27, D27, -, st27⟩ := newO X25 hx hZ hown (W 5 rfl) (W 6 rfl) (W 7 rfl) e25 (g := (mkF m 412 (own_F23 i1 i2 i3 (i1 &&& (127 : Int32)) cp bt tb tc (1 : Int32) b18 b22) [])) rfl (hb hby at_412) (by decide) (by decide)
      obtain ⟨b27, gq27⟩ : ∃ z, z = Array.size h25 := ⟨_, rfl⟩
      rw [← gq27] at A27 D27 st27
      have ne_b18_b27 : b18 ≠ b27 := Nat.ne_of_lt (Nat.lt_of_lt_of_le EX18.lt (Nat.le_of_eq gq27.symm))
      have ne_b22_b27 : b22 ≠ b27 := Nat.ne_of_lt (Nat.lt_of_lt_of_le V_b22.lt (Nat.le_of_eq gq27.symm))
      have g_b27 : n0 ≤ b27 := Nat.le_trans (O.1 ▸ O.2.1) (Nat.le_of_eq gq27.symm)
      have R := CHr.ext E27 C.1
      have C := C.trans R
      have hk := Nat.le_trans hk E27.1
      have EX18 := EX18.ext E27
      have V_b18 := V_b18.ext E27
      have V_b22 := V_b22.ext E27
      have O := O.ext E27
      have F_coder_b27 : Fld Z h27 b27 "java/lang/String" "coder" "B" (.int 0) := D27 (Or.inr (W 30 rfl)) (ty := .byte) (by decide)
      have F_value_b27 : Fld Z h27 b27 "java/lang/String" "value" "[B" .null := D27 (Or.inr (W 32 rfl)) (ty := (.array .byte)) (by decide)
      obtain ⟨_, T28, Lc28, X28, hQ28, st28⟩ := own_cI X27 Hb hZ hown hml (L := (own_F23 i1 i2 i3 (i1 &&& (127 : Int32)) cp bt tb tc (1 : Int32) b18 b22)) rfl (rm1_3_3 hw b27 b22 k22 (i1 &&& (127 : Int32)) cp (i3 &&& (127 : Int32)) O SU A27 F_value_b27 F_coder_b27 V_b22 hP.2.2.2.1 hn5 hT.2.2.2.1 g_b27) (W 8 rfl) (W 9 rfl) (W 7 rfl) (W 10 rfl) pd28 e27 at_418 b27 [.ref b22] [.ref b27] rfl rfl (by decide) 1 rfl (by decide)
      obtain ⟨t1_28, kb_28, rfl, N28q, K28, F_v_a_c28, F_c_a_c28, V_t1_c28⟩ := hQ28
      have N28 := Fr.app N25 N28q
      have R := CHr.keep K28 (allS own_sf0 all0) C.1
      have C := C.trans R
      have hk := Nat.le_trans hk K28.1
      have EX18 := EX18.keep K28
      have V_b18 := V_b18.keep K28 (ninS ne_b18_b27 nin0)
      have V_b22 := V_b22.keep K28 (ninS ne_b22_b27 nin0)
      have A27 := A27.keep K28
      have O := O.keep K28 (allS g_b27 all0)
      obtain ⟨T29, h29, X29, e29, E29, A29, D29, -, st29⟩ := newO X28 hx hZ hown (W 33 rfl) (W 34 rfl) (W 35 rfl) rfl (g := (mkF m 423 (own_F24 i1 i2 i3 (i1 &&& (127 : Int32)) cp bt tb tc (1 : Int32) b18 b22 b27) [])) rfl (hb hby at_423) (by decide) (by decide)
      obtain ⟨b29, gq29⟩ : ∃ z, z = Array.size T28.heap := ⟨_, rfl⟩
      rw [← gq29] at A29 D29 st29
      have ne_b18_b29 : b18 ≠ b29 := Nat.ne_of_lt (Nat.lt_of_lt_of_le EX18.lt (Nat.le_of_eq gq29.symm))
      have ne_b22_b29 : b22 ≠ b29 := Nat.ne_of_lt (Nat.lt_of_lt_of_le V_b22.lt (Nat.le_of_eq gq29.symm))
      have ne_b27_b29 : b27 ≠ b29 := Nat.ne_of_lt (Nat.lt_of_lt_of_le A27.lt (Nat.le_of_eq gq29.symm))
      have ne_t1_28_b29 : t1_28 ≠ b29 := Nat.ne_of_lt (Nat.lt_of_lt_of_le V_t1_c28.lt (Nat.le_of_eq gq29.symm))
      have g_b29 : n0 ≤ b29 := Nat.le_trans (O.1 ▸ O.2.1) (Nat.le_of_eq gq29.symm)
      have R := CHr.ext E29 C.1
      have C := C.trans R
      have hk := Nat.le_trans hk E29.1
      have EX18 := EX18.ext E29
      have V_b18 := V_b18.ext E29
      have V_b22 := V_b22.ext E29
      have A27 := A27.ext E29
      have F_v_a_c28 := F_v_a_c28.ext E29
      have F_c_a_c28 := F_c_a_c28.ext E29
      have V_t1_c28 := V_t1_c28.ext E29
      have O := O.ext E29
      have F_contentType_b29 : Fld Z h29 b29 "com/example/gradual_reply/gradualreply/EncodedBody" "contentType" "Ljava/lang/String;" .null := D29 (Or.inr (W 44 rfl)) (ty := (.object "java/lang/String")) (by decide)
      have F_bytes_b29 : Fld Z h29 b29 "com/example/gradual_reply/gradualreply/EncodedBody" "bytes" "[B" .null := D29 (Or.inr (W 46 rfl)) (ty := (.array .byte)) (by decide)
      obtain ⟨a30, T30, h30, kk30, X30, e30, E30, hS, hk', hZ, hown, R30, -, st30⟩ := ldcOH X29 hx hZ hown (W 36 rfl) hSA e29 hS hk hEL C.1 (g := (mkF m 427 (own_F24 i1 i2 i3 (i1 &&& (127 : Int32)) cp bt tb tc (1 : Int32) b18 b22 b27) [.ref b29, .ref b29])) rfl (hb hby at_427) (n := 40) (by decide +kernel) (by decide) (by decide) (by decide)
      have R := R30
      have C := C.trans R
      have hk := hk'
      have EX18 := EX18.ext E30
      have V_b18 := V_b18.ext E30
      have V_b22 := V_b22.ext E30
      have A27 := A27.ext E30
      have F_v_a_c28 := F_v_a_c28.ext E30
      have F_c_a_c28 := F_c_a_c28.ext E30
      have V_t1_c28 := V_t1_c28.ext E30
      have A29 := A29.ext E30
      have F_contentType_b29 := F_contentType_b29.ext E30
      have F_bytes_b29 := F_bytes_b29.ext E30
      have O := O.ext E30
      obtain ⟨_, T31, Lc31, X31, hQ31, st31⟩ := own_cI X30 Hb hZ hown hml (L := (own_F24 i1 i2 i3 (i1 &&& (127 : Int32)) cp bt tb tc (1 : Int32) b18 b22 b27)) rfl (rm7 hw b29 a30 b18 O A29 F_contentType_b29 F_bytes_b29 g_b29) (W 39 rfl) (W 40 rfl) (W 35 rfl) (W 41 rfl) pd29 e30 at_431 b29 [.ref a30, .ref b18] [.ref b29] rfl rfl (by decide) 1 rfl (by decide)
      obtain ⟨rfl, N31q, K31, F_t_a_c31, F_b_a_c31⟩ := hQ31
      have N31 := Fr.app N28 N31q
      have R := CHr.keep K31 (allS own_sf0 all0) C.1
      have C := C.trans R
      have hk := Nat.le_trans hk K31.1
      have EX18 := EX18.keep K31
      have V_b18 := V_b18.keep K31 (ninS ne_b18_b29 nin0)
      have V_b22 := V_b22.keep K31 (ninS ne_b22_b29 nin0)
      have A27 := A27.keep K31
      have F_v_a_c28 := F_v_a_c28.keep K31 (ninS ne_b27_b29 nin0)
      have F_c_a_c28 := F_c_a_c28.keep K31 (ninS ne_b27_b29 nin0)
      have V_t1_c28 := V_t1_c28.keep K31 (ninS ne_t1_28_b29 nin0)
      have A29 := A29.keep K31
      have O := O.keep K31 (allS g_b29 all0)
      have E_u8 := o_E_u8.ext O.2
      obtain ⟨cq32, kq32, q32a, q32b, q32c⟩ := isOf hZ rfl A29
      obtain ⟨_, _, ⟨T32, L32, k32, n32⟩, -, X32, ⟨Lc32, hQ32, l32, y32, z32⟩, st32⟩ := X31.virtualBack hx (y := own_n8) (z := own_n8) hown (mvT hZ (W 47 rfl)) (mvT hZ (W 48 rfl)) (notFace_of_selects (args := #[]) (mvT hZ (W 50 rfl))) (mvT hZ (W 50 rfl)) (mvT hZ (W 49 rfl)) (by decide) (own_bk (W := 0) (rm8_A hw b29 b18 k18 (i1 &&& (127 : Int32)) cp (i3 &&& (127 : Int32)) O SU F_b_a_c31 V_b18 EX18 E_u8 hP.2.2.1 hC.2.2.1 hT.2.2.1) hZ (W 51 rfl) (W 35 rfl) (by decide) (by decide)) q32a q32c (g := (mkF m 438 (own_F25 i1 i2 i3 (i1 &&& (127 : Int32)) cp bt tb tc (1 : Int32) b18 b22 b27 b29) [.ref b29])) rfl (by rw [hml]; rfl) (Steps.refl _) (argsL := []) (rest := []) (lenOf pd30 rfl) rfl (by show 2 * 0 + _ ≤ _; exact Nat.le_of_eq rfl) (hb hby at_438) (fun _ _ => ⟨rfl, rfl, (by decide : 7 + 2 ≤ _), (by decide : 59 + 10 ≤ _)⟩)
      dsimp only [Pt.U, Pt.locs, Pt.cells, Pt.slots] at X32 l32 y32 z32 st32 hQ32
      have X32 := own_un X32 l32 y32 z32
      obtain ⟨z_32, t1_32, kt_32, rfl, N32q, K32, E_z_c32, F_v_z_c32, F_c_z_c32, V_t_c32⟩ := hQ32
      have N32 := Fr.app N31 N32q
      have R := CHr.keep K32 all0 C.1
      have C := C.trans R
      have hk := Nat.le_trans hk K32.1
      have EX18 := EX18.keep K32
      have V_b18 := V_b18.keep K32 nin0
      have V_b22 := V_b22.keep K32 nin0
      have A27 := A27.keep K32
      have F_v_a_c28 := F_v_a_c28.keep K32 nin0
      have F_c_a_c28 := F_c_a_c28.keep K32 nin0
      have V_t1_c28 := V_t1_c28.keep K32 nin0
      have A29 := A29.keep K32
      have F_t_a_c31 := F_t_a_c31.keep K32 nin0
      have F_b_a_c31 := F_b_a_c31.keep K32 nin0
      have E_u8 := E_u8.keep K32
      have O := O.keep K32 all0
      obtain ⟨cq33, kq33, q33a, q33b, q33c⟩ := isOf hZ rfl A27
      obtain ⟨v33, _, ⟨T33, L33, k33, n33⟩, -, X33, ⟨Lc33, hQ33, l33, y33, z33⟩, st33⟩ := X32.virtualBack hx (y := (⟨"java/lang/String", "equals", "(Ljava/lang/Object;)Z"⟩ : MethodName)) (z := (⟨"java/lang/String", "equals", "(Ljava/lang/Object;)Z"⟩ : MethodName)) hown (mvT hZ (W 86 rfl)) (mvT hZ (W 87 rfl)) (notFace_of_selects (args := #[]) (mvT hZ (W 89 rfl))) (mvT hZ (W 89 rfl)) (mvT hZ (W 88 rfl)) (by decide) (StrChars.Road.eqW (W := 0) hZ (own_wEq hw) (kI := 4) (W 6 rfl) A27 F_v_a_c28 F_c_a_c28 V_t1_c28 (own_c0 (own_bb _) (own_bb _) (own_bb _) (own_h3 (P := fun w => ¬ w < 0 ∧ ¬ (255 : Int32) < w) ⟨hP.2.2.1, hP.2.2.2.1⟩ ⟨hz5, hn5⟩ ⟨hT.2.2.1, hT.2.2.2.1⟩)) (own_h3 (P := fun w => ¬ w < 0 ∧ ¬ (65535 : Int32) < w) ⟨hP.2.2.1, hP.2.2.2.2.2.2⟩ (by rw [← hK]; exact own_kr cp) ⟨hT.2.2.1, hT.2.2.2.2.2.2⟩) (Nat.le_of_ble_eq_true rfl) E_z_c32 F_v_z_c32 F_c_z_c32 V_t_c32 (own_c0 hP.2.2.2.2.2.1.symm hC.2.2.2.2.2.1.symm hT.2.2.2.2.2.1.symm (own_h3 (P := fun w => ¬ w < 0 ∧ ¬ (255 : Int32) < w) ⟨hP.2.2.1, hP.2.2.2.1⟩ ⟨hz5, hn5⟩ ⟨hT.2.2.1, hT.2.2.2.1⟩)) (own_h3 (P := fun w => ¬ w < 0 ∧ ¬ (65535 : Int32) < w) ⟨hP.2.2.1, hP.2.2.2.2.2.2⟩ (by rw [← hK]; exact own_kr cp) ⟨hT.2.2.1, hT.2.2.2.2.2.2⟩) (Nat.le_of_ble_eq_true rfl) (SC.ext O.2) hzc (by decide) (by decide)) q33a q33c (g := (mkF m 447 (own_F26 i1 i2 i3 (i1 &&& (127 : Int32)) cp bt tb tc (1 : Int32) b18 b22 b27 b29 z_32) [.ref z_32, .ref b27])) rfl (by rw [hml]; rfl) (Steps.refl _) (argsL := [.ref z_32]) (rest := []) (lenOf pd31 rfl) rfl (by show 2 * 0 + _ ≤ _; exact Nat.le_of_eq rfl) (hb hby at_447) (fun _ _ => ⟨rfl, rfl, (by decide : 9 + 0 ≤ _), (by decide : 69 + 0 ≤ _)⟩)
      dsimp only [Pt.U, Pt.locs, Pt.cells, Pt.slots] at X33 l33 y33 z33 st33 hQ33
      have X33 := own_un X33 l33 y33 z33
      obtain ⟨hv33, rfl, eh33⟩ := hQ33
      obtain rfl : v33 = some (.int (own_eqs ([(i1 &&& (127 : Int32)), cp, (i3 &&& (127 : Int32))] : List Int32) ([(i1 &&& (127 : Int32)), cp, (i3 &&& (127 : Int32))] : List Int32))) := by rcases hv33 with ⟨h1, h2⟩ | ⟨h1, h2⟩ <;> first | exact absurd rfl h2 | (rw [h1]; simp only [own_eqs, if_true])
      have N33 := Fr.app N32 (Fr.nil n0)
      have w34 : ∀ t, Steps p.tables e below (T33.setTop (mkF m 450 (own_F26 i1 i2 i3 (i1 &&& (127 : Int32)) cp bt tb tc (1 : Int32) b18 b22 b27 b29 z_32) [(.int (own_eqs ([(i1 &&& (127 : Int32)), cp, (i3 &&& (127 : Int32))] : List Int32) ([(i1 &&& (127 : Int32)), cp, (i3 &&& (127 : Int32))] : List Int32)))])) t → Steps p.tables e below (s₁.setTop (entryFrame m #[.int i1, .int i2, .int i3] maxLocals)) t := fun t k => by
        refine w26 t ?_
        refine st27 _ <| zdu X27 Hb at_415 rfl <| zaL X27 Hb at_416 rfl rfl <| st28 _ <| zaS X28 Hb (L' := (own_F24 i1 i2 i3 (i1 &&& (127 : Int32)) cp bt tb tc (1 : Int32) b18 b22 b27)) at_421 rfl rfl <| st29 _ <| zdu X29 Hb at_426 rfl <| st30 _ ?_
        refine zaL X30 Hb at_429 rfl rfl <| st31 _ <| zaS X31 Hb (L' := (own_F25 i1 i2 i3 (i1 &&& (127 : Int32)) cp bt tb tc (1 : Int32) b18 b22 b27 b29)) at_434 rfl rfl <| zaL X31 Hb at_436 rfl rfl <| st32.trans <| zaS X32 Hb (L' := (own_F26 i1 i2 i3 (i1 &&& (127 : Int32)) cp bt tb tc (1 : Int32) b18 b22 b27 b29 z_32)) at_441 rfl rfl <| zaL X32 Hb at_443 rfl rfl <| zaL X32 Hb at_445 rfl rfl ?_
        refine st33.trans ?_
        exact k
      obtain ⟨fs, hr, hrun, hended, hE⟩ := Stand.leaveW (s := s) (vm₁ := T30.vm) X33 hS (by rw [eh33]; exact hk) (v := some (.int ((own_eqs ([(i1 &&& (127 : Int32)), cp, (i3 &&& (127 : Int32))] : List Int32) ([(i1 &&& (127 : Int32)), cp, (i3 &&& (127 : Int32))] : List Int32)) &&& 1))) (fun h => by rw [Bd.returns] at h; cases h)
      refine ⟨_, _, w34 _ ?_, hrun, hended, _, _, rfl, ?_, ?_, own_mono hE (by decide) (by decide)⟩
      · exact retN X33 hx (t := .boolean) Bd.returns (by simp) (hb hby at_450) hr
      · show Q0 Z i1 i2 i3 zc fm u8  h0 n0 _ T33.heap _
        rw [eh33]
        exact ⟨(own_r1 _), N33⟩
      · rw [hh]; show CHr Z consts_1 s.vm h0 T33.vm T33.heap; rw [eh33]; exact C.trans (CHv.at X33 hZ hEL C.1)
    · have hP := own_s7 i1
      have etb : tb = ((128 : Int32) ||| (i3 &&& (127 : Int32))) := by rw [htb, if_neg hbt0]
      have etc : tc = (65533 : Int32) := by rw [htc, if_neg hbt0]
      have hT := own_tb i3
      have hC := own_S7 hR.1 (own_lt1 hc95)
      have V_b18 : Arv Z h25 b18 k18 .byte (3 : Int32) [(.int (i1 &&& (127 : Int32))), .int cp, (.int (own_b ((128 : Int32) ||| (i3 &&& (127 : Int32)))))] (.int 0) := by
        have q : Arv Z h25 b18 k18 .byte (3 : Int32) [(.int (own_b (i1 &&& (127 : Int32)))), .int (own_b cp), .int (own_b tb)] (.int 0) := V_b18
        rw [hP.2.1, hC.2.1, etb] at q
        exact q
      have hK : own_k cp = cp := own_k1 hR.1 (by have := own_lt1 hc95; have e1 : (65536 : Int32).toInt = 65536 := rfl; have e2 : (2048 : Int32).toInt = 2048 := rfl; have e3 : (128 : Int32).toInt = 128 := rfl; omega)
      have V_b22 : Arv Z h25 b22 k22 .char (3 : Int32) [(.int (i1 &&& (127 : Int32))), .int cp, .int 65533] (.int 0) := by
        have q : Arv Z h25 b22 k22 .char (3 : Int32) [(.int (own_k (own_k (i1 &&& (127 : Int32))))), (.int (own_k (own_k cp))), .int (own_k tc)] (.int 0) := V_b22
        rw [hP.1, hP.1, hK, hK, etc, (by decide : own_k (65533 : Int32) = (65533 : Int32))] at q
        exact q
      have hr1 : 0 ≤ cp.toInt ∧ cp.toInt < 128 := by have h0 := hR.1; have h9 := hR.2.1; have q0 := own_lt1 hc95; have e1 : (65536 : Int32).toInt = 65536 := rfl; have e2 : (2048 : Int32).toInt = 2048 := rfl; have e3 : (128 : Int32).toInt = 128 := rfl; have e4 : (256 : Int32).toInt = 256 := rfl; have e5 : (255 : Int32).toInt = 255 := rfl; have e6 : (1114112 : Int32).toInt = 1114112 := rfl; have e7 : (55296 : Int32).toInt = 55296 := rfl; have e8 : (57344 : Int32).toInt = 57344 := rfl; omega
      have hn5 := hC.2.2.2.1
      have hz5 := hC.2.2.1
      obtain ⟨T35, h35, X35, e35, E35, A35, D35, -, st35⟩ := newO X25 hx hZ hown (W 5 rfl) (W 6 rfl) (W 7 rfl) e25 (g := (mkF m 412 (own_F23 i1 i2 i3 (i1 &&& (127 : Int32)) cp bt tb tc (1 : Int32) b18 b22) [])) rfl (hb hby at_412) (by decide) (by decide)
      obtain ⟨b35, gq35⟩ : ∃ z, z = Array.size h25 := ⟨_, rfl⟩
      rw [← gq35] at A35 D35 st35
      have ne_b18_b35 : b18 ≠ b35 := Nat.ne_of_lt (Nat.lt_of_lt_of_le EX18.lt (Nat.le_of_eq gq35.symm))
      have ne_b22_b35 : b22 ≠ b35 := Nat.ne_of_lt (Nat.lt_of_lt_of_le V_b22.lt (Nat.le_of_eq gq35.symm))
      have g_b35 : n0 ≤ b35 := Nat.le_trans (O.1 ▸ O.2.1) (Nat.le_of_eq gq35.symm)
      have R := CHr.ext E35 C.1
      have C := C.trans R
      have hk := Nat.le_trans hk E35.1
      have EX18 := EX18.ext E35
      have V_b18 := V_b18.ext E35
      have V_b22 := V_b22.ext E35
      have O := O.ext E35
      have F_coder_b35 : Fld Z h35 b35 "java/lang/String" "coder" "B" (.int 0) := D35 (Or.inr (W 30 rfl)) (ty := .byte) (by decide)
      have F_value_b35 : Fld Z h35 b35 "java/lang/String" "value" "[B" .null := D35 (Or.inr (W 32 rfl)) (ty := (.array .byte)) (by decide)
      obtain ⟨_, T36, Lc36, X36, hQ36, st36⟩ := own_cI X35 Hb hZ hown hml (L := (own_F23 i1 i2 i3 (i1 &&& (127 : Int32)) cp bt tb tc (1 : Int32) b18 b22)) rfl (rm1_3_2 hw b35 b22 k22 (i1 &&& (127 : Int32)) cp (65533 : Int32) O SU A35 F_value_b35 F_coder_b35 V_b22 hP.2.2.2.1 hn5 (by decide) (by decide +kernel) g_b35) (W 8 rfl) (W 9 rfl) (W 7 rfl) (W 10 rfl) pd28 e35 at_418 b35 [.ref b22] [.ref b35] rfl rfl (by decide) 1 rfl (by decide)
      obtain ⟨t1_36, kb_36, rfl, N36q, K36, F_v_a_c36, F_c_a_c36, V_t1_c36⟩ := hQ36
      have N36 := Fr.app N25 N36q
      have R := CHr.keep K36 (allS own_sf0 all0) C.1
      have C := C.trans R
      have hk := Nat.le_trans hk K36.1
      have EX18 := EX18.keep K36
      have V_b18 := V_b18.keep K36 (ninS ne_b18_b35 nin0)
      have V_b22 := V_b22.keep K36 (ninS ne_b22_b35 nin0)
      have A35 := A35.keep K36
      have O := O.keep K36 (allS g_b35 all0)
      obtain ⟨T37, h37, X37, e37, E37, A37, D37, -, st37⟩ := newO X36 hx hZ hown (W 33 rfl) (W 34 rfl) (W 35 rfl) rfl (g := (mkF m 423 (own_F24 i1 i2 i3 (i1 &&& (127 : Int32)) cp bt tb tc (1 : Int32) b18 b22 b35) [])) rfl (hb hby at_423) (by decide) (by decide)
      obtain ⟨b37, gq37⟩ : ∃ z, z = Array.size T36.heap := ⟨_, rfl⟩
      rw [← gq37] at A37 D37 st37
      have ne_b18_b37 : b18 ≠ b37 := Nat.ne_of_lt (Nat.lt_of_lt_of_le EX18.lt (Nat.le_of_eq gq37.symm))
      have ne_b22_b37 : b22 ≠ b37 := Nat.ne_of_lt (Nat.lt_of_lt_of_le V_b22.lt (Nat.le_of_eq gq37.symm))
      have ne_b35_b37 : b35 ≠ b37 := Nat.ne_of_lt (Nat.lt_of_lt_of_le A35.lt (Nat.le_of_eq gq37.symm))
      have ne_t1_36_b37 : t1_36 ≠ b37 := Nat.ne_of_lt (Nat.lt_of_lt_of_le V_t1_c36.lt (Nat.le_of_eq gq37.symm))
      have g_b37 : n0 ≤ b37 := Nat.le_trans (O.1 ▸ O.2.1) (Nat.le_of_eq gq37.symm)
      have R := CHr.ext E37 C.1
      have C := C.trans R
      have hk := Nat.le_trans hk E37.1
      have EX18 := EX18.ext E37
      have V_b18 := V_b18.ext E37
      have V_b22 := V_b22.ext E37
      have A35 := A35.ext E37
      have F_v_a_c36 := F_v_a_c36.ext E37
      have F_c_a_c36 := F_c_a_c36.ext E37
      have V_t1_c36 := V_t1_c36.ext E37
      have O := O.ext E37
      have F_contentType_b37 : Fld Z h37 b37 "com/example/gradual_reply/gradualreply/EncodedBody" "contentType" "Ljava/lang/String;" .null := D37 (Or.inr (W 44 rfl)) (ty := (.object "java/lang/String")) (by decide)
      have F_bytes_b37 : Fld Z h37 b37 "com/example/gradual_reply/gradualreply/EncodedBody" "bytes" "[B" .null := D37 (Or.inr (W 46 rfl)) (ty := (.array .byte)) (by decide)
      obtain ⟨a38, T38, h38, kk38, X38, e38, E38, hS, hk', hZ, hown, R38, -, st38⟩ := ldcOH X37 hx hZ hown (W 36 rfl) hSA e37 hS hk hEL C.1 (g := (mkF m 427 (own_F24 i1 i2 i3 (i1 &&& (127 : Int32)) cp bt tb tc (1 : Int32) b18 b22 b35) [.ref b37, .ref b37])) rfl (hb hby at_427) (n := 40) (by decide +kernel) (by decide) (by decide) (by decide)
      have R := R38
      have C := C.trans R
      have hk := hk'
      have EX18 := EX18.ext E38
      have V_b18 := V_b18.ext E38
      have V_b22 := V_b22.ext E38
      have A35 := A35.ext E38
      have F_v_a_c36 := F_v_a_c36.ext E38
      have F_c_a_c36 := F_c_a_c36.ext E38
      have V_t1_c36 := V_t1_c36.ext E38
      have A37 := A37.ext E38
      have F_contentType_b37 := F_contentType_b37.ext E38
      have F_bytes_b37 := F_bytes_b37.ext E38
      have O := O.ext E38
      obtain ⟨_, T39, Lc39, X39, hQ39, st39⟩ := own_cI X38 Hb hZ hown hml (L := (own_F24 i1 i2 i3 (i1 &&& (127 : Int32)) cp bt tb tc (1 : Int32) b18 b22 b35)) rfl (rm7 hw b37 a38 b18 O A37 F_contentType_b37 F_bytes_b37 g_b37) (W 39 rfl) (W 40 rfl) (W 35 rfl) (W 41 rfl) pd29 e38 at_431 b37 [.ref a38, .ref b18] [.ref b37] rfl rfl (by decide) 1 rfl (by decide)
      obtain ⟨rfl, N39q, K39, F_t_a_c39, F_b_a_c39⟩ := hQ39
      have N39 := Fr.app N36 N39q
      have R := CHr.keep K39 (allS own_sf0 all0) C.1
      have C := C.trans R
      have hk := Nat.le_trans hk K39.1
      have EX18 := EX18.keep K39
      have V_b18 := V_b18.keep K39 (ninS ne_b18_b37 nin0)
      have V_b22 := V_b22.keep K39 (ninS ne_b22_b37 nin0)
      have A35 := A35.keep K39
      have F_v_a_c36 := F_v_a_c36.keep K39 (ninS ne_b35_b37 nin0)
      have F_c_a_c36 := F_c_a_c36.keep K39 (ninS ne_b35_b37 nin0)
      have V_t1_c36 := V_t1_c36.keep K39 (ninS ne_t1_36_b37 nin0)
      have A37 := A37.keep K39
      have O := O.keep K39 (allS g_b37 all0)
      have E_u8 := o_E_u8.ext O.2
      obtain ⟨cq40, kq40, q40a, q40b, q40c⟩ := isOf hZ rfl A37
      obtain ⟨_, _, ⟨T40, L40, k40, n40⟩, -, X40, ⟨Lc40, hQ40, l40, y40, z40⟩, st40⟩ := X39.virtualBack hx (y := own_n8) (z := own_n8) hown (mvT hZ (W 47 rfl)) (mvT hZ (W 48 rfl)) (notFace_of_selects (args := #[]) (mvT hZ (W 50 rfl))) (mvT hZ (W 50 rfl)) (mvT hZ (W 49 rfl)) (by decide) (own_bk (W := 0) (rm8_B hw b37 b18 k18 (i1 &&& (127 : Int32)) cp (own_b ((128 : Int32) ||| (i3 &&& (127 : Int32)))) O SU F_b_a_c39 V_b18 EX18 E_u8 hP.2.2.1 hC.2.2.1 hT) hZ (W 51 rfl) (W 35 rfl) (by decide) (by decide)) q40a q40c (g := (mkF m 438 (own_F25 i1 i2 i3 (i1 &&& (127 : Int32)) cp bt tb tc (1 : Int32) b18 b22 b35 b37) [.ref b37])) rfl (by rw [hml]; rfl) (Steps.refl _) (argsL := []) (rest := []) (lenOf pd30 rfl) rfl (by show 2 * 0 + _ ≤ _; exact Nat.le_of_eq rfl) (hb hby at_438) (fun _ _ => ⟨rfl, rfl, (by decide : 8 + 3 ≤ _), (by decide : 65 + 16 ≤ _)⟩)
      dsimp only [Pt.U, Pt.locs, Pt.cells, Pt.slots] at X40 l40 y40 z40 st40 hQ40
      have X40 := own_un X40 l40 y40 z40
      obtain ⟨z_40, t1_40, kt_40, rfl, N40q, K40, E_z_c40, F_v_z_c40, F_c_z_c40, V_t_c40⟩ := hQ40
      have N40 := Fr.app N39 N40q
      have R := CHr.keep K40 all0 C.1
      have C := C.trans R
      have hk := Nat.le_trans hk K40.1
      have EX18 := EX18.keep K40
      have V_b18 := V_b18.keep K40 nin0
      have V_b22 := V_b22.keep K40 nin0
      have A35 := A35.keep K40
      have F_v_a_c36 := F_v_a_c36.keep K40 nin0
      have F_c_a_c36 := F_c_a_c36.keep K40 nin0
      have V_t1_c36 := V_t1_c36.keep K40 nin0
      have A37 := A37.keep K40
      have F_t_a_c39 := F_t_a_c39.keep K40 nin0
      have F_b_a_c39 := F_b_a_c39.keep K40 nin0
      have E_u8 := E_u8.keep K40
      have O := O.keep K40 all0
      have V_t_c40 : Arv Z T40.heap t1_40 kt_40 .byte (6 : Int32) [(.int (own_lo (i1 &&& (127 : Int32)))), (.int (own_hi (i1 &&& (127 : Int32)))), .int (own_lo cp), .int (own_hi cp), (.int (own_lo (65533 : Int32))), (.int (own_hi (65533 : Int32)))] (.int 0) := by
        have q : Arv Z T40.heap t1_40 kt_40 .byte (6 : Int32) [(.int (own_lo ((i1 &&& (127 : Int32)) &&& (255 : Int32)))), (.int (own_hi ((i1 &&& (127 : Int32)) &&& (255 : Int32)))), (.int (own_lo (cp &&& (255 : Int32)))), (.int (own_hi (cp &&& (255 : Int32)))), (.int (own_lo (65533 : Int32))), (.int (own_hi (65533 : Int32)))] (.int 0) := V_t_c40
        rw [hP.2.2.2.2.1, hC.2.2.2.2.1] at q
        exact q
      obtain ⟨cq41, kq41, q41a, q41b, q41c⟩ := isOf hZ rfl A35
      obtain ⟨v41, _, ⟨T41, L41, k41, n41⟩, -, X41, ⟨Lc41, hQ41, l41, y41, z41⟩, st41⟩ := X40.virtualBack hx (y := (⟨"java/lang/String", "equals", "(Ljava/lang/Object;)Z"⟩ : MethodName)) (z := (⟨"java/lang/String", "equals", "(Ljava/lang/Object;)Z"⟩ : MethodName)) hown (mvT hZ (W 86 rfl)) (mvT hZ (W 87 rfl)) (notFace_of_selects (args := #[]) (mvT hZ (W 89 rfl))) (mvT hZ (W 89 rfl)) (mvT hZ (W 88 rfl)) (by decide) (StrChars.Road.eqW (W := 0) hZ (own_wEq hw) (kI := 4) (W 6 rfl) A35 F_v_a_c36 F_c_a_c36 V_t1_c36 (own_c3 (Or.inr (Or.inr (by decide)))) (own_h3 (P := fun w => ¬ w < 0 ∧ ¬ (65535 : Int32) < w) ⟨hP.2.2.1, hP.2.2.2.2.2.2⟩ (by rw [← hK]; exact own_kr cp) (by decide)) (Nat.le_of_ble_eq_true rfl) E_z_c40 F_v_z_c40 F_c_z_c40 V_t_c40 (own_c3 (Or.inr (Or.inr (by decide)))) (own_h3 (P := fun w => ¬ w < 0 ∧ ¬ (65535 : Int32) < w) ⟨hP.2.2.1, hP.2.2.2.2.2.2⟩ (by rw [← hK]; exact own_kr cp) (by decide)) (Nat.le_of_ble_eq_true rfl) (SC.ext O.2) hzc (by decide) (by decide)) q41a q41c (g := (mkF m 447 (own_F26 i1 i2 i3 (i1 &&& (127 : Int32)) cp bt tb tc (1 : Int32) b18 b22 b35 b37 z_40) [.ref z_40, .ref b35])) rfl (by rw [hml]; rfl) (Steps.refl _) (argsL := [.ref z_40]) (rest := []) (lenOf pd31 rfl) rfl (by show 2 * 0 + _ ≤ _; exact Nat.le_of_eq rfl) (hb hby at_447) (fun _ _ => ⟨rfl, rfl, (by decide : 11 + 0 ≤ _), (by decide : 81 + 0 ≤ _)⟩)
      dsimp only [Pt.U, Pt.locs, Pt.cells, Pt.slots] at X41 l41 y41 z41 st41 hQ41
      have X41 := own_un X41 l41 y41 z41
      obtain ⟨hv41, rfl, eh41⟩ := hQ41
      obtain rfl : v41 = some (.int (own_eqs ([(i1 &&& (127 : Int32)), cp, (65533 : Int32)] : List Int32) ([(i1 &&& (127 : Int32)), cp, (65533 : Int32)] : List Int32))) := by rcases hv41 with ⟨h1, h2⟩ | ⟨h1, h2⟩ <;> first | exact absurd rfl h2 | (rw [h1]; simp only [own_eqs, if_true])
      have N41 := Fr.app N40 (Fr.nil n0)
      have w42 : ∀ t, Steps p.tables e below (T41.setTop (mkF m 450 (own_F26 i1 i2 i3 (i1 &&& (127 : Int32)) cp bt tb tc (1 : Int32) b18 b22 b35 b37 z_40) [(.int (own_eqs ([(i1 &&& (127 : Int32)), cp, (65533 : Int32)] : List Int32) ([(i1 &&& (127 : Int32)), cp, (65533 : Int32)] : List Int32)))])) t → Steps p.tables e below (s₁.setTop (entryFrame m #[.int i1, .int i2, .int i3] maxLocals)) t := fun t k => by
        refine w26 t ?_
        refine st35 _ <| zdu X35 Hb at_415 rfl <| zaL X35 Hb at_416 rfl rfl <| st36 _ <| zaS X36 Hb (L' := (own_F24 i1 i2 i3 (i1 &&& (127 : Int32)) cp bt tb tc (1 : Int32) b18 b22 b35)) at_421 rfl rfl <| st37 _ <| zdu X37 Hb at_426 rfl <| st38 _ ?_
        refine zaL X38 Hb at_429 rfl rfl <| st39 _ <| zaS X39 Hb (L' := (own_F25 i1 i2 i3 (i1 &&& (127 : Int32)) cp bt tb tc (1 : Int32) b18 b22 b35 b37)) at_434 rfl rfl <| zaL X39 Hb at_436 rfl rfl <| st40.trans <| zaS X40 Hb (L' := (own_F26 i1 i2 i3 (i1 &&& (127 : Int32)) cp bt tb tc (1 : Int32) b18 b22 b35 b37 z_40)) at_441 rfl rfl <| zaL X40 Hb at_443 rfl rfl <| zaL X40 Hb at_445 rfl rfl ?_
        refine st41.trans ?_
        exact k
      obtain ⟨fs, hr, hrun, hended, hE⟩ := Stand.leaveW (s := s) (vm₁ := T38.vm) X41 hS (by rw [eh41]; exact hk) (v := some (.int ((own_eqs ([(i1 &&& (127 : Int32)), cp, (65533 : Int32)] : List Int32) ([(i1 &&& (127 : Int32)), cp, (65533 : Int32)] : List Int32)) &&& 1))) (fun h => by rw [Bd.returns] at h; cases h)
      refine ⟨_, _, w42 _ ?_, hrun, hended, _, _, rfl, ?_, ?_, own_mono hE (by decide) (by decide)⟩
      · exact retN X41 hx (t := .boolean) Bd.returns (by simp) (hb hby at_450) hr
      · show Q0 Z i1 i2 i3 zc fm u8  h0 n0 _ T41.heap _
        rw [eh41]
        exact ⟨(own_r1 _), N41⟩
      · rw [hh]; show CHr Z consts_1 s.vm h0 T41.vm T41.heap; rw [eh41]; exact C.trans (CHv.at X41 hZ hEL C.1)
  · have w43 : ∀ t, Steps p.tables e below (s₁.setTop (mkF m 109 (own_F20 i1 i2 i3 (i1 &&& (127 : Int32)) cp bt tb tc) [.int 2048, .int cp])) t → Steps p.tables e below (s₁.setTop (entryFrame m #[.int i1, .int i2, .int i3] maxLocals)) t := fun t k => by
      refine w16 t ?_
      refine zcy X0 Hb at_95 (flt hc95_17).2.1 104 (by decide) rfl <| ziL X0 Hb at_104 rfl <| zsp X0 Hb at_106 2048 rfl ?_
      exact k
    by_cases hc109_44 : cp < (2048 : Int32)
    · obtain ⟨T45, h45, k45, X45, e45, E45, A45, EX45, st45⟩ := newPE X0 hx hZ (W 3 rfl) e0 (g := (mkF m 138 (own_F21 i1 i2 i3 (i1 &&& (127 : Int32)) cp bt tb tc (2 : Int32)) [.int 4])) rfl (hb hby at_138) rfl (by decide) (cap := 4) (by decide) (by decide) (by decide) (by decide) (ad := "[B") (by decide)
      obtain ⟨b45, gq45⟩ : ∃ z, z = Array.size h0 := ⟨_, rfl⟩
      rw [← gq45] at A45 EX45 st45
      have g_b45 : n0 ≤ b45 := Nat.le_trans (O.1 ▸ O.2.1) (Nat.le_of_eq gq45.symm)
      have R := CHr.ext E45 C.1
      have C := C.trans R
      have hk := Nat.le_trans hk E45.1
      have O := O.ext E45
      have V_b45 : Arv Z h45 b45 k45 .byte (4 : Int32) [.int 0, .int 0, .int 0, .int 0] (.int 0) := (Arv.new A45 (by decide)).pad (pad_rep [] (.int 0) 4)
      obtain ⟨T46, h46, X46, e46, W46, V_b45, st46⟩ := own_sB X45 Hb hZ e45 V_b45 (j := 0) (x := ((i1 &&& (127 : Int32)).toInt8.toInt32)) (L := (own_F22 i1 i2 i3 (i1 &&& (127 : Int32)) cp bt tb tc (2 : Int32) b45)) (S := []) (vs' := [(.int (((i1 &&& (127 : Int32)).toInt8.toInt32).toInt8.toInt32)), .int 0, .int 0, .int 0]) ⟨by decide, by decide⟩ rfl (Nat.le_of_ble_eq_true rfl) at_147 rfl
      have R := CHr.wr W46 own_sf0 C.1
      have C := C.trans R
      have hk := (by rw [W46.size]; exact hk : _ ≤ Array.size h46)
      have EX45 := EX45.wr W46
      have O := O.wr W46 g_b45
      have N46 := Fr.snoc X46 N0 g_b45
      obtain ⟨T47, h47, X47, e47, W47, V_b45, st47⟩ := own_sB X46 Hb hZ e46 V_b45 (j := 1) (x := (((192 : Int32) ||| (cp >>> ((6 : Int32) &&& 31))).toInt8.toInt32)) (L := (own_F22 i1 i2 i3 (i1 &&& (127 : Int32)) cp bt tb tc (2 : Int32) b45)) (S := []) (vs' := [(.int (((i1 &&& (127 : Int32)).toInt8.toInt32).toInt8.toInt32)), (.int ((((192 : Int32) ||| (cp >>> ((6 : Int32) &&& 31))).toInt8.toInt32).toInt8.toInt32)), .int 0, .int 0]) ⟨by decide, by decide⟩ rfl (Nat.le_of_ble_eq_true rfl) at_183 rfl
      have R := CHr.wr W47 own_sf0 C.1
      have C := C.trans R
      have hk := (by rw [W47.size]; exact hk : _ ≤ Array.size h47)
      have EX45 := EX45.wr W47
      have O := O.wr W47 g_b45
      have N47 := Fr.snoc X47 N46 g_b45
      obtain ⟨T48, h48, X48, e48, W48, V_b45, st48⟩ := own_sB X47 Hb hZ e47 V_b45 (j := 2) (x := (((128 : Int32) ||| (cp &&& (63 : Int32))).toInt8.toInt32)) (L := (own_F22 i1 i2 i3 (i1 &&& (127 : Int32)) cp bt tb tc (2 : Int32) b45)) (S := []) (vs' := [(.int (((i1 &&& (127 : Int32)).toInt8.toInt32).toInt8.toInt32)), (.int ((((192 : Int32) ||| (cp >>> ((6 : Int32) &&& 31))).toInt8.toInt32).toInt8.toInt32)), (.int ((((128 : Int32) ||| (cp &&& (63 : Int32))).toInt8.toInt32).toInt8.toInt32)), .int 0]) ⟨by decide, by decide⟩ rfl (Nat.le_of_ble_eq_true rfl) at_197 rfl
      have R := CHr.wr W48 own_sf0 C.1
      have C := C.trans R
      have hk := (by rw [W48.size]; exact hk : _ ≤ Array.size h48)
      have EX45 := EX45.wr W48
      have O := O.wr W48 g_b45
      have N48 := Fr.snoc X48 N47 g_b45
      obtain ⟨T49, h49, X49, e49, W49, V_b45, st49⟩ := own_sB X48 Hb hZ e48 V_b45 (j := 3) (x := (tb.toInt8.toInt32)) (L := (own_F22 i1 i2 i3 (i1 &&& (127 : Int32)) cp bt tb tc (2 : Int32) b45)) (S := []) (vs' := [(.int (((i1 &&& (127 : Int32)).toInt8.toInt32).toInt8.toInt32)), (.int ((((192 : Int32) ||| (cp >>> ((6 : Int32) &&& 31))).toInt8.toInt32).toInt8.toInt32)), (.int ((((128 : Int32) ||| (cp &&& (63 : Int32))).toInt8.toInt32).toInt8.toInt32)), (.int ((tb.toInt8.toInt32).toInt8.toInt32))]) ⟨by decide, by decide⟩ rfl (Nat.le_of_ble_eq_true rfl) at_326 rfl
      have R := CHr.wr W49 own_sf0 C.1
      have C := C.trans R
      have hk := (by rw [W49.size]; exact hk : _ ≤ Array.size h49)
      have EX45 := EX45.wr W49
      have O := O.wr W49 g_b45
      have N49 := Fr.snoc X49 N48 g_b45
      obtain ⟨T50, h50, k50, X50, e50, E50, A50, st50⟩ := newP X49 hx hZ (W 4 rfl) e49 (g := (mkF m 334 (own_F22 i1 i2 i3 (i1 &&& (127 : Int32)) cp bt tb tc (2 : Int32) b45) [.int 3])) rfl (hb hby at_334) rfl (by decide) (cap := 3) (by decide) (by decide) (by decide) (by decide)
      obtain ⟨b50, gq50⟩ : ∃ z, z = Array.size h49 := ⟨_, rfl⟩
      rw [← gq50] at A50 st50
      have ne_b45_b50 : b45 ≠ b50 := Nat.ne_of_lt (Nat.lt_of_lt_of_le EX45.lt (Nat.le_of_eq gq50.symm))
      have g_b50 : n0 ≤ b50 := Nat.le_trans (O.1 ▸ O.2.1) (Nat.le_of_eq gq50.symm)
      have R := CHr.ext E50 C.1
      have C := C.trans R
      have hk := Nat.le_trans hk E50.1
      have EX45 := EX45.ext E50
      have V_b45 := V_b45.ext E50
      have O := O.ext E50
      have V_b50 : Arv Z h50 b50 k50 .char (3 : Int32) [.int 0, .int 0, .int 0] (.int 0) := (Arv.new A50 (by decide)).pad (pad_rep [] (.int 0) 3)
      obtain ⟨T51, h51, X51, e51, W51, V_b50, st51⟩ := own_sC X50 Hb hZ e50 V_b50 (j := 0) (x := ((i1 &&& (127 : Int32)).toUInt32.toUInt16.toUInt32.toInt32)) (L := (own_F22 i1 i2 i3 (i1 &&& (127 : Int32)) cp bt tb tc (2 : Int32) b45)) (S := [.ref b50]) (vs' := [(.int (((i1 &&& (127 : Int32)).toUInt32.toUInt16.toUInt32.toInt32).toUInt32.toUInt16.toUInt32.toInt32)), .int 0, .int 0]) ⟨by decide, by decide⟩ rfl (Nat.le_of_ble_eq_true rfl) at_340 rfl
      have R := CHr.wr W51 own_sf0 C.1
      have C := C.trans R
      have hk := (by rw [W51.size]; exact hk : _ ≤ Array.size h51)
      have EX45 := EX45.wr W51
      have V_b45 := V_b45.other W51 ne_b45_b50
      have O := O.wr W51 g_b50
      have N51 := Fr.snoc X51 N49 g_b50
      obtain ⟨T52, h52, X52, e52, W52, V_b50, st52⟩ := own_sC X51 Hb hZ e51 V_b50 (j := 1) (x := (cp.toUInt32.toUInt16.toUInt32.toInt32)) (L := (own_F22 i1 i2 i3 (i1 &&& (127 : Int32)) cp bt tb tc (2 : Int32) b45)) (S := [.ref b50]) (vs' := [(.int (((i1 &&& (127 : Int32)).toUInt32.toUInt16.toUInt32.toInt32).toUInt32.toUInt16.toUInt32.toInt32)), (.int ((cp.toUInt32.toUInt16.toUInt32.toInt32).toUInt32.toUInt16.toUInt32.toInt32)), .int 0]) ⟨by decide, by decide⟩ rfl (Nat.le_of_ble_eq_true rfl) at_346 rfl
      have R := CHr.wr W52 own_sf0 C.1
      have C := C.trans R
      have hk := (by rw [W52.size]; exact hk : _ ≤ Array.size h52)
      have EX45 := EX45.wr W52
      have V_b45 := V_b45.other W52 ne_b45_b50
      have O := O.wr W52 g_b50
      have N52 := Fr.snoc X52 N51 g_b50
      obtain ⟨T53, h53, X53, e53, W53, V_b50, st53⟩ := own_sC X52 Hb hZ e52 V_b50 (j := 2) (x := tc) (L := (own_F22 i1 i2 i3 (i1 &&& (127 : Int32)) cp bt tb tc (2 : Int32) b45)) (S := [.ref b50]) (vs' := [(.int (((i1 &&& (127 : Int32)).toUInt32.toUInt16.toUInt32.toInt32).toUInt32.toUInt16.toUInt32.toInt32)), (.int ((cp.toUInt32.toUInt16.toUInt32.toInt32).toUInt32.toUInt16.toUInt32.toInt32)), .int (tc.toUInt32.toUInt16.toUInt32.toInt32)]) ⟨by decide, by decide⟩ rfl (Nat.le_of_ble_eq_true rfl) at_351 rfl
      have R := CHr.wr W53 own_sf0 C.1
      have C := C.trans R
      have hk := (by rw [W53.size]; exact hk : _ ≤ Array.size h53)
      have EX45 := EX45.wr W53
      have V_b45 := V_b45.other W53 ne_b45_b50
      have O := O.wr W53 g_b50
      have N53 := Fr.snoc X53 N52 g_b50
      have w54 : ∀ t, Steps p.tables e below (T53.setTop (mkF m 412 (own_F23 i1 i2 i3 (i1 &&& (127 : Int32)) cp bt tb tc (2 : Int32) b45 b50) [])) t → Steps p.tables e below (s₁.setTop (entryFrame m #[.int i1, .int i2, .int i3] maxLocals)) t := fun t k => by
        refine w43 t ?_
        refine zcn X0 Hb at_109 (tlt hc109_44).2.1 <| zic X0 Hb at_112 2 rfl <| ziS X0 Hb (L' := (own_F21 i1 i2 i3 (i1 &&& (127 : Int32)) cp bt tb tc (2 : Int32))) at_113 rfl <| zgo X0 Hb at_115 134 (by decide) rfl <| zic X0 Hb at_134 2 rfl <| ziL X0 Hb at_135 rfl <| zia' X0 Hb at_137 4 rfl <| st45 _ ?_
        refine zaS X45 Hb (L' := (own_F22 i1 i2 i3 (i1 &&& (127 : Int32)) cp bt tb tc (2 : Int32) b45)) at_140 rfl rfl <| zaL X45 Hb at_142 rfl rfl <| zic X45 Hb at_144 0 rfl <| zil X45 Hb at_145 rfl <| zib X45 Hb at_146 <| st46 _ <| ziL X46 Hb at_148 rfl <| zic X46 Hb at_150 1 rfl ?_
        refine zcy X46 Hb at_151 (feq ((by decide) : ¬ ((2 : Int32) = (1 : Int32)))).2 164 (by decide) rfl <| ziL X46 Hb at_164 rfl <| zic X46 Hb at_166 2 rfl <| zcn X46 Hb at_167 (teq (rfl : (2 : Int32) = (2 : Int32))).2 <| zaL X46 Hb at_170 rfl rfl <| zic X46 Hb at_172 1 rfl <| zsp X46 Hb at_173 192 rfl <| ziL X46 Hb at_176 rfl ?_
        refine zbp X46 Hb at_178 6 rfl <| zsr X46 Hb at_180 <| zor X46 Hb at_181 <| zib X46 Hb at_182 <| st47 _ <| zaL X47 Hb at_184 rfl rfl <| zic X47 Hb at_186 2 rfl <| zsp X47 Hb at_187 128 rfl ?_
        refine ziL X47 Hb at_190 rfl <| zbp X47 Hb at_192 63 rfl <| zan X47 Hb at_194 <| zor X47 Hb at_195 <| zib X47 Hb at_196 <| st48 _ <| zgo X48 Hb at_198 317 (by decide) rfl <| zaL X48 Hb at_317 rfl rfl ?_
        refine zic X48 Hb at_319 1 rfl <| ziL X48 Hb at_320 rfl <| zia' X48 Hb at_322 3 rfl <| ziL X48 Hb at_323 rfl <| zib X48 Hb at_325 <| st49 _ <| ziL X49 Hb at_327 rfl <| zic X49 Hb at_329 4 rfl ?_
        refine zcn X49 Hb at_330 (tlt ((by decide) : (2 : Int32) < (4 : Int32))).2.1 <| zic X49 Hb at_333 3 rfl <| st50 _ <| zdu X50 Hb at_336 rfl <| zic X50 Hb at_337 0 rfl <| zil X50 Hb at_338 rfl <| zik X50 Hb at_339 <| st51 _ ?_
        refine zdu X51 Hb at_341 rfl <| zic X51 Hb at_342 1 rfl <| ziL X51 Hb at_343 rfl <| zik X51 Hb at_345 <| st52 _ <| zdu X52 Hb at_347 rfl <| zic X52 Hb at_348 2 rfl <| ziL X52 Hb at_349 rfl ?_
        refine st53 _ <| zaS X53 Hb (L' := (own_F23 i1 i2 i3 (i1 &&& (127 : Int32)) cp bt tb tc (2 : Int32) b45 b50)) at_352 rfl rfl <| zgo X53 Hb at_354 412 (by decide) rfl ?_
        exact k
      have hc95 := hc95_17
      have hc109 := hc109_44
      by_cases hl256 : cp < (256 : Int32)
      · by_cases hbt0 : bt = (0 : Int32)
        · have hP := own_s7 i1
          have hT := own_s7 i3
          have etb : tb = (i3 &&& (127 : Int32)) := by rw [htb, if_pos hbt0]
          have etc : tc = own_k (i3 &&& (127 : Int32)) := by rw [htc, if_pos hbt0]; rfl
          have V_b45 : Arv Z h53 b45 k45 .byte (4 : Int32) [(.int (i1 &&& (127 : Int32))), .int (own_2a cp), .int (own_t0 cp), (.int (i3 &&& (127 : Int32)))] (.int 0) := by
            have q : Arv Z h53 b45 k45 .byte (4 : Int32) [(.int (own_b (i1 &&& (127 : Int32)))), .int (own_2a cp), .int (own_t0 cp), .int (own_b tb)] (.int 0) := V_b45
            rw [hP.2.1, etb, hT.2.1] at q
            exact q
          have hK : own_k cp = cp := own_k1 hR.1 (by have := own_lt1 hc109; have e1 : (65536 : Int32).toInt = 65536 := rfl; have e2 : (2048 : Int32).toInt = 2048 := rfl; have e3 : (128 : Int32).toInt = 128 := rfl; omega)
          have V_b50 : Arv Z h53 b50 k50 .char (3 : Int32) [(.int (i1 &&& (127 : Int32))), .int cp, (.int (i3 &&& (127 : Int32)))] (.int 0) := by
            have q : Arv Z h53 b50 k50 .char (3 : Int32) [(.int (own_k (own_k (i1 &&& (127 : Int32))))), (.int (own_k (own_k cp))), .int (own_k tc)] (.int 0) := V_b50
            rw [hP.1, hP.1, hK, hK, etc, hT.1, hT.1] at q
            exact q
          have hr1 : 128 ≤ cp.toInt ∧ cp.toInt < 256 := by have h0 := hR.1; have h9 := hR.2.1; have q0 := own_lt0 hc95; have q1 := own_lt1 hl256; have e1 : (65536 : Int32).toInt = 65536 := rfl; have e2 : (2048 : Int32).toInt = 2048 := rfl; have e3 : (128 : Int32).toInt = 128 := rfl; have e4 : (256 : Int32).toInt = 256 := rfl; have e5 : (255 : Int32).toInt = 255 := rfl; have e6 : (1114112 : Int32).toInt = 1114112 := rfl; have e7 : (55296 : Int32).toInt = 55296 := rfl; have e8 : (57344 : Int32).toInt = 57344 := rfl; omega
          have hn5 : ¬ (255 : Int32) < cp := by rw [Int32.lt_iff_toInt_lt]; have := hr1.2; have e1 : (65536 : Int32).toInt = 65536 := rfl; have e2 : (2048 : Int32).toInt = 2048 := rfl; have e3 : (128 : Int32).toInt = 128 := rfl; have e4 : (256 : Int32).toInt = 256 := rfl; have e5 : (255 : Int32).toInt = 255 := rfl; have e6 : (1114112 : Int32).toInt = 1114112 := rfl; have e7 : (55296 : Int32).toInt = 55296 := rfl; have e8 : (57344 : Int32).toInt = 57344 := rfl; omega
          have hz5 : ¬ cp < 0 := own_ltN (by have := hr1.1; show (0 : Int) ≤ cp.toInt; omega)
          have hp := own_p2 cp (by have := hr1.1; omega) (by have := hr1.2; omega)
          obtain ⟨T55, h55, X55, e55, E55, A55, D55, -, st55⟩ := newO X53 hx hZ hown (W 5 rfl) (W 6 rfl) (W 7 rfl) e53 (g := (mkF m 412 (own_F23 i1 i2 i3 (i1 &&& (127 : Int32)) cp bt tb tc (2 : Int32) b45 b50) [])) rfl (hb hby at_412) (by decide) (by decide)
          obtain ⟨b55, gq55⟩ : ∃ z, z = Array.size h53 := ⟨_, rfl⟩
          rw [← gq55] at A55 D55 st55
          have ne_b45_b55 : b45 ≠ b55 := Nat.ne_of_lt (Nat.lt_of_lt_of_le EX45.lt (Nat.le_of_eq gq55.symm))
          have ne_b50_b55 : b50 ≠ b55 := Nat.ne_of_lt (Nat.lt_of_lt_of_le V_b50.lt (Nat.le_of_eq gq55.symm))
          have g_b55 : n0 ≤ b55 := Nat.le_trans (O.1 ▸ O.2.1) (Nat.le_of_eq gq55.symm)
          have R := CHr.ext E55 C.1
          have C := C.trans R
          have hk := Nat.le_trans hk E55.1
          have EX45 := EX45.ext E55
          have V_b45 := V_b45.ext E55
          have V_b50 := V_b50.ext E55
          have O := O.ext E55
          have F_coder_b55 : Fld Z h55 b55 "java/lang/String" "coder" "B" (.int 0) := D55 (Or.inr (W 30 rfl)) (ty := .byte) (by decide)
          have F_value_b55 : Fld Z h55 b55 "java/lang/String" "value" "[B" .null := D55 (Or.inr (W 32 rfl)) (ty := (.array .byte)) (by decide)
          obtain ⟨_, T56, Lc56, X56, hQ56, st56⟩ := own_cI X55 Hb hZ hown hml (L := (own_F23 i1 i2 i3 (i1 &&& (127 : Int32)) cp bt tb tc (2 : Int32) b45 b50)) rfl (rm1_3_3 hw b55 b50 k50 (i1 &&& (127 : Int32)) cp (i3 &&& (127 : Int32)) O SU A55 F_value_b55 F_coder_b55 V_b50 hP.2.2.2.1 hn5 hT.2.2.2.1 g_b55) (W 8 rfl) (W 9 rfl) (W 7 rfl) (W 10 rfl) pd28 e55 at_418 b55 [.ref b50] [.ref b55] rfl rfl (by decide) 1 rfl (by decide)
          obtain ⟨t1_56, kb_56, rfl, N56q, K56, F_v_a_c56, F_c_a_c56, V_t1_c56⟩ := hQ56
          have N56 := Fr.app N53 N56q
          have R := CHr.keep K56 (allS own_sf0 all0) C.1
          have C := C.trans R
          have hk := Nat.le_trans hk K56.1
          have EX45 := EX45.keep K56
          have V_b45 := V_b45.keep K56 (ninS ne_b45_b55 nin0)
          have V_b50 := V_b50.keep K56 (ninS ne_b50_b55 nin0)
          have A55 := A55.keep K56
          have O := O.keep K56 (allS g_b55 all0)
          obtain ⟨T57, h57, X57, e57, E57, A57, D57, -, st57⟩ := newO X56 hx hZ hown (W 33 rfl) (W 34 rfl) (W 35 rfl) rfl (g := (mkF m 423 (own_F24 i1 i2 i3 (i1 &&& (127 : Int32)) cp bt tb tc (2 : Int32) b45 b50 b55) [])) rfl (hb hby at_423) (by decide) (by decide)
          obtain ⟨b57, gq57⟩ : ∃ z, z = Array.size T56.heap := ⟨_, rfl⟩
          rw [← gq57] at A57 D57 st57
          have ne_b45_b57 : b45 ≠ b57 := Nat.ne_of_lt (Nat.lt_of_lt_of_le EX45.lt (Nat.le_of_eq gq57.symm))
          have ne_b50_b57 : b50 ≠ b57 := Nat.ne_of_lt (Nat.lt_of_lt_of_le V_b50.lt (Nat.le_of_eq gq57.symm))
          have ne_b55_b57 : b55 ≠ b57 := Nat.ne_of_lt (Nat.lt_of_lt_of_le A55.lt (Nat.le_of_eq gq57.symm))
          have ne_t1_56_b57 : t1_56 ≠ b57 := Nat.ne_of_lt (Nat.lt_of_lt_of_le V_t1_c56.lt (Nat.le_of_eq gq57.symm))
          have g_b57 : n0 ≤ b57 := Nat.le_trans (O.1 ▸ O.2.1) (Nat.le_of_eq gq57.symm)
          have R := CHr.ext E57 C.1
          have C := C.trans R
          have hk := Nat.le_trans hk E57.1
          have EX45 := EX45.ext E57
          have V_b45 := V_b45.ext E57
          have V_b50 := V_b50.ext E57
          have A55 := A55.ext E57
          have F_v_a_c56 := F_v_a_c56.ext E57
          have F_c_a_c56 := F_c_a_c56.ext E57
          have V_t1_c56 := V_t1_c56.ext E57
          have O := O.ext E57
          have F_contentType_b57 : Fld Z h57 b57 "com/example/gradual_reply/gradualreply/EncodedBody" "contentType" "Ljava/lang/String;" .null := D57 (Or.inr (W 44 rfl)) (ty := (.object "java/lang/String")) (by decide)
          have F_bytes_b57 : Fld Z h57 b57 "com/example/gradual_reply/gradualreply/EncodedBody" "bytes" "[B" .null := D57 (Or.inr (W 46 rfl)) (ty := (.array .byte)) (by decide)
          obtain ⟨a58, T58, h58, kk58, X58, e58, E58, hS, hk', hZ, hown, R58, -, st58⟩ := ldcOH X57 hx hZ hown (W 36 rfl) hSA e57 hS hk hEL C.1 (g := (mkF m 427 (own_F24 i1 i2 i3 (i1 &&& (127 : Int32)) cp bt tb tc (2 : Int32) b45 b50 b55) [.ref b57, .ref b57])) rfl (hb hby at_427) (n := 40) (by decide +kernel) (by decide) (by decide) (by decide)
          have R := R58
          have C := C.trans R
          have hk := hk'
          have EX45 := EX45.ext E58
          have V_b45 := V_b45.ext E58
          have V_b50 := V_b50.ext E58
          have A55 := A55.ext E58
          have F_v_a_c56 := F_v_a_c56.ext E58
          have F_c_a_c56 := F_c_a_c56.ext E58
          have V_t1_c56 := V_t1_c56.ext E58
          have A57 := A57.ext E58
          have F_contentType_b57 := F_contentType_b57.ext E58
          have F_bytes_b57 := F_bytes_b57.ext E58
          have O := O.ext E58
          obtain ⟨_, T59, Lc59, X59, hQ59, st59⟩ := own_cI X58 Hb hZ hown hml (L := (own_F24 i1 i2 i3 (i1 &&& (127 : Int32)) cp bt tb tc (2 : Int32) b45 b50 b55)) rfl (rm7 hw b57 a58 b45 O A57 F_contentType_b57 F_bytes_b57 g_b57) (W 39 rfl) (W 40 rfl) (W 35 rfl) (W 41 rfl) pd29 e58 at_431 b57 [.ref a58, .ref b45] [.ref b57] rfl rfl (by decide) 1 rfl (by decide)
          obtain ⟨rfl, N59q, K59, F_t_a_c59, F_b_a_c59⟩ := hQ59
          have N59 := Fr.app N56 N59q
          have R := CHr.keep K59 (allS own_sf0 all0) C.1
          have C := C.trans R
          have hk := Nat.le_trans hk K59.1
          have EX45 := EX45.keep K59
          have V_b45 := V_b45.keep K59 (ninS ne_b45_b57 nin0)
          have V_b50 := V_b50.keep K59 (ninS ne_b50_b57 nin0)
          have A55 := A55.keep K59
          have F_v_a_c56 := F_v_a_c56.keep K59 (ninS ne_b55_b57 nin0)
          have F_c_a_c56 := F_c_a_c56.keep K59 (ninS ne_b55_b57 nin0)
          have V_t1_c56 := V_t1_c56.keep K59 (ninS ne_t1_56_b57 nin0)
          have A57 := A57.keep K59
          have O := O.keep K59 (allS g_b57 all0)
          have E_u8 := o_E_u8.ext O.2
          obtain ⟨cq60, kq60, q60a, q60b, q60c⟩ := isOf hZ rfl A57
          obtain ⟨_, _, ⟨T60, L60, k60, n60⟩, -, X60, ⟨Lc60, hQ60, l60, y60, z60⟩, st60⟩ := X59.virtualBack hx (y := own_n8) (z := own_n8) hown (mvT hZ (W 47 rfl)) (mvT hZ (W 48 rfl)) (notFace_of_selects (args := #[]) (mvT hZ (W 50 rfl))) (mvT hZ (W 50 rfl)) (mvT hZ (W 49 rfl)) (by decide) (own_bk (W := 0) (rm8_Cg hw b57 b45 k45 (i1 &&& (127 : Int32)) (own_2a cp) (own_t0 cp) (i3 &&& (127 : Int32)) cp O SU F_b_a_c59 V_b45 EX45 E_u8 hP.2.2.1 hp hl256 hT.2.2.1) hZ (W 51 rfl) (W 35 rfl) (by decide) (by decide)) q60a q60c (g := (mkF m 438 (own_F25 i1 i2 i3 (i1 &&& (127 : Int32)) cp bt tb tc (2 : Int32) b45 b50 b55 b57) [.ref b57])) rfl (by rw [hml]; rfl) (Steps.refl _) (argsL := []) (rest := []) (lenOf pd30 rfl) rfl (by show 2 * 0 + _ ≤ _; exact Nat.le_of_eq rfl) (hb hby at_438) (fun _ _ => ⟨rfl, rfl, (by decide : 7 + 3 ≤ _), (by decide : 60 + 13 ≤ _)⟩)
          dsimp only [Pt.U, Pt.locs, Pt.cells, Pt.slots] at X60 l60 y60 z60 st60 hQ60
          have X60 := own_un X60 l60 y60 z60
          obtain ⟨z_60, t1_60, kt_60, rfl, N60q, K60, E_z_c60, F_v_z_c60, F_c_z_c60, V_t_c60⟩ := hQ60
          have N60 := Fr.app N59 N60q
          have R := CHr.keep K60 all0 C.1
          have C := C.trans R
          have hk := Nat.le_trans hk K60.1
          have EX45 := EX45.keep K60
          have V_b45 := V_b45.keep K60 nin0
          have V_b50 := V_b50.keep K60 nin0
          have A55 := A55.keep K60
          have F_v_a_c56 := F_v_a_c56.keep K60 nin0
          have F_c_a_c56 := F_c_a_c56.keep K60 nin0
          have V_t1_c56 := V_t1_c56.keep K60 nin0
          have A57 := A57.keep K60
          have F_t_a_c59 := F_t_a_c59.keep K60 nin0
          have F_b_a_c59 := F_b_a_c59.keep K60 nin0
          have E_u8 := E_u8.keep K60
          have O := O.keep K60 all0
          obtain ⟨cq61, kq61, q61a, q61b, q61c⟩ := isOf hZ rfl A55
          obtain ⟨v61, _, ⟨T61, L61, k61, n61⟩, -, X61, ⟨Lc61, hQ61, l61, y61, z61⟩, st61⟩ := X60.virtualBack hx (y := (⟨"java/lang/String", "equals", "(Ljava/lang/Object;)Z"⟩ : MethodName)) (z := (⟨"java/lang/String", "equals", "(Ljava/lang/Object;)Z"⟩ : MethodName)) hown (mvT hZ (W 86 rfl)) (mvT hZ (W 87 rfl)) (notFace_of_selects (args := #[]) (mvT hZ (W 89 rfl))) (mvT hZ (W 89 rfl)) (mvT hZ (W 88 rfl)) (by decide) (StrChars.Road.eqW (W := 0) hZ (own_wEq hw) (kI := 4) (W 6 rfl) A55 F_v_a_c56 F_c_a_c56 V_t1_c56 (own_c0 (own_bb _) (own_bb _) (own_bb _) (own_h3 (P := fun w => ¬ w < 0 ∧ ¬ (255 : Int32) < w) ⟨hP.2.2.1, hP.2.2.2.1⟩ ⟨hz5, hn5⟩ ⟨hT.2.2.1, hT.2.2.2.1⟩)) (own_h3 (P := fun w => ¬ w < 0 ∧ ¬ (65535 : Int32) < w) ⟨hP.2.2.1, hP.2.2.2.2.2.2⟩ (by rw [← hK]; exact own_kr cp) ⟨hT.2.2.1, hT.2.2.2.2.2.2⟩) (Nat.le_of_ble_eq_true rfl) E_z_c60 F_v_z_c60 F_c_z_c60 V_t_c60 (own_c0 hP.2.2.2.2.2.1.symm (own_bb _) (own_bb _) (own_h3 (P := fun w => ¬ w < 0 ∧ ¬ (255 : Int32) < w) ⟨hP.2.2.1, hP.2.2.2.1⟩ ⟨hz5, hn5⟩ ⟨hT.2.2.1, hT.2.2.2.1⟩)) (own_h3 (P := fun w => ¬ w < 0 ∧ ¬ (65535 : Int32) < w) ⟨hP.2.2.1, hP.2.2.2.2.2.2⟩ (by rw [← hK]; exact own_kr cp) ⟨hT.2.2.1, hT.2.2.2.2.2.2⟩) (Nat.le_of_ble_eq_true rfl) (SC.ext O.2) hzc (by decide) (by decide)) q61a q61c (g := (mkF m 447 (own_F26 i1 i2 i3 (i1 &&& (127 : Int32)) cp bt tb tc (2 : Int32) b45 b50 b55 b57 z_60) [.ref z_60, .ref b55])) rfl (by rw [hml]; rfl) (Steps.refl _) (argsL := [.ref z_60]) (rest := []) (lenOf pd31 rfl) rfl (by show 2 * 0 + _ ≤ _; exact Nat.le_of_eq rfl) (hb hby at_447) (fun _ _ => ⟨rfl, rfl, (by decide : 10 + 0 ≤ _), (by decide : 73 + 0 ≤ _)⟩)
          dsimp only [Pt.U, Pt.locs, Pt.cells, Pt.slots] at X61 l61 y61 z61 st61 hQ61
          have X61 := own_un X61 l61 y61 z61
          obtain ⟨hv61, rfl, eh61⟩ := hQ61
          obtain rfl : v61 = some (.int (own_eqs ([(i1 &&& (127 : Int32)), cp, (i3 &&& (127 : Int32))] : List Int32) ([(i1 &&& (127 : Int32)), cp, (i3 &&& (127 : Int32))] : List Int32))) := by rcases hv61 with ⟨h1, h2⟩ | ⟨h1, h2⟩ <;> first | exact absurd rfl h2 | (rw [h1]; simp only [own_eqs, if_true])
          have N61 := Fr.app N60 (Fr.nil n0)
          have w62 : ∀ t, Steps p.tables e below (T61.setTop (mkF m 450 (own_F26 i1 i2 i3 (i1 &&& (127 : Int32)) cp bt tb tc (2 : Int32) b45 b50 b55 b57 z_60) [(.int (own_eqs ([(i1 &&& (127 : Int32)), cp, (i3 &&& (127 : Int32))] : List Int32) ([(i1 &&& (127 : Int32)), cp, (i3 &&& (127 : Int32))] : List Int32)))])) t → Steps p.tables e below (s₁.setTop (entryFrame m #[.int i1, .int i2, .int i3] maxLocals)) t := fun t k => by
            refine w54 t ?_
            refine st55 _ <| zdu X55 Hb at_415 rfl <| zaL X55 Hb at_416 rfl rfl <| st56 _ <| zaS X56 Hb (L' := (own_F24 i1 i2 i3 (i1 &&& (127 : Int32)) cp bt tb tc (2 : Int32) b45 b50 b55)) at_421 rfl rfl <| st57 _ <| zdu X57 Hb at_426 rfl <| st58 _ ?_
            refine zaL X58 Hb at_429 rfl rfl <| st59 _ <| zaS X59 Hb (L' := (own_F25 i1 i2 i3 (i1 &&& (127 : Int32)) cp bt tb tc (2 : Int32) b45 b50 b55 b57)) at_434 rfl rfl <| zaL X59 Hb at_436 rfl rfl <| st60.trans <| zaS X60 Hb (L' := (own_F26 i1 i2 i3 (i1 &&& (127 : Int32)) cp bt tb tc (2 : Int32) b45 b50 b55 b57 z_60)) at_441 rfl rfl <| zaL X60 Hb at_443 rfl rfl <| zaL X60 Hb at_445 rfl rfl ?_
            refine st61.trans ?_
            exact k
          obtain ⟨fs, hr, hrun, hended, hE⟩ := Stand.leaveW (s := s) (vm₁ := T58.vm) X61 hS (by rw [eh61]; exact hk) (v := some (.int ((own_eqs ([(i1 &&& (127 : Int32)), cp, (i3 &&& (127 : Int32))] : List Int32) ([(i1 &&& (127 : Int32)), cp, (i3 &&& (127 : Int32))] : List Int32)) &&& 1))) (fun h => by rw [Bd.returns] at h; cases h)
          refine ⟨_, _, w62 _ ?_, hrun, hended, _, _, rfl, ?_, ?_, own_mono hE (by decide) (by decide)⟩
          · exact retN X61 hx (t := .boolean) Bd.returns (by simp) (hb hby at_450) hr
          · show Q0 Z i1 i2 i3 zc fm u8  h0 n0 _ T61.heap _
            rw [eh61]
            exact ⟨(own_r1 _), N61⟩
          · rw [hh]; show CHr Z consts_1 s.vm h0 T61.vm T61.heap; rw [eh61]; exact C.trans (CHv.at X61 hZ hEL C.1)
        · have hP := own_s7 i1
          have etb : tb = ((128 : Int32) ||| (i3 &&& (127 : Int32))) := by rw [htb, if_neg hbt0]
          have etc : tc = (65533 : Int32) := by rw [htc, if_neg hbt0]
          have hT := own_tb i3
          have V_b45 : Arv Z h53 b45 k45 .byte (4 : Int32) [(.int (i1 &&& (127 : Int32))), .int (own_2a cp), .int (own_t0 cp), (.int (own_b ((128 : Int32) ||| (i3 &&& (127 : Int32)))))] (.int 0) := by
            have q : Arv Z h53 b45 k45 .byte (4 : Int32) [(.int (own_b (i1 &&& (127 : Int32)))), .int (own_2a cp), .int (own_t0 cp), .int (own_b tb)] (.int 0) := V_b45
            rw [hP.2.1, etb] at q
            exact q
          have hK : own_k cp = cp := own_k1 hR.1 (by have := own_lt1 hc109; have e1 : (65536 : Int32).toInt = 65536 := rfl; have e2 : (2048 : Int32).toInt = 2048 := rfl; have e3 : (128 : Int32).toInt = 128 := rfl; omega)
          have V_b50 : Arv Z h53 b50 k50 .char (3 : Int32) [(.int (i1 &&& (127 : Int32))), .int cp, .int 65533] (.int 0) := by
            have q : Arv Z h53 b50 k50 .char (3 : Int32) [(.int (own_k (own_k (i1 &&& (127 : Int32))))), (.int (own_k (own_k cp))), .int (own_k tc)] (.int 0) := V_b50
            rw [hP.1, hP.1, hK, hK, etc, (by decide : own_k (65533 : Int32) = (65533 : Int32))] at q
            exact q
          have hr1 : 128 ≤ cp.toInt ∧ cp.toInt < 256 := by have h0 := hR.1; have h9 := hR.2.1; have q0 := own_lt0 hc95; have q1 := own_lt1 hl256; have e1 : (65536 : Int32).toInt = 65536 := rfl; have e2 : (2048 : Int32).toInt = 2048 := rfl; have e3 : (128 : Int32).toInt = 128 := rfl; have e4 : (256 : Int32).toInt = 256 := rfl; have e5 : (255 : Int32).toInt = 255 := rfl; have e6 : (1114112 : Int32).toInt = 1114112 := rfl; have e7 : (55296 : Int32).toInt = 55296 := rfl; have e8 : (57344 : Int32).toInt = 57344 := rfl; omega
          have hn5 : ¬ (255 : Int32) < cp := by rw [Int32.lt_iff_toInt_lt]; have := hr1.2; have e1 : (65536 : Int32).toInt = 65536 := rfl; have e2 : (2048 : Int32).toInt = 2048 := rfl; have e3 : (128 : Int32).toInt = 128 := rfl; have e4 : (256 : Int32).toInt = 256 := rfl; have e5 : (255 : Int32).toInt = 255 := rfl; have e6 : (1114112 : Int32).toInt = 1114112 := rfl; have e7 : (55296 : Int32).toInt = 55296 := rfl; have e8 : (57344 : Int32).toInt = 57344 := rfl; omega
          have hz5 : ¬ cp < 0 := own_ltN (by have := hr1.1; show (0 : Int) ≤ cp.toInt; omega)
          have hp := own_p2 cp (by have := hr1.1; omega) (by have := hr1.2; omega)
          obtain ⟨T63, h63, X63, e63, E63, A63, D63, -, st63⟩ := newO X53 hx hZ hown (W 5 rfl) (W 6 rfl) (W 7 rfl) e53 (g := (mkF m 412 (own_F23 i1 i2 i3 (i1 &&& (127 : Int32)) cp bt tb tc (2 : Int32) b45 b50) [])) rfl (hb hby at_412) (by decide) (by decide)
          obtain ⟨b63, gq63⟩ : ∃ z, z = Array.size h53 := ⟨_, rfl⟩
          rw [← gq63] at A63 D63 st63
          have ne_b45_b63 : b45 ≠ b63 := Nat.ne_of_lt (Nat.lt_of_lt_of_le EX45.lt (Nat.le_of_eq gq63.symm))
          have ne_b50_b63 : b50 ≠ b63 := Nat.ne_of_lt (Nat.lt_of_lt_of_le V_b50.lt (Nat.le_of_eq gq63.symm))
          have g_b63 : n0 ≤ b63 := Nat.le_trans (O.1 ▸ O.2.1) (Nat.le_of_eq gq63.symm)
          have R := CHr.ext E63 C.1
          have C := C.trans R
          have hk := Nat.le_trans hk E63.1
          have EX45 := EX45.ext E63
          have V_b45 := V_b45.ext E63
          have V_b50 := V_b50.ext E63
          have O := O.ext E63
          have F_coder_b63 : Fld Z h63 b63 "java/lang/String" "coder" "B" (.int 0) := D63 (Or.inr (W 30 rfl)) (ty := .byte) (by decide)
          have F_value_b63 : Fld Z h63 b63 "java/lang/String" "value" "[B" .null := D63 (Or.inr (W 32 rfl)) (ty := (.array .byte)) (by decide)
          obtain ⟨_, T64, Lc64, X64, hQ64, st64⟩ := own_cI X63 Hb hZ hown hml (L := (own_F23 i1 i2 i3 (i1 &&& (127 : Int32)) cp bt tb tc (2 : Int32) b45 b50)) rfl (rm1_3_2 hw b63 b50 k50 (i1 &&& (127 : Int32)) cp (65533 : Int32) O SU A63 F_value_b63 F_coder_b63 V_b50 hP.2.2.2.1 hn5 (by decide) (by decide +kernel) g_b63) (W 8 rfl) (W 9 rfl) (W 7 rfl) (W 10 rfl) pd28 e63 at_418 b63 [.ref b50] [.ref b63] rfl rfl (by decide) 1 rfl (by decide)
          obtain ⟨t1_64, kb_64, rfl, N64q, K64, F_v_a_c64, F_c_a_c64, V_t1_c64⟩ := hQ64
          have N64 := Fr.app N53 N64q
          have R := CHr.keep K64 (allS own_sf0 all0) C.1
          have C := C.trans R
          have hk := Nat.le_trans hk K64.1
          have EX45 := EX45.keep K64
          have V_b45 := V_b45.keep K64 (ninS ne_b45_b63 nin0)
          have V_b50 := V_b50.keep K64 (ninS ne_b50_b63 nin0)
          have A63 := A63.keep K64
          have O := O.keep K64 (allS g_b63 all0)
          obtain ⟨T65, h65, X65, e65, E65, A65, D65, -, st65⟩ := newO X64 hx hZ hown (W 33 rfl) (W 34 rfl) (W 35 rfl) rfl (g := (mkF m 423 (own_F24 i1 i2 i3 (i1 &&& (127 : Int32)) cp bt tb tc (2 : Int32) b45 b50 b63) [])) rfl (hb hby at_423) (by decide) (by decide)
          obtain ⟨b65, gq65⟩ : ∃ z, z = Array.size T64.heap := ⟨_, rfl⟩
          rw [← gq65] at A65 D65 st65
          have ne_b45_b65 : b45 ≠ b65 := Nat.ne_of_lt (Nat.lt_of_lt_of_le EX45.lt (Nat.le_of_eq gq65.symm))
          have ne_b50_b65 : b50 ≠ b65 := Nat.ne_of_lt (Nat.lt_of_lt_of_le V_b50.lt (Nat.le_of_eq gq65.symm))
          have ne_b63_b65 : b63 ≠ b65 := Nat.ne_of_lt (Nat.lt_of_lt_of_le A63.lt (Nat.le_of_eq gq65.symm))
          have ne_t1_64_b65 : t1_64 ≠ b65 := Nat.ne_of_lt (Nat.lt_of_lt_of_le V_t1_c64.lt (Nat.le_of_eq gq65.symm))
          have g_b65 : n0 ≤ b65 := Nat.le_trans (O.1 ▸ O.2.1) (Nat.le_of_eq gq65.symm)
          have R := CHr.ext E65 C.1
          have C := C.trans R
          have hk := Nat.le_trans hk E65.1
          have EX45 := EX45.ext E65
          have V_b45 := V_b45.ext E65
          have V_b50 := V_b50.ext E65
          have A63 := A63.ext E65
          have F_v_a_c64 := F_v_a_c64.ext E65
          have F_c_a_c64 := F_c_a_c64.ext E65
          have V_t1_c64 := V_t1_c64.ext E65
          have O := O.ext E65
          have F_contentType_b65 : Fld Z h65 b65 "com/example/gradual_reply/gradualreply/EncodedBody" "contentType" "Ljava/lang/String;" .null := D65 (Or.inr (W 44 rfl)) (ty := (.object "java/lang/String")) (by decide)
          have F_bytes_b65 : Fld Z h65 b65 "com/example/gradual_reply/gradualreply/EncodedBody" "bytes" "[B" .null := D65 (Or.inr (W 46 rfl)) (ty := (.array .byte)) (by decide)
          obtain ⟨a66, T66, h66, kk66, X66, e66, E66, hS, hk', hZ, hown, R66, -, st66⟩ := ldcOH X65 hx hZ hown (W 36 rfl) hSA e65 hS hk hEL C.1 (g := (mkF m 427 (own_F24 i1 i2 i3 (i1 &&& (127 : Int32)) cp bt tb tc (2 : Int32) b45 b50 b63) [.ref b65, .ref b65])) rfl (hb hby at_427) (n := 40) (by decide +kernel) (by decide) (by decide) (by decide)
          have R := R66
          have C := C.trans R
          have hk := hk'
          have EX45 := EX45.ext E66
          have V_b45 := V_b45.ext E66
          have V_b50 := V_b50.ext E66
          have A63 := A63.ext E66
          have F_v_a_c64 := F_v_a_c64.ext E66
          have F_c_a_c64 := F_c_a_c64.ext E66
          have V_t1_c64 := V_t1_c64.ext E66
          have A65 := A65.ext E66
          have F_contentType_b65 := F_contentType_b65.ext E66
          have F_bytes_b65 := F_bytes_b65.ext E66
          have O := O.ext E66
          obtain ⟨_, T67, Lc67, X67, hQ67, st67⟩ := own_cI X66 Hb hZ hown hml (L := (own_F24 i1 i2 i3 (i1 &&& (127 : Int32)) cp bt tb tc (2 : Int32) b45 b50 b63)) rfl (rm7 hw b65 a66 b45 O A65 F_contentType_b65 F_bytes_b65 g_b65) (W 39 rfl) (W 40 rfl) (W 35 rfl) (W 41 rfl) pd29 e66 at_431 b65 [.ref a66, .ref b45] [.ref b65] rfl rfl (by decide) 1 rfl (by decide)
          obtain ⟨rfl, N67q, K67, F_t_a_c67, F_b_a_c67⟩ := hQ67
          have N67 := Fr.app N64 N67q
          have R := CHr.keep K67 (allS own_sf0 all0) C.1
          have C := C.trans R
          have hk := Nat.le_trans hk K67.1
          have EX45 := EX45.keep K67
          have V_b45 := V_b45.keep K67 (ninS ne_b45_b65 nin0)
          have V_b50 := V_b50.keep K67 (ninS ne_b50_b65 nin0)
          have A63 := A63.keep K67
          have F_v_a_c64 := F_v_a_c64.keep K67 (ninS ne_b63_b65 nin0)
          have F_c_a_c64 := F_c_a_c64.keep K67 (ninS ne_b63_b65 nin0)
          have V_t1_c64 := V_t1_c64.keep K67 (ninS ne_t1_64_b65 nin0)
          have A65 := A65.keep K67
          have O := O.keep K67 (allS g_b65 all0)
          have E_u8 := o_E_u8.ext O.2
          obtain ⟨cq68, kq68, q68a, q68b, q68c⟩ := isOf hZ rfl A65
          obtain ⟨_, _, ⟨T68, L68, k68, n68⟩, -, X68, ⟨Lc68, hQ68, l68, y68, z68⟩, st68⟩ := X67.virtualBack hx (y := own_n8) (z := own_n8) hown (mvT hZ (W 47 rfl)) (mvT hZ (W 48 rfl)) (notFace_of_selects (args := #[]) (mvT hZ (W 50 rfl))) (mvT hZ (W 50 rfl)) (mvT hZ (W 49 rfl)) (by decide) (own_bk (W := 0) (rm8_Cb hw b65 b45 k45 (i1 &&& (127 : Int32)) (own_2a cp) (own_t0 cp) (own_b ((128 : Int32) ||| (i3 &&& (127 : Int32)))) cp O SU F_b_a_c67 V_b45 EX45 E_u8 hP.2.2.1 hp hl256 hT) hZ (W 51 rfl) (W 35 rfl) (by decide) (by decide)) q68a q68c (g := (mkF m 438 (own_F25 i1 i2 i3 (i1 &&& (127 : Int32)) cp bt tb tc (2 : Int32) b45 b50 b63 b65) [.ref b65])) rfl (by rw [hml]; rfl) (Steps.refl _) (argsL := []) (rest := []) (lenOf pd30 rfl) rfl (by show 2 * 0 + _ ≤ _; exact Nat.le_of_eq rfl) (hb hby at_438) (fun _ _ => ⟨rfl, rfl, (by decide : 8 + 4 ≤ _), (by decide : 66 + 24 ≤ _)⟩)
          dsimp only [Pt.U, Pt.locs, Pt.cells, Pt.slots] at X68 l68 y68 z68 st68 hQ68
          have X68 := own_un X68 l68 y68 z68
          obtain ⟨z_68, t1_68, kt_68, rfl, N68q, K68, E_z_c68, F_v_z_c68, F_c_z_c68, V_t_c68⟩ := hQ68
          have N68 := Fr.app N67 N68q
          have R := CHr.keep K68 all0 C.1
          have C := C.trans R
          have hk := Nat.le_trans hk K68.1
          have EX45 := EX45.keep K68
          have V_b45 := V_b45.keep K68 nin0
          have V_b50 := V_b50.keep K68 nin0
          have A63 := A63.keep K68
          have F_v_a_c64 := F_v_a_c64.keep K68 nin0
          have F_c_a_c64 := F_c_a_c64.keep K68 nin0
          have V_t1_c64 := V_t1_c64.keep K68 nin0
          have A65 := A65.keep K68
          have F_t_a_c67 := F_t_a_c67.keep K68 nin0
          have F_b_a_c67 := F_b_a_c67.keep K68 nin0
          have E_u8 := E_u8.keep K68
          have O := O.keep K68 all0
          have V_t_c68 : Arv Z T68.heap t1_68 kt_68 .byte (6 : Int32) [(.int (own_lo (i1 &&& (127 : Int32)))), (.int (own_hi (i1 &&& (127 : Int32)))), .int (own_lo cp), .int (own_hi cp), (.int (own_lo (65533 : Int32))), (.int (own_hi (65533 : Int32)))] (.int 0) := by
            have q : Arv Z T68.heap t1_68 kt_68 .byte (6 : Int32) [(.int (own_lo ((i1 &&& (127 : Int32)) &&& (255 : Int32)))), (.int (own_hi ((i1 &&& (127 : Int32)) &&& (255 : Int32)))), (.int (own_lo ((own_b cp) &&& (255 : Int32)))), (.int (own_hi ((own_b cp) &&& (255 : Int32)))), (.int (own_lo (65533 : Int32))), (.int (own_hi (65533 : Int32)))] (.int 0) := V_t_c68
            rw [hP.2.2.2.2.1, own_l8 hR.1 hr1.2] at q
            exact q
          obtain ⟨cq69, kq69, q69a, q69b, q69c⟩ := isOf hZ rfl A63
          obtain ⟨v69, _, ⟨T69, L69, k69, n69⟩, -, X69, ⟨Lc69, hQ69, l69, y69, z69⟩, st69⟩ := X68.virtualBack hx (y := (⟨"java/lang/String", "equals", "(Ljava/lang/Object;)Z"⟩ : MethodName)) (z := (⟨"java/lang/String", "equals", "(Ljava/lang/Object;)Z"⟩ : MethodName)) hown (mvT hZ (W 86 rfl)) (mvT hZ (W 87 rfl)) (notFace_of_selects (args := #[]) (mvT hZ (W 89 rfl))) (mvT hZ (W 89 rfl)) (mvT hZ (W 88 rfl)) (by decide) (StrChars.Road.eqW (W := 0) hZ (own_wEq hw) (kI := 4) (W 6 rfl) A63 F_v_a_c64 F_c_a_c64 V_t1_c64 (own_c3 (Or.inr (Or.inr (by decide)))) (own_h3 (P := fun w => ¬ w < 0 ∧ ¬ (65535 : Int32) < w) ⟨hP.2.2.1, hP.2.2.2.2.2.2⟩ (by rw [← hK]; exact own_kr cp) (by decide)) (Nat.le_of_ble_eq_true rfl) E_z_c68 F_v_z_c68 F_c_z_c68 V_t_c68 (own_c3 (Or.inr (Or.inr (by decide)))) (own_h3 (P := fun w => ¬ w < 0 ∧ ¬ (65535 : Int32) < w) ⟨hP.2.2.1, hP.2.2.2.2.2.2⟩ (by rw [← hK]; exact own_kr cp) (by decide)) (Nat.le_of_ble_eq_true rfl) (SC.ext O.2) hzc (by decide) (by decide)) q69a q69c (g := (mkF m 447 (own_F26 i1 i2 i3 (i1 &&& (127 : Int32)) cp bt tb tc (2 : Int32) b45 b50 b63 b65 z_68) [.ref z_68, .ref b63])) rfl (by rw [hml]; rfl) (Steps.refl _) (argsL := [.ref z_68]) (rest := []) (lenOf pd31 rfl) rfl (by show 2 * 0 + _ ≤ _; exact Nat.le_of_eq rfl) (hb hby at_447) (fun _ _ => ⟨rfl, rfl, (by decide : 12 + 0 ≤ _), (by decide : 90 + 0 ≤ _)⟩)
          dsimp only [Pt.U, Pt.locs, Pt.cells, Pt.slots] at X69 l69 y69 z69 st69 hQ69
          have X69 := own_un X69 l69 y69 z69
          obtain ⟨hv69, rfl, eh69⟩ := hQ69
          obtain rfl : v69 = some (.int (own_eqs ([(i1 &&& (127 : Int32)), cp, (65533 : Int32)] : List Int32) ([(i1 &&& (127 : Int32)), cp, (65533 : Int32)] : List Int32))) := by rcases hv69 with ⟨h1, h2⟩ | ⟨h1, h2⟩ <;> first | exact absurd rfl h2 | (rw [h1]; simp only [own_eqs, if_true])
          have N69 := Fr.app N68 (Fr.nil n0)
          have w70 : ∀ t, Steps p.tables e below (T69.setTop (mkF m 450 (own_F26 i1 i2 i3 (i1 &&& (127 : Int32)) cp bt tb tc (2 : Int32) b45 b50 b63 b65 z_68) [(.int (own_eqs ([(i1 &&& (127 : Int32)), cp, (65533 : Int32)] : List Int32) ([(i1 &&& (127 : Int32)), cp, (65533 : Int32)] : List Int32)))])) t → Steps p.tables e below (s₁.setTop (entryFrame m #[.int i1, .int i2, .int i3] maxLocals)) t := fun t k => by
            refine w54 t ?_
            refine st63 _ <| zdu X63 Hb at_415 rfl <| zaL X63 Hb at_416 rfl rfl <| st64 _ <| zaS X64 Hb (L' := (own_F24 i1 i2 i3 (i1 &&& (127 : Int32)) cp bt tb tc (2 : Int32) b45 b50 b63)) at_421 rfl rfl <| st65 _ <| zdu X65 Hb at_426 rfl <| st66 _ ?_
            refine zaL X66 Hb at_429 rfl rfl <| st67 _ <| zaS X67 Hb (L' := (own_F25 i1 i2 i3 (i1 &&& (127 : Int32)) cp bt tb tc (2 : Int32) b45 b50 b63 b65)) at_434 rfl rfl <| zaL X67 Hb at_436 rfl rfl <| st68.trans <| zaS X68 Hb (L' := (own_F26 i1 i2 i3 (i1 &&& (127 : Int32)) cp bt tb tc (2 : Int32) b45 b50 b63 b65 z_68)) at_441 rfl rfl <| zaL X68 Hb at_443 rfl rfl <| zaL X68 Hb at_445 rfl rfl ?_
            refine st69.trans ?_
            exact k
          obtain ⟨fs, hr, hrun, hended, hE⟩ := Stand.leaveW (s := s) (vm₁ := T66.vm) X69 hS (by rw [eh69]; exact hk) (v := some (.int ((own_eqs ([(i1 &&& (127 : Int32)), cp, (65533 : Int32)] : List Int32) ([(i1 &&& (127 : Int32)), cp, (65533 : Int32)] : List Int32)) &&& 1))) (fun h => by rw [Bd.returns] at h; cases h)
          refine ⟨_, _, w70 _ ?_, hrun, hended, _, _, rfl, ?_, ?_, own_mono hE (by decide) (by decide)⟩
          · exact retN X69 hx (t := .boolean) Bd.returns (by simp) (hb hby at_450) hr
          · show Q0 Z i1 i2 i3 zc fm u8  h0 n0 _ T69.heap _
            rw [eh69]
            exact ⟨(own_r1 _), N69⟩
          · rw [hh]; show CHr Z consts_1 s.vm h0 T69.vm T69.heap; rw [eh69]; exact C.trans (CHv.at X69 hZ hEL C.1)
      · have hP := own_s7 i1
        have hT := own_tail htb htc
        have V_b45 : Arv Z h53 b45 k45 .byte (4 : Int32) [(.int (i1 &&& (127 : Int32))), .int (own_2a cp), .int (own_t0 cp), .int (own_b tb)] (.int 0) := by
          have q : Arv Z h53 b45 k45 .byte (4 : Int32) [(.int (own_b (i1 &&& (127 : Int32)))), .int (own_2a cp), .int (own_t0 cp), .int (own_b tb)] (.int 0) := V_b45
          rw [hP.2.1] at q
          exact q
        have hK : own_k cp = cp := own_k1 hR.1 (by have := own_lt1 hc109; have e1 : (65536 : Int32).toInt = 65536 := rfl; have e2 : (2048 : Int32).toInt = 2048 := rfl; have e3 : (128 : Int32).toInt = 128 := rfl; omega)
        have V_b50 : Arv Z h53 b50 k50 .char (3 : Int32) [(.int (i1 &&& (127 : Int32))), .int cp, (.int (own_tl (own_b tb)))] (.int 0) := by
          have q : Arv Z h53 b50 k50 .char (3 : Int32) [(.int (own_k (own_k (i1 &&& (127 : Int32))))), (.int (own_k (own_k cp))), .int (own_k tc)] (.int 0) := V_b50
          rw [hP.1, hP.1, hK, hK, hT] at q
          exact q
        have hr1 : 256 ≤ cp.toInt ∧ cp.toInt < 2048 := by have h0 := hR.1; have h9 := hR.2.1; have q0 := own_lt0 hc95; have q1 := own_lt0 hl256; have q2 := own_lt1 hc109; have e1 : (65536 : Int32).toInt = 65536 := rfl; have e2 : (2048 : Int32).toInt = 2048 := rfl; have e3 : (128 : Int32).toInt = 128 := rfl; have e4 : (256 : Int32).toInt = 256 := rfl; have e5 : (255 : Int32).toInt = 255 := rfl; have e6 : (1114112 : Int32).toInt = 1114112 := rfl; have e7 : (55296 : Int32).toInt = 55296 := rfl; have e8 : (57344 : Int32).toInt = 57344 := rfl; omega
        have hw5 : (255 : Int32) < cp := own_ltI (by have := hr1.1; have e1 : (65536 : Int32).toInt = 65536 := rfl; have e2 : (2048 : Int32).toInt = 2048 := rfl; have e3 : (128 : Int32).toInt = 128 := rfl; have e4 : (256 : Int32).toInt = 256 := rfl; have e5 : (255 : Int32).toInt = 255 := rfl; have e6 : (1114112 : Int32).toInt = 1114112 := rfl; have e7 : (55296 : Int32).toInt = 55296 := rfl; have e8 : (57344 : Int32).toInt = 57344 := rfl; omega)
        have hp := own_p2 cp (by have := hr1.1; omega) (by have := hr1.2; omega)
        have hl5 : ¬ cp < 256 := hl256
        obtain ⟨T71, h71, X71, e71, E71, A71, D71, -, st71⟩ := newO X53 hx hZ hown (W 5 rfl) (W 6 rfl) (W 7 rfl) e53 (g := (mkF m 412 (own_F23 i1 i2 i3 (i1 &&& (127 : Int32)) cp bt tb tc (2 : Int32) b45 b50) [])) rfl (hb hby at_412) (by decide) (by decide)
        obtain ⟨b71, gq71⟩ : ∃ z, z = Array.size h53 := ⟨_, rfl⟩
        rw [← gq71] at A71 D71 st71
        have ne_b45_b71 : b45 ≠ b71 := Nat.ne_of_lt (Nat.lt_of_lt_of_le EX45.lt (Nat.le_of_eq gq71.symm))
        have ne_b50_b71 : b50 ≠ b71 := Nat.ne_of_lt (Nat.lt_of_lt_of_le V_b50.lt (Nat.le_of_eq gq71.symm))
        have g_b71 : n0 ≤ b71 := Nat.le_trans (O.1 ▸ O.2.1) (Nat.le_of_eq gq71.symm)
        have R := CHr.ext E71 C.1
        have C := C.trans R
        have hk := Nat.le_trans hk E71.1
        have EX45 := EX45.ext E71
        have V_b45 := V_b45.ext E71
        have V_b50 := V_b50.ext E71
        have O := O.ext E71
        have F_coder_b71 : Fld Z h71 b71 "java/lang/String" "coder" "B" (.int 0) := D71 (Or.inr (W 30 rfl)) (ty := .byte) (by decide)
        have F_value_b71 : Fld Z h71 b71 "java/lang/String" "value" "[B" .null := D71 (Or.inr (W 32 rfl)) (ty := (.array .byte)) (by decide)
        obtain ⟨_, T72, Lc72, X72, hQ72, st72⟩ := own_cI X71 Hb hZ hown hml (L := (own_F23 i1 i2 i3 (i1 &&& (127 : Int32)) cp bt tb tc (2 : Int32) b45 b50)) rfl (rm1_3_1 hw b71 b50 k50 (i1 &&& (127 : Int32)) cp (own_tl (own_b tb)) O SU A71 F_value_b71 F_coder_b71 V_b50 hP.2.2.2.1 hw5 (own_gce hR.1 (by have := hr1.2; omega)) g_b71) (W 8 rfl) (W 9 rfl) (W 7 rfl) (W 10 rfl) pd28 e71 at_418 b71 [.ref b50] [.ref b71] rfl rfl (by decide) 1 rfl (by decide)
        obtain ⟨t1_72, kb_72, rfl, N72q, K72, F_v_a_c72, F_c_a_c72, V_t1_c72⟩ := hQ72
        have N72 := Fr.app N53 N72q
        have R := CHr.keep K72 (allS own_sf0 all0) C.1
        have C := C.trans R
        have hk := Nat.le_trans hk K72.1
        have EX45 := EX45.keep K72
        have V_b45 := V_b45.keep K72 (ninS ne_b45_b71 nin0)
        have V_b50 := V_b50.keep K72 (ninS ne_b50_b71 nin0)
        have A71 := A71.keep K72
        have O := O.keep K72 (allS g_b71 all0)
        obtain ⟨T73, h73, X73, e73, E73, A73, D73, -, st73⟩ := newO X72 hx hZ hown (W 33 rfl) (W 34 rfl) (W 35 rfl) rfl (g := (mkF m 423 (own_F24 i1 i2 i3 (i1 &&& (127 : Int32)) cp bt tb tc (2 : Int32) b45 b50 b71) [])) rfl (hb hby at_423) (by decide) (by decide)
        obtain ⟨b73, gq73⟩ : ∃ z, z = Array.size T72.heap := ⟨_, rfl⟩
        rw [← gq73] at A73 D73 st73
        have ne_b45_b73 : b45 ≠ b73 := Nat.ne_of_lt (Nat.lt_of_lt_of_le EX45.lt (Nat.le_of_eq gq73.symm))
        have ne_b50_b73 : b50 ≠ b73 := Nat.ne_of_lt (Nat.lt_of_lt_of_le V_b50.lt (Nat.le_of_eq gq73.symm))
        have ne_b71_b73 : b71 ≠ b73 := Nat.ne_of_lt (Nat.lt_of_lt_of_le A71.lt (Nat.le_of_eq gq73.symm))
        have ne_t1_72_b73 : t1_72 ≠ b73 := Nat.ne_of_lt (Nat.lt_of_lt_of_le V_t1_c72.lt (Nat.le_of_eq gq73.symm))
        have g_b73 : n0 ≤ b73 := Nat.le_trans (O.1 ▸ O.2.1) (Nat.le_of_eq gq73.symm)
        have R := CHr.ext E73 C.1
        have C := C.trans R
        have hk := Nat.le_trans hk E73.1
        have EX45 := EX45.ext E73
        have V_b45 := V_b45.ext E73
        have V_b50 := V_b50.ext E73
        have A71 := A71.ext E73
        have F_v_a_c72 := F_v_a_c72.ext E73
        have F_c_a_c72 := F_c_a_c72.ext E73
        have V_t1_c72 := V_t1_c72.ext E73
        have O := O.ext E73
        have F_contentType_b73 : Fld Z h73 b73 "com/example/gradual_reply/gradualreply/EncodedBody" "contentType" "Ljava/lang/String;" .null := D73 (Or.inr (W 44 rfl)) (ty := (.object "java/lang/String")) (by decide)
        have F_bytes_b73 : Fld Z h73 b73 "com/example/gradual_reply/gradualreply/EncodedBody" "bytes" "[B" .null := D73 (Or.inr (W 46 rfl)) (ty := (.array .byte)) (by decide)
        obtain ⟨a74, T74, h74, kk74, X74, e74, E74, hS, hk', hZ, hown, R74, -, st74⟩ := ldcOH X73 hx hZ hown (W 36 rfl) hSA e73 hS hk hEL C.1 (g := (mkF m 427 (own_F24 i1 i2 i3 (i1 &&& (127 : Int32)) cp bt tb tc (2 : Int32) b45 b50 b71) [.ref b73, .ref b73])) rfl (hb hby at_427) (n := 40) (by decide +kernel) (by decide) (by decide) (by decide)
        have R := R74
        have C := C.trans R
        have hk := hk'
        have EX45 := EX45.ext E74
        have V_b45 := V_b45.ext E74
        have V_b50 := V_b50.ext E74
        have A71 := A71.ext E74
        have F_v_a_c72 := F_v_a_c72.ext E74
        have F_c_a_c72 := F_c_a_c72.ext E74
        have V_t1_c72 := V_t1_c72.ext E74
        have A73 := A73.ext E74
        have F_contentType_b73 := F_contentType_b73.ext E74
        have F_bytes_b73 := F_bytes_b73.ext E74
        have O := O.ext E74
        obtain ⟨_, T75, Lc75, X75, hQ75, st75⟩ := own_cI X74 Hb hZ hown hml (L := (own_F24 i1 i2 i3 (i1 &&& (127 : Int32)) cp bt tb tc (2 : Int32) b45 b50 b71)) rfl (rm7 hw b73 a74 b45 O A73 F_contentType_b73 F_bytes_b73 g_b73) (W 39 rfl) (W 40 rfl) (W 35 rfl) (W 41 rfl) pd29 e74 at_431 b73 [.ref a74, .ref b45] [.ref b73] rfl rfl (by decide) 1 rfl (by decide)
        obtain ⟨rfl, N75q, K75, F_t_a_c75, F_b_a_c75⟩ := hQ75
        have N75 := Fr.app N72 N75q
        have R := CHr.keep K75 (allS own_sf0 all0) C.1
        have C := C.trans R
        have hk := Nat.le_trans hk K75.1
        have EX45 := EX45.keep K75
        have V_b45 := V_b45.keep K75 (ninS ne_b45_b73 nin0)
        have V_b50 := V_b50.keep K75 (ninS ne_b50_b73 nin0)
        have A71 := A71.keep K75
        have F_v_a_c72 := F_v_a_c72.keep K75 (ninS ne_b71_b73 nin0)
        have F_c_a_c72 := F_c_a_c72.keep K75 (ninS ne_b71_b73 nin0)
        have V_t1_c72 := V_t1_c72.keep K75 (ninS ne_t1_72_b73 nin0)
        have A73 := A73.keep K75
        have O := O.keep K75 (allS g_b73 all0)
        have E_u8 := o_E_u8.ext O.2
        obtain ⟨cq76, kq76, q76a, q76b, q76c⟩ := isOf hZ rfl A73
        obtain ⟨_, _, ⟨T76, L76, k76, n76⟩, -, X76, ⟨Lc76, hQ76, l76, y76, z76⟩, st76⟩ := X75.virtualBack hx (y := own_n8) (z := own_n8) hown (mvT hZ (W 47 rfl)) (mvT hZ (W 48 rfl)) (notFace_of_selects (args := #[]) (mvT hZ (W 50 rfl))) (mvT hZ (W 50 rfl)) (mvT hZ (W 49 rfl)) (by decide) (own_bk (W := 0) (rm8_D hw b73 b45 k45 (i1 &&& (127 : Int32)) (own_2a cp) (own_t0 cp) (own_b tb) cp O SU F_b_a_c75 V_b45 EX45 E_u8 hP.2.2.1 hp hl5) hZ (W 51 rfl) (W 35 rfl) (by decide) (by decide)) q76a q76c (g := (mkF m 438 (own_F25 i1 i2 i3 (i1 &&& (127 : Int32)) cp bt tb tc (2 : Int32) b45 b50 b71 b73) [.ref b73])) rfl (by rw [hml]; rfl) (Steps.refl _) (argsL := []) (rest := []) (lenOf pd30 rfl) rfl (by show 2 * 0 + _ ≤ _; exact Nat.le_of_eq rfl) (hb hby at_438) (fun _ _ => ⟨rfl, rfl, (by decide : 8 + 4 ≤ _), (by decide : 66 + 24 ≤ _)⟩)
        dsimp only [Pt.U, Pt.locs, Pt.cells, Pt.slots] at X76 l76 y76 z76 st76 hQ76
        have X76 := own_un X76 l76 y76 z76
        obtain ⟨z_76, t1_76, kt_76, rfl, N76q, K76, E_z_c76, F_v_z_c76, F_c_z_c76, V_t_c76⟩ := hQ76
        have N76 := Fr.app N75 N76q
        have R := CHr.keep K76 all0 C.1
        have C := C.trans R
        have hk := Nat.le_trans hk K76.1
        have EX45 := EX45.keep K76
        have V_b45 := V_b45.keep K76 nin0
        have V_b50 := V_b50.keep K76 nin0
        have A71 := A71.keep K76
        have F_v_a_c72 := F_v_a_c72.keep K76 nin0
        have F_c_a_c72 := F_c_a_c72.keep K76 nin0
        have V_t1_c72 := V_t1_c72.keep K76 nin0
        have A73 := A73.keep K76
        have F_t_a_c75 := F_t_a_c75.keep K76 nin0
        have F_b_a_c75 := F_b_a_c75.keep K76 nin0
        have E_u8 := E_u8.keep K76
        have O := O.keep K76 all0
        have V_t_c76 : Arv Z T76.heap t1_76 kt_76 .byte (6 : Int32) [(.int (own_lo (i1 &&& (127 : Int32)))), (.int (own_hi (i1 &&& (127 : Int32)))), .int (own_lo cp), .int (own_hi cp), (.int (own_lo (own_tl (own_b tb)))), (.int (own_hi (own_tl (own_b tb))))] (.int 0) := by
          have q : Arv Z T76.heap t1_76 kt_76 .byte (6 : Int32) [(.int (own_lo ((i1 &&& (127 : Int32)) &&& (255 : Int32)))), (.int (own_hi ((i1 &&& (127 : Int32)) &&& (255 : Int32)))), .int (own_lo cp), .int (own_hi cp), (.int (own_lo (own_tl (own_b tb)))), (.int (own_hi (own_tl (own_b tb))))] (.int 0) := V_t_c76
          rw [hP.2.2.2.2.1] at q
          exact q
        obtain ⟨cq77, kq77, q77a, q77b, q77c⟩ := isOf hZ rfl A71
        obtain ⟨v77, _, ⟨T77, L77, k77, n77⟩, -, X77, ⟨Lc77, hQ77, l77, y77, z77⟩, st77⟩ := X76.virtualBack hx (y := (⟨"java/lang/String", "equals", "(Ljava/lang/Object;)Z"⟩ : MethodName)) (z := (⟨"java/lang/String", "equals", "(Ljava/lang/Object;)Z"⟩ : MethodName)) hown (mvT hZ (W 86 rfl)) (mvT hZ (W 87 rfl)) (notFace_of_selects (args := #[]) (mvT hZ (W 89 rfl))) (mvT hZ (W 89 rfl)) (mvT hZ (W 88 rfl)) (by decide) (StrChars.Road.eqW (W := 0) hZ (own_wEq hw) (kI := 4) (W 6 rfl) A71 F_v_a_c72 F_c_a_c72 V_t1_c72 (own_c3 (Or.inr (Or.inl hw5))) (own_h3 (P := fun w => ¬ w < 0 ∧ ¬ (65535 : Int32) < w) ⟨hP.2.2.1, hP.2.2.2.2.2.2⟩ (by rw [← hK]; exact own_kr cp) (own_tlr _)) (Nat.le_of_ble_eq_true rfl) E_z_c76 F_v_z_c76 F_c_z_c76 V_t_c76 (own_c3 (Or.inr (Or.inl hw5))) (own_h3 (P := fun w => ¬ w < 0 ∧ ¬ (65535 : Int32) < w) ⟨hP.2.2.1, hP.2.2.2.2.2.2⟩ (by rw [← hK]; exact own_kr cp) (own_tlr _)) (Nat.le_of_ble_eq_true rfl) (SC.ext O.2) hzc (by decide) (by decide)) q77a q77c (g := (mkF m 447 (own_F26 i1 i2 i3 (i1 &&& (127 : Int32)) cp bt tb tc (2 : Int32) b45 b50 b71 b73 z_76) [.ref z_76, .ref b71])) rfl (by rw [hml]; rfl) (Steps.refl _) (argsL := [.ref z_76]) (rest := []) (lenOf pd31 rfl) rfl (by show 2 * 0 + _ ≤ _; exact Nat.le_of_eq rfl) (hb hby at_447) (fun _ _ => ⟨rfl, rfl, (by decide : 12 + 0 ≤ _), (by decide : 90 + 0 ≤ _)⟩)
        dsimp only [Pt.U, Pt.locs, Pt.cells, Pt.slots] at X77 l77 y77 z77 st77 hQ77
        have X77 := own_un X77 l77 y77 z77
        obtain ⟨hv77, rfl, eh77⟩ := hQ77
        obtain rfl : v77 = some (.int (own_eqs ([(i1 &&& (127 : Int32)), cp, (own_tl (own_b tb))] : List Int32) ([(i1 &&& (127 : Int32)), cp, (own_tl (own_b tb))] : List Int32))) := by rcases hv77 with ⟨h1, h2⟩ | ⟨h1, h2⟩ <;> first | exact absurd rfl h2 | (rw [h1]; simp only [own_eqs, if_true])
        have N77 := Fr.app N76 (Fr.nil n0)
        have w78 : ∀ t, Steps p.tables e below (T77.setTop (mkF m 450 (own_F26 i1 i2 i3 (i1 &&& (127 : Int32)) cp bt tb tc (2 : Int32) b45 b50 b71 b73 z_76) [(.int (own_eqs ([(i1 &&& (127 : Int32)), cp, (own_tl (own_b tb))] : List Int32) ([(i1 &&& (127 : Int32)), cp, (own_tl (own_b tb))] : List Int32)))])) t → Steps p.tables e below (s₁.setTop (entryFrame m #[.int i1, .int i2, .int i3] maxLocals)) t := fun t k => by
          refine w54 t ?_
          refine st71 _ <| zdu X71 Hb at_415 rfl <| zaL X71 Hb at_416 rfl rfl <| st72 _ <| zaS X72 Hb (L' := (own_F24 i1 i2 i3 (i1 &&& (127 : Int32)) cp bt tb tc (2 : Int32) b45 b50 b71)) at_421 rfl rfl <| st73 _ <| zdu X73 Hb at_426 rfl <| st74 _ ?_
          refine zaL X74 Hb at_429 rfl rfl <| st75 _ <| zaS X75 Hb (L' := (own_F25 i1 i2 i3 (i1 &&& (127 : Int32)) cp bt tb tc (2 : Int32) b45 b50 b71 b73)) at_434 rfl rfl <| zaL X75 Hb at_436 rfl rfl <| st76.trans <| zaS X76 Hb (L' := (own_F26 i1 i2 i3 (i1 &&& (127 : Int32)) cp bt tb tc (2 : Int32) b45 b50 b71 b73 z_76)) at_441 rfl rfl <| zaL X76 Hb at_443 rfl rfl <| zaL X76 Hb at_445 rfl rfl ?_
          refine st77.trans ?_
          exact k
        obtain ⟨fs, hr, hrun, hended, hE⟩ := Stand.leaveW (s := s) (vm₁ := T74.vm) X77 hS (by rw [eh77]; exact hk) (v := some (.int ((own_eqs ([(i1 &&& (127 : Int32)), cp, (own_tl (own_b tb))] : List Int32) ([(i1 &&& (127 : Int32)), cp, (own_tl (own_b tb))] : List Int32)) &&& 1))) (fun h => by rw [Bd.returns] at h; cases h)
        refine ⟨_, _, w78 _ ?_, hrun, hended, _, _, rfl, ?_, ?_, own_mono hE (by decide) (by decide)⟩
        · exact retN X77 hx (t := .boolean) Bd.returns (by simp) (hb hby at_450) hr
        · show Q0 Z i1 i2 i3 zc fm u8  h0 n0 _ T77.heap _
          rw [eh77]
          exact ⟨(own_r1 _), N77⟩
        · rw [hh]; show CHr Z consts_1 s.vm h0 T77.vm T77.heap; rw [eh77]; exact C.trans (CHv.at X77 hZ hEL C.1)
    · have w79 : ∀ t, Steps p.tables e below (s₁.setTop (mkF m 122 (own_F20 i1 i2 i3 (i1 &&& (127 : Int32)) cp bt tb tc) [.int 65536, .int cp])) t → Steps p.tables e below (s₁.setTop (entryFrame m #[.int i1, .int i2, .int i3] maxLocals)) t := fun t k => by
        refine w43 t ?_
        refine zcy X0 Hb at_109 (flt hc109_44).2.1 118 (by decide) rfl <| ziL X0 Hb at_118 rfl <| X0.ldcInt hx hown (mvT hZ (W 98 rfl)) (g := (mkF m 120 (own_F20 i1 i2 i3 (i1 &&& (127 : Int32)) cp bt tb tc) [.int cp])) rfl (hb hby at_120) _ ?_
        exact k
      by_cases hc122_80 : cp < (65536 : Int32)
      · obtain ⟨T81, h81, k81, X81, e81, E81, A81, EX81, st81⟩ := newPE X0 hx hZ (W 3 rfl) e0 (g := (mkF m 138 (own_F21 i1 i2 i3 (i1 &&& (127 : Int32)) cp bt tb tc (3 : Int32)) [.int 5])) rfl (hb hby at_138) rfl (by decide) (cap := 5) (by decide) (by decide) (by decide) (by decide) (ad := "[B") (by decide)
        obtain ⟨b81, gq81⟩ : ∃ z, z = Array.size h0 := ⟨_, rfl⟩
        rw [← gq81] at A81 EX81 st81
        have g_b81 : n0 ≤ b81 := Nat.le_trans (O.1 ▸ O.2.1) (Nat.le_of_eq gq81.symm)
        have R := CHr.ext E81 C.1
        have C := C.trans R
        have hk := Nat.le_trans hk E81.1
        have O := O.ext E81
        have V_b81 : Arv Z h81 b81 k81 .byte (5 : Int32) [.int 0, .int 0, .int 0, .int 0, .int 0] (.int 0) := (Arv.new A81 (by decide)).pad (pad_rep [] (.int 0) 5)
        obtain ⟨T82, h82, X82, e82, W82, V_b81, st82⟩ := own_sB X81 Hb hZ e81 V_b81 (j := 0) (x := ((i1 &&& (127 : Int32)).toInt8.toInt32)) (L := (own_F22 i1 i2 i3 (i1 &&& (127 : Int32)) cp bt tb tc (3 : Int32) b81)) (S := []) (vs' := [(.int (((i1 &&& (127 : Int32)).toInt8.toInt32).toInt8.toInt32)), .int 0, .int 0, .int 0, .int 0]) ⟨by decide, by decide⟩ rfl (Nat.le_of_ble_eq_true rfl) at_147 rfl
        have R := CHr.wr W82 own_sf0 C.1
        have C := C.trans R
        have hk := (by rw [W82.size]; exact hk : _ ≤ Array.size h82)
        have EX81 := EX81.wr W82
        have O := O.wr W82 g_b81
        have N82 := Fr.snoc X82 N0 g_b81
        obtain ⟨T83, h83, X83, e83, W83, V_b81, st83⟩ := own_sB X82 Hb hZ e82 V_b81 (j := 1) (x := (((224 : Int32) ||| (cp >>> ((12 : Int32) &&& 31))).toInt8.toInt32)) (L := (own_F22 i1 i2 i3 (i1 &&& (127 : Int32)) cp bt tb tc (3 : Int32) b81)) (S := []) (vs' := [(.int (((i1 &&& (127 : Int32)).toInt8.toInt32).toInt8.toInt32)), (.int ((((224 : Int32) ||| (cp >>> ((12 : Int32) &&& 31))).toInt8.toInt32).toInt8.toInt32)), .int 0, .int 0, .int 0]) ⟨by decide, by decide⟩ rfl (Nat.le_of_ble_eq_true rfl) at_220 rfl
        have R := CHr.wr W83 own_sf0 C.1
        have C := C.trans R
        have hk := (by rw [W83.size]; exact hk : _ ≤ Array.size h83)
        have EX81 := EX81.wr W83
        have O := O.wr W83 g_b81
        have N83 := Fr.snoc X83 N82 g_b81
        obtain ⟨T84, h84, X84, e84, W84, V_b81, st84⟩ := own_sB X83 Hb hZ e83 V_b81 (j := 2) (x := (((128 : Int32) ||| ((cp >>> ((6 : Int32) &&& 31)) &&& (63 : Int32))).toInt8.toInt32)) (L := (own_F22 i1 i2 i3 (i1 &&& (127 : Int32)) cp bt tb tc (3 : Int32) b81)) (S := []) (vs' := [(.int (((i1 &&& (127 : Int32)).toInt8.toInt32).toInt8.toInt32)), (.int ((((224 : Int32) ||| (cp >>> ((12 : Int32) &&& 31))).toInt8.toInt32).toInt8.toInt32)), (.int ((((128 : Int32) ||| ((cp >>> ((6 : Int32) &&& 31)) &&& (63 : Int32))).toInt8.toInt32).toInt8.toInt32)), .int 0, .int 0]) ⟨by decide, by decide⟩ rfl (Nat.le_of_ble_eq_true rfl) at_237 rfl
        have R := CHr.wr W84 own_sf0 C.1
        have C := C.trans R
        have hk := (by rw [W84.size]; exact hk : _ ≤ Array.size h84)
        have EX81 := EX81.wr W84
        have O := O.wr W84 g_b81
        have N84 := Fr.snoc X84 N83 g_b81
        obtain ⟨T85, h85, X85, e85, W85, V_b81, st85⟩ := own_sB X84 Hb hZ e84 V_b81 (j := 3) (x := (((128 : Int32) ||| (cp &&& (63 : Int32))).toInt8.toInt32)) (L := (own_F22 i1 i2 i3 (i1 &&& (127 : Int32)) cp bt tb tc (3 : Int32) b81)) (S := []) (vs' := [(.int (((i1 &&& (127 : Int32)).toInt8.toInt32).toInt8.toInt32)), (.int ((((224 : Int32) ||| (cp >>> ((12 : Int32) &&& 31))).toInt8.toInt32).toInt8.toInt32)), (.int ((((128 : Int32) ||| ((cp >>> ((6 : Int32) &&& 31)) &&& (63 : Int32))).toInt8.toInt32).toInt8.toInt32)), (.int ((((128 : Int32) ||| (cp &&& (63 : Int32))).toInt8.toInt32).toInt8.toInt32)), .int 0]) ⟨by decide, by decide⟩ rfl (Nat.le_of_ble_eq_true rfl) at_251 rfl
        have R := CHr.wr W85 own_sf0 C.1
        have C := C.trans R
        have hk := (by rw [W85.size]; exact hk : _ ≤ Array.size h85)
        have EX81 := EX81.wr W85
        have O := O.wr W85 g_b81
        have N85 := Fr.snoc X85 N84 g_b81
        obtain ⟨T86, h86, X86, e86, W86, V_b81, st86⟩ := own_sB X85 Hb hZ e85 V_b81 (j := 4) (x := (tb.toInt8.toInt32)) (L := (own_F22 i1 i2 i3 (i1 &&& (127 : Int32)) cp bt tb tc (3 : Int32) b81)) (S := []) (vs' := [(.int (((i1 &&& (127 : Int32)).toInt8.toInt32).toInt8.toInt32)), (.int ((((224 : Int32) ||| (cp >>> ((12 : Int32) &&& 31))).toInt8.toInt32).toInt8.toInt32)), (.int ((((128 : Int32) ||| ((cp >>> ((6 : Int32) &&& 31)) &&& (63 : Int32))).toInt8.toInt32).toInt8.toInt32)), (.int ((((128 : Int32) ||| (cp &&& (63 : Int32))).toInt8.toInt32).toInt8.toInt32)), (.int ((tb.toInt8.toInt32).toInt8.toInt32))]) ⟨by decide, by decide⟩ rfl (Nat.le_of_ble_eq_true rfl) at_326 rfl
        have R := CHr.wr W86 own_sf0 C.1
        have C := C.trans R
        have hk := (by rw [W86.size]; exact hk : _ ≤ Array.size h86)
        have EX81 := EX81.wr W86
        have O := O.wr W86 g_b81
        have N86 := Fr.snoc X86 N85 g_b81
        obtain ⟨T87, h87, k87, X87, e87, E87, A87, st87⟩ := newP X86 hx hZ (W 4 rfl) e86 (g := (mkF m 334 (own_F22 i1 i2 i3 (i1 &&& (127 : Int32)) cp bt tb tc (3 : Int32) b81) [.int 3])) rfl (hb hby at_334) rfl (by decide) (cap := 3) (by decide) (by decide) (by decide) (by decide)
        obtain ⟨b87, gq87⟩ : ∃ z, z = Array.size h86 := ⟨_, rfl⟩
        rw [← gq87] at A87 st87
        have ne_b81_b87 : b81 ≠ b87 := Nat.ne_of_lt (Nat.lt_of_lt_of_le EX81.lt (Nat.le_of_eq gq87.symm))
        have g_b87 : n0 ≤ b87 := Nat.le_trans (O.1 ▸ O.2.1) (Nat.le_of_eq gq87.symm)
        have R := CHr.ext E87 C.1
        have C := C.trans R
        have hk := Nat.le_trans hk E87.1
        have EX81 := EX81.ext E87
        have V_b81 := V_b81.ext E87
        have O := O.ext E87
        have V_b87 : Arv Z h87 b87 k87 .char (3 : Int32) [.int 0, .int 0, .int 0] (.int 0) := (Arv.new A87 (by decide)).pad (pad_rep [] (.int 0) 3)
        obtain ⟨T88, h88, X88, e88, W88, V_b87, st88⟩ := own_sC X87 Hb hZ e87 V_b87 (j := 0) (x := ((i1 &&& (127 : Int32)).toUInt32.toUInt16.toUInt32.toInt32)) (L := (own_F22 i1 i2 i3 (i1 &&& (127 : Int32)) cp bt tb tc (3 : Int32) b81)) (S := [.ref b87]) (vs' := [(.int (((i1 &&& (127 : Int32)).toUInt32.toUInt16.toUInt32.toInt32).toUInt32.toUInt16.toUInt32.toInt32)), .int 0, .int 0]) ⟨by decide, by decide⟩ rfl (Nat.le_of_ble_eq_true rfl) at_340 rfl
        have R := CHr.wr W88 own_sf0 C.1
        have C := C.trans R
        have hk := (by rw [W88.size]; exact hk : _ ≤ Array.size h88)
        have EX81 := EX81.wr W88
        have V_b81 := V_b81.other W88 ne_b81_b87
        have O := O.wr W88 g_b87
        have N88 := Fr.snoc X88 N86 g_b87
        obtain ⟨T89, h89, X89, e89, W89, V_b87, st89⟩ := own_sC X88 Hb hZ e88 V_b87 (j := 1) (x := (cp.toUInt32.toUInt16.toUInt32.toInt32)) (L := (own_F22 i1 i2 i3 (i1 &&& (127 : Int32)) cp bt tb tc (3 : Int32) b81)) (S := [.ref b87]) (vs' := [(.int (((i1 &&& (127 : Int32)).toUInt32.toUInt16.toUInt32.toInt32).toUInt32.toUInt16.toUInt32.toInt32)), (.int ((cp.toUInt32.toUInt16.toUInt32.toInt32).toUInt32.toUInt16.toUInt32.toInt32)), .int 0]) ⟨by decide, by decide⟩ rfl (Nat.le_of_ble_eq_true rfl) at_346 rfl
        have R := CHr.wr W89 own_sf0 C.1
        have C := C.trans R
        have hk := (by rw [W89.size]; exact hk : _ ≤ Array.size h89)
        have EX81 := EX81.wr W89
        have V_b81 := V_b81.other W89 ne_b81_b87
        have O := O.wr W89 g_b87
        have N89 := Fr.snoc X89 N88 g_b87
        obtain ⟨T90, h90, X90, e90, W90, V_b87, st90⟩ := own_sC X89 Hb hZ e89 V_b87 (j := 2) (x := tc) (L := (own_F22 i1 i2 i3 (i1 &&& (127 : Int32)) cp bt tb tc (3 : Int32) b81)) (S := [.ref b87]) (vs' := [(.int (((i1 &&& (127 : Int32)).toUInt32.toUInt16.toUInt32.toInt32).toUInt32.toUInt16.toUInt32.toInt32)), (.int ((cp.toUInt32.toUInt16.toUInt32.toInt32).toUInt32.toUInt16.toUInt32.toInt32)), .int (tc.toUInt32.toUInt16.toUInt32.toInt32)]) ⟨by decide, by decide⟩ rfl (Nat.le_of_ble_eq_true rfl) at_351 rfl
        have R := CHr.wr W90 own_sf0 C.1
        have C := C.trans R
        have hk := (by rw [W90.size]; exact hk : _ ≤ Array.size h90)
        have EX81 := EX81.wr W90
        have V_b81 := V_b81.other W90 ne_b81_b87
        have O := O.wr W90 g_b87
        have N90 := Fr.snoc X90 N89 g_b87
        have w91 : ∀ t, Steps p.tables e below (T90.setTop (mkF m 412 (own_F23 i1 i2 i3 (i1 &&& (127 : Int32)) cp bt tb tc (3 : Int32) b81 b87) [])) t → Steps p.tables e below (s₁.setTop (entryFrame m #[.int i1, .int i2, .int i3] maxLocals)) t := fun t k => by
          refine w79 t ?_
          refine zcn X0 Hb at_122 (tlt hc122_80).2.1 <| zic X0 Hb at_125 3 rfl <| ziS X0 Hb (L' := (own_F21 i1 i2 i3 (i1 &&& (127 : Int32)) cp bt tb tc (3 : Int32))) at_126 rfl <| zgo X0 Hb at_128 134 (by decide) rfl <| zic X0 Hb at_134 2 rfl <| ziL X0 Hb at_135 rfl <| zia' X0 Hb at_137 5 rfl <| st81 _ ?_
          refine zaS X81 Hb (L' := (own_F22 i1 i2 i3 (i1 &&& (127 : Int32)) cp bt tb tc (3 : Int32) b81)) at_140 rfl rfl <| zaL X81 Hb at_142 rfl rfl <| zic X81 Hb at_144 0 rfl <| zil X81 Hb at_145 rfl <| zib X81 Hb at_146 <| st82 _ <| ziL X82 Hb at_148 rfl <| zic X82 Hb at_150 1 rfl ?_
          refine zcy X82 Hb at_151 (feq ((by decide) : ¬ ((3 : Int32) = (1 : Int32)))).2 164 (by decide) rfl <| ziL X82 Hb at_164 rfl <| zic X82 Hb at_166 2 rfl <| zcy X82 Hb at_167 (feq ((by decide) : ¬ ((3 : Int32) = (2 : Int32)))).2 201 (by decide) rfl <| ziL X82 Hb at_201 rfl <| zic X82 Hb at_203 3 rfl <| zcn X82 Hb at_204 (teq (rfl : (3 : Int32) = (3 : Int32))).2 <| zaL X82 Hb at_207 rfl rfl ?_
          refine zic X82 Hb at_209 1 rfl <| zsp X82 Hb at_210 224 rfl <| ziL X82 Hb at_213 rfl <| zbp X82 Hb at_215 12 rfl <| zsr X82 Hb at_217 <| zor X82 Hb at_218 <| zib X82 Hb at_219 <| st83 _ ?_
          refine zaL X83 Hb at_221 rfl rfl <| zic X83 Hb at_223 2 rfl <| zsp X83 Hb at_224 128 rfl <| ziL X83 Hb at_227 rfl <| zbp X83 Hb at_229 6 rfl <| zsr X83 Hb at_231 <| zbp X83 Hb at_232 63 rfl <| zan X83 Hb at_234 ?_
          refine zor X83 Hb at_235 <| zib X83 Hb at_236 <| st84 _ <| zaL X84 Hb at_238 rfl rfl <| zic X84 Hb at_240 3 rfl <| zsp X84 Hb at_241 128 rfl <| ziL X84 Hb at_244 rfl <| zbp X84 Hb at_246 63 rfl ?_
          refine zan X84 Hb at_248 <| zor X84 Hb at_249 <| zib X84 Hb at_250 <| st85 _ <| zgo X85 Hb at_252 317 (by decide) rfl <| zaL X85 Hb at_317 rfl rfl <| zic X85 Hb at_319 1 rfl <| ziL X85 Hb at_320 rfl ?_
          refine zia' X85 Hb at_322 4 rfl <| ziL X85 Hb at_323 rfl <| zib X85 Hb at_325 <| st86 _ <| ziL X86 Hb at_327 rfl <| zic X86 Hb at_329 4 rfl <| zcn X86 Hb at_330 (tlt ((by decide) : (3 : Int32) < (4 : Int32))).2.1 <| zic X86 Hb at_333 3 rfl ?_
          refine st87 _ <| zdu X87 Hb at_336 rfl <| zic X87 Hb at_337 0 rfl <| zil X87 Hb at_338 rfl <| zik X87 Hb at_339 <| st88 _ <| zdu X88 Hb at_341 rfl <| zic X88 Hb at_342 1 rfl ?_
          refine ziL X88 Hb at_343 rfl <| zik X88 Hb at_345 <| st89 _ <| zdu X89 Hb at_347 rfl <| zic X89 Hb at_348 2 rfl <| ziL X89 Hb at_349 rfl <| st90 _ <| zaS X90 Hb (L' := (own_F23 i1 i2 i3 (i1 &&& (127 : Int32)) cp bt tb tc (3 : Int32) b81 b87)) at_352 rfl rfl ?_
          refine zgo X90 Hb at_354 412 (by decide) rfl ?_
          exact k
        have hc95 := hc95_17
        have hc109 := hc109_44
        have hc122 := hc122_80
        have hP := own_s7 i1
        have hT := own_tail htb htc
        have V_b81 : Arv Z h90 b81 k81 .byte (5 : Int32) [(.int (i1 &&& (127 : Int32))), .int (own_3a cp), .int (own_t6 cp), .int (own_t0 cp), .int (own_b tb)] (.int 0) := by
          have q : Arv Z h90 b81 k81 .byte (5 : Int32) [(.int (own_b (i1 &&& (127 : Int32)))), .int (own_3a cp), .int (own_t6 cp), .int (own_t0 cp), .int (own_b tb)] (.int 0) := V_b81
          rw [hP.2.1] at q
          exact q
        have hK : own_k cp = cp := own_k1 hR.1 (by have := own_lt1 hc122; have e1 : (65536 : Int32).toInt = 65536 := rfl; have e2 : (2048 : Int32).toInt = 2048 := rfl; have e3 : (128 : Int32).toInt = 128 := rfl; omega)
        have V_b87 : Arv Z h90 b87 k87 .char (3 : Int32) [(.int (i1 &&& (127 : Int32))), .int cp, (.int (own_tl (own_b tb)))] (.int 0) := by
          have q : Arv Z h90 b87 k87 .char (3 : Int32) [(.int (own_k (own_k (i1 &&& (127 : Int32))))), (.int (own_k (own_k cp))), .int (own_k tc)] (.int 0) := V_b87
          rw [hP.1, hP.1, hK, hK, hT] at q
          exact q
        have hr1 : 2048 ≤ cp.toInt ∧ cp.toInt < 65536 := by have h0 := hR.1; have h9 := hR.2.1; have q0 := own_lt0 hc109; have q1 := own_lt1 hc122; have e1 : (65536 : Int32).toInt = 65536 := rfl; have e2 : (2048 : Int32).toInt = 2048 := rfl; have e3 : (128 : Int32).toInt = 128 := rfl; have e4 : (256 : Int32).toInt = 256 := rfl; have e5 : (255 : Int32).toInt = 255 := rfl; have e6 : (1114112 : Int32).toInt = 1114112 := rfl; have e7 : (55296 : Int32).toInt = 55296 := rfl; have e8 : (57344 : Int32).toInt = 57344 := rfl; omega
        have hw5 : (255 : Int32) < cp := own_ltI (by have := hr1.1; have e1 : (65536 : Int32).toInt = 65536 := rfl; have e2 : (2048 : Int32).toInt = 2048 := rfl; have e3 : (128 : Int32).toInt = 128 := rfl; have e4 : (256 : Int32).toInt = 256 := rfl; have e5 : (255 : Int32).toInt = 255 := rfl; have e6 : (1114112 : Int32).toInt = 1114112 := rfl; have e7 : (55296 : Int32).toInt = 55296 := rfl; have e8 : (57344 : Int32).toInt = 57344 := rfl; omega)
        have hp := own_p3 cp hr1.1 hr1.2
        have hs5 : ¬ cp < (55296 : Int32) → ¬ cp < (57344 : Int32) := fun q => own_ltN (by have := own_lt0 q; have := hR.2.2; have e1 : (65536 : Int32).toInt = 65536 := rfl; have e2 : (2048 : Int32).toInt = 2048 := rfl; have e3 : (128 : Int32).toInt = 128 := rfl; have e4 : (256 : Int32).toInt = 256 := rfl; have e5 : (255 : Int32).toInt = 255 := rfl; have e6 : (1114112 : Int32).toInt = 1114112 := rfl; have e7 : (55296 : Int32).toInt = 55296 := rfl; have e8 : (57344 : Int32).toInt = 57344 := rfl; omega)
        obtain ⟨T92, h92, X92, e92, E92, A92, D92, -, st92⟩ := newO X90 hx hZ hown (W 5 rfl) (W 6 rfl) (W 7 rfl) e90 (g := (mkF m 412 (own_F23 i1 i2 i3 (i1 &&& (127 : Int32)) cp bt tb tc (3 : Int32) b81 b87) [])) rfl (hb hby at_412) (by decide) (by decide)
        obtain ⟨b92, gq92⟩ : ∃ z, z = Array.size h90 := ⟨_, rfl⟩
        rw [← gq92] at A92 D92 st92
        have ne_b81_b92 : b81 ≠ b92 := Nat.ne_of_lt (Nat.lt_of_lt_of_le EX81.lt (Nat.le_of_eq gq92.symm))
        have ne_b87_b92 : b87 ≠ b92 := Nat.ne_of_lt (Nat.lt_of_lt_of_le V_b87.lt (Nat.le_of_eq gq92.symm))
        have g_b92 : n0 ≤ b92 := Nat.le_trans (O.1 ▸ O.2.1) (Nat.le_of_eq gq92.symm)
        have R := CHr.ext E92 C.1
        have C := C.trans R
        have hk := Nat.le_trans hk E92.1
        have EX81 := EX81.ext E92
        have V_b81 := V_b81.ext E92
        have V_b87 := V_b87.ext E92
        have O := O.ext E92
        have F_coder_b92 : Fld Z h92 b92 "java/lang/String" "coder" "B" (.int 0) := D92 (Or.inr (W 30 rfl)) (ty := .byte) (by decide)
        have F_value_b92 : Fld Z h92 b92 "java/lang/String" "value" "[B" .null := D92 (Or.inr (W 32 rfl)) (ty := (.array .byte)) (by decide)
        obtain ⟨_, T93, Lc93, X93, hQ93, st93⟩ := own_cI X92 Hb hZ hown hml (L := (own_F23 i1 i2 i3 (i1 &&& (127 : Int32)) cp bt tb tc (3 : Int32) b81 b87)) rfl (rm1_3_1 hw b92 b87 k87 (i1 &&& (127 : Int32)) cp (own_tl (own_b tb)) O SU A92 F_value_b92 F_coder_b92 V_b87 hP.2.2.2.1 hw5 (own_gce hR.1 (by have := hr1.2; omega)) g_b92) (W 8 rfl) (W 9 rfl) (W 7 rfl) (W 10 rfl) pd28 e92 at_418 b92 [.ref b87] [.ref b92] rfl rfl (by decide) 1 rfl (by decide)
        obtain ⟨t1_93, kb_93, rfl, N93q, K93, F_v_a_c93, F_c_a_c93, V_t1_c93⟩ := hQ93
        have N93 := Fr.app N90 N93q
        have R := CHr.keep K93 (allS own_sf0 all0) C.1
        have C := C.trans R
        have hk := Nat.le_trans hk K93.1
        have EX81 := EX81.keep K93
        have V_b81 := V_b81.keep K93 (ninS ne_b81_b92 nin0)
        have V_b87 := V_b87.keep K93 (ninS ne_b87_b92 nin0)
        have A92 := A92.keep K93
        have O := O.keep K93 (allS g_b92 all0)
        obtain ⟨T94, h94, X94, e94, E94, A94, D94, -, st94⟩ := newO X93 hx hZ hown (W 33 rfl) (W 34 rfl) (W 35 rfl) rfl (g := (mkF m 423 (own_F24 i1 i2 i3 (i1 &&& (127 : Int32)) cp bt tb tc (3 : Int32) b81 b87 b92) [])) rfl (hb hby at_423) (by decide) (by decide)
        obtain ⟨b94, gq94⟩ : ∃ z, z = Array.size T93.heap := ⟨_, rfl⟩
        rw [← gq94] at A94 D94 st94
        have ne_b81_b94 : b81 ≠ b94 := Nat.ne_of_lt (Nat.lt_of_lt_of_le EX81.lt (Nat.le_of_eq gq94.symm))
        have ne_b87_b94 : b87 ≠ b94 := Nat.ne_of_lt (Nat.lt_of_lt_of_le V_b87.lt (Nat.le_of_eq gq94.symm))
        have ne_b92_b94 : b92 ≠ b94 := Nat.ne_of_lt (Nat.lt_of_lt_of_le A92.lt (Nat.le_of_eq gq94.symm))
        have ne_t1_93_b94 : t1_93 ≠ b94 := Nat.ne_of_lt (Nat.lt_of_lt_of_le V_t1_c93.lt (Nat.le_of_eq gq94.symm))
        have g_b94 : n0 ≤ b94 := Nat.le_trans (O.1 ▸ O.2.1) (Nat.le_of_eq gq94.symm)
        have R := CHr.ext E94 C.1
        have C := C.trans R
        have hk := Nat.le_trans hk E94.1
        have EX81 := EX81.ext E94
        have V_b81 := V_b81.ext E94
        have V_b87 := V_b87.ext E94
        have A92 := A92.ext E94
        have F_v_a_c93 := F_v_a_c93.ext E94
        have F_c_a_c93 := F_c_a_c93.ext E94
        have V_t1_c93 := V_t1_c93.ext E94
        have O := O.ext E94
        have F_contentType_b94 : Fld Z h94 b94 "com/example/gradual_reply/gradualreply/EncodedBody" "contentType" "Ljava/lang/String;" .null := D94 (Or.inr (W 44 rfl)) (ty := (.object "java/lang/String")) (by decide)
        have F_bytes_b94 : Fld Z h94 b94 "com/example/gradual_reply/gradualreply/EncodedBody" "bytes" "[B" .null := D94 (Or.inr (W 46 rfl)) (ty := (.array .byte)) (by decide)
        obtain ⟨a95, T95, h95, kk95, X95, e95, E95, hS, hk', hZ, hown, R95, -, st95⟩ := ldcOH X94 hx hZ hown (W 36 rfl) hSA e94 hS hk hEL C.1 (g := (mkF m 427 (own_F24 i1 i2 i3 (i1 &&& (127 : Int32)) cp bt tb tc (3 : Int32) b81 b87 b92) [.ref b94, .ref b94])) rfl (hb hby at_427) (n := 40) (by decide +kernel) (by decide) (by decide) (by decide)
        have R := R95
        have C := C.trans R
        have hk := hk'
        have EX81 := EX81.ext E95
        have V_b81 := V_b81.ext E95
        have V_b87 := V_b87.ext E95
        have A92 := A92.ext E95
        have F_v_a_c93 := F_v_a_c93.ext E95
        have F_c_a_c93 := F_c_a_c93.ext E95
        have V_t1_c93 := V_t1_c93.ext E95
        have A94 := A94.ext E95
        have F_contentType_b94 := F_contentType_b94.ext E95
        have F_bytes_b94 := F_bytes_b94.ext E95
        have O := O.ext E95
        obtain ⟨_, T96, Lc96, X96, hQ96, st96⟩ := own_cI X95 Hb hZ hown hml (L := (own_F24 i1 i2 i3 (i1 &&& (127 : Int32)) cp bt tb tc (3 : Int32) b81 b87 b92)) rfl (rm7 hw b94 a95 b81 O A94 F_contentType_b94 F_bytes_b94 g_b94) (W 39 rfl) (W 40 rfl) (W 35 rfl) (W 41 rfl) pd29 e95 at_431 b94 [.ref a95, .ref b81] [.ref b94] rfl rfl (by decide) 1 rfl (by decide)
        obtain ⟨rfl, N96q, K96, F_t_a_c96, F_b_a_c96⟩ := hQ96
        have N96 := Fr.app N93 N96q
        have R := CHr.keep K96 (allS own_sf0 all0) C.1
        have C := C.trans R
        have hk := Nat.le_trans hk K96.1
        have EX81 := EX81.keep K96
        have V_b81 := V_b81.keep K96 (ninS ne_b81_b94 nin0)
        have V_b87 := V_b87.keep K96 (ninS ne_b87_b94 nin0)
        have A92 := A92.keep K96
        have F_v_a_c93 := F_v_a_c93.keep K96 (ninS ne_b92_b94 nin0)
        have F_c_a_c93 := F_c_a_c93.keep K96 (ninS ne_b92_b94 nin0)
        have V_t1_c93 := V_t1_c93.keep K96 (ninS ne_t1_93_b94 nin0)
        have A94 := A94.keep K96
        have O := O.keep K96 (allS g_b94 all0)
        have E_u8 := o_E_u8.ext O.2
        obtain ⟨cq97, kq97, q97a, q97b, q97c⟩ := isOf hZ rfl A94
        obtain ⟨_, _, ⟨T97, L97, k97, n97⟩, -, X97, ⟨Lc97, hQ97, l97, y97, z97⟩, st97⟩ := X96.virtualBack hx (y := own_n8) (z := own_n8) hown (mvT hZ (W 47 rfl)) (mvT hZ (W 48 rfl)) (notFace_of_selects (args := #[]) (mvT hZ (W 50 rfl))) (mvT hZ (W 50 rfl)) (mvT hZ (W 49 rfl)) (by decide) (own_bk (W := 0) (rm8_E hw b94 b81 k81 (i1 &&& (127 : Int32)) (own_3a cp) (own_t6 cp) (own_t0 cp) (own_b tb) cp O SU F_b_a_c96 V_b81 EX81 E_u8 hP.2.2.1 hp hs5) hZ (W 51 rfl) (W 35 rfl) (by decide) (by decide)) q97a q97c (g := (mkF m 438 (own_F25 i1 i2 i3 (i1 &&& (127 : Int32)) cp bt tb tc (3 : Int32) b81 b87 b92 b94) [.ref b94])) rfl (by rw [hml]; rfl) (Steps.refl _) (argsL := []) (rest := []) (lenOf pd30 rfl) rfl (by show 2 * 0 + _ ≤ _; exact Nat.le_of_eq rfl) (hb hby at_438) (fun _ _ => ⟨rfl, rfl, (by decide : 8 + 4 ≤ _), (by decide : 67 + 26 ≤ _)⟩)
        dsimp only [Pt.U, Pt.locs, Pt.cells, Pt.slots] at X97 l97 y97 z97 st97 hQ97
        have X97 := own_un X97 l97 y97 z97
        obtain ⟨z_97, t1_97, kt_97, rfl, N97q, K97, E_z_c97, F_v_z_c97, F_c_z_c97, V_t_c97⟩ := hQ97
        have N97 := Fr.app N96 N97q
        have R := CHr.keep K97 all0 C.1
        have C := C.trans R
        have hk := Nat.le_trans hk K97.1
        have EX81 := EX81.keep K97
        have V_b81 := V_b81.keep K97 nin0
        have V_b87 := V_b87.keep K97 nin0
        have A92 := A92.keep K97
        have F_v_a_c93 := F_v_a_c93.keep K97 nin0
        have F_c_a_c93 := F_c_a_c93.keep K97 nin0
        have V_t1_c93 := V_t1_c93.keep K97 nin0
        have A94 := A94.keep K97
        have F_t_a_c96 := F_t_a_c96.keep K97 nin0
        have F_b_a_c96 := F_b_a_c96.keep K97 nin0
        have E_u8 := E_u8.keep K97
        have O := O.keep K97 all0
        have V_t_c97 : Arv Z T97.heap t1_97 kt_97 .byte (6 : Int32) [(.int (own_lo (i1 &&& (127 : Int32)))), (.int (own_hi (i1 &&& (127 : Int32)))), .int (own_lo cp), .int (own_hi cp), (.int (own_lo (own_tl (own_b tb)))), (.int (own_hi (own_tl (own_b tb))))] (.int 0) := by
          have q : Arv Z T97.heap t1_97 kt_97 .byte (6 : Int32) [(.int (own_lo ((i1 &&& (127 : Int32)) &&& (255 : Int32)))), (.int (own_hi ((i1 &&& (127 : Int32)) &&& (255 : Int32)))), .int (own_lo cp), .int (own_hi cp), (.int (own_lo (own_tl (own_b tb)))), (.int (own_hi (own_tl (own_b tb))))] (.int 0) := V_t_c97
          rw [hP.2.2.2.2.1] at q
          exact q
        obtain ⟨cq98, kq98, q98a, q98b, q98c⟩ := isOf hZ rfl A92
        obtain ⟨v98, _, ⟨T98, L98, k98, n98⟩, -, X98, ⟨Lc98, hQ98, l98, y98, z98⟩, st98⟩ := X97.virtualBack hx (y := (⟨"java/lang/String", "equals", "(Ljava/lang/Object;)Z"⟩ : MethodName)) (z := (⟨"java/lang/String", "equals", "(Ljava/lang/Object;)Z"⟩ : MethodName)) hown (mvT hZ (W 86 rfl)) (mvT hZ (W 87 rfl)) (notFace_of_selects (args := #[]) (mvT hZ (W 89 rfl))) (mvT hZ (W 89 rfl)) (mvT hZ (W 88 rfl)) (by decide) (StrChars.Road.eqW (W := 0) hZ (own_wEq hw) (kI := 4) (W 6 rfl) A92 F_v_a_c93 F_c_a_c93 V_t1_c93 (own_c3 (Or.inr (Or.inl hw5))) (own_h3 (P := fun w => ¬ w < 0 ∧ ¬ (65535 : Int32) < w) ⟨hP.2.2.1, hP.2.2.2.2.2.2⟩ (by rw [← hK]; exact own_kr cp) (own_tlr _)) (Nat.le_of_ble_eq_true rfl) E_z_c97 F_v_z_c97 F_c_z_c97 V_t_c97 (own_c3 (Or.inr (Or.inl hw5))) (own_h3 (P := fun w => ¬ w < 0 ∧ ¬ (65535 : Int32) < w) ⟨hP.2.2.1, hP.2.2.2.2.2.2⟩ (by rw [← hK]; exact own_kr cp) (own_tlr _)) (Nat.le_of_ble_eq_true rfl) (SC.ext O.2) hzc (by decide) (by decide)) q98a q98c (g := (mkF m 447 (own_F26 i1 i2 i3 (i1 &&& (127 : Int32)) cp bt tb tc (3 : Int32) b81 b87 b92 b94 z_97) [.ref z_97, .ref b92])) rfl (by rw [hml]; rfl) (Steps.refl _) (argsL := [.ref z_97]) (rest := []) (lenOf pd31 rfl) rfl (by show 2 * 0 + _ ≤ _; exact Nat.le_of_eq rfl) (hb hby at_447) (fun _ _ => ⟨rfl, rfl, (by decide : 12 + 0 ≤ _), (by decide : 93 + 0 ≤ _)⟩)
        dsimp only [Pt.U, Pt.locs, Pt.cells, Pt.slots] at X98 l98 y98 z98 st98 hQ98
        have X98 := own_un X98 l98 y98 z98
        obtain ⟨hv98, rfl, eh98⟩ := hQ98
        obtain rfl : v98 = some (.int (own_eqs ([(i1 &&& (127 : Int32)), cp, (own_tl (own_b tb))] : List Int32) ([(i1 &&& (127 : Int32)), cp, (own_tl (own_b tb))] : List Int32))) := by rcases hv98 with ⟨h1, h2⟩ | ⟨h1, h2⟩ <;> first | exact absurd rfl h2 | (rw [h1]; simp only [own_eqs, if_true])
        have N98 := Fr.app N97 (Fr.nil n0)
        have w99 : ∀ t, Steps p.tables e below (T98.setTop (mkF m 450 (own_F26 i1 i2 i3 (i1 &&& (127 : Int32)) cp bt tb tc (3 : Int32) b81 b87 b92 b94 z_97) [(.int (own_eqs ([(i1 &&& (127 : Int32)), cp, (own_tl (own_b tb))] : List Int32) ([(i1 &&& (127 : Int32)), cp, (own_tl (own_b tb))] : List Int32)))])) t → Steps p.tables e below (s₁.setTop (entryFrame m #[.int i1, .int i2, .int i3] maxLocals)) t := fun t k => by
          refine w91 t ?_
          refine st92 _ <| zdu X92 Hb at_415 rfl <| zaL X92 Hb at_416 rfl rfl <| st93 _ <| zaS X93 Hb (L' := (own_F24 i1 i2 i3 (i1 &&& (127 : Int32)) cp bt tb tc (3 : Int32) b81 b87 b92)) at_421 rfl rfl <| st94 _ <| zdu X94 Hb at_426 rfl <| st95 _ ?_
          refine zaL X95 Hb at_429 rfl rfl <| st96 _ <| zaS X96 Hb (L' := (own_F25 i1 i2 i3 (i1 &&& (127 : Int32)) cp bt tb tc (3 : Int32) b81 b87 b92 b94)) at_434 rfl rfl <| zaL X96 Hb at_436 rfl rfl <| st97.trans <| zaS X97 Hb (L' := (own_F26 i1 i2 i3 (i1 &&& (127 : Int32)) cp bt tb tc (3 : Int32) b81 b87 b92 b94 z_97)) at_441 rfl rfl <| zaL X97 Hb at_443 rfl rfl <| zaL X97 Hb at_445 rfl rfl ?_
          refine st98.trans ?_
          exact k
        obtain ⟨fs, hr, hrun, hended, hE⟩ := Stand.leaveW (s := s) (vm₁ := T95.vm) X98 hS (by rw [eh98]; exact hk) (v := some (.int ((own_eqs ([(i1 &&& (127 : Int32)), cp, (own_tl (own_b tb))] : List Int32) ([(i1 &&& (127 : Int32)), cp, (own_tl (own_b tb))] : List Int32)) &&& 1))) (fun h => by rw [Bd.returns] at h; cases h)
        refine ⟨_, _, w99 _ ?_, hrun, hended, _, _, rfl, ?_, ?_, own_mono hE (by decide) (by decide)⟩
        · exact retN X98 hx (t := .boolean) Bd.returns (by simp) (hb hby at_450) hr
        · show Q0 Z i1 i2 i3 zc fm u8  h0 n0 _ T98.heap _
          rw [eh98]
          exact ⟨(own_r1 _), N98⟩
        · rw [hh]; show CHr Z consts_1 s.vm h0 T98.vm T98.heap; rw [eh98]; exact C.trans (CHv.at X98 hZ hEL C.1)
      · obtain ⟨T100, h100, k100, X100, e100, E100, A100, EX100, st100⟩ := newPE X0 hx hZ (W 3 rfl) e0 (g := (mkF m 138 (own_F21 i1 i2 i3 (i1 &&& (127 : Int32)) cp bt tb tc (4 : Int32)) [.int 6])) rfl (hb hby at_138) rfl (by decide) (cap := 6) (by decide) (by decide) (by decide) (by decide) (ad := "[B") (by decide)
        obtain ⟨b100, gq100⟩ : ∃ z, z = Array.size h0 := ⟨_, rfl⟩
        rw [← gq100] at A100 EX100 st100
        have g_b100 : n0 ≤ b100 := Nat.le_trans (O.1 ▸ O.2.1) (Nat.le_of_eq gq100.symm)
        have R := CHr.ext E100 C.1
        have C := C.trans R
        have hk := Nat.le_trans hk E100.1
        have O := O.ext E100
        have V_b100 : Arv Z h100 b100 k100 .byte (6 : Int32) [.int 0, .int 0, .int 0, .int 0, .int 0, .int 0] (.int 0) := (Arv.new A100 (by decide)).pad (pad_rep [] (.int 0) 6)
        obtain ⟨T101, h101, X101, e101, W101, V_b100, st101⟩ := own_sB X100 Hb hZ e100 V_b100 (j := 0) (x := ((i1 &&& (127 : Int32)).toInt8.toInt32)) (L := (own_F22 i1 i2 i3 (i1 &&& (127 : Int32)) cp bt tb tc (4 : Int32) b100)) (S := []) (vs' := [(.int (((i1 &&& (127 : Int32)).toInt8.toInt32).toInt8.toInt32)), .int 0, .int 0, .int 0, .int 0, .int 0]) ⟨by decide, by decide⟩ rfl (Nat.le_of_ble_eq_true rfl) at_147 rfl
        have R := CHr.wr W101 own_sf0 C.1
        have C := C.trans R
        have hk := (by rw [W101.size]; exact hk : _ ≤ Array.size h101)
        have EX100 := EX100.wr W101
        have O := O.wr W101 g_b100
        have N101 := Fr.snoc X101 N0 g_b100
        obtain ⟨T102, h102, X102, e102, W102, V_b100, st102⟩ := own_sB X101 Hb hZ e101 V_b100 (j := 1) (x := (((240 : Int32) ||| (cp >>> ((18 : Int32) &&& 31))).toInt8.toInt32)) (L := (own_F22 i1 i2 i3 (i1 &&& (127 : Int32)) cp bt tb tc (4 : Int32) b100)) (S := []) (vs' := [(.int (((i1 &&& (127 : Int32)).toInt8.toInt32).toInt8.toInt32)), (.int ((((240 : Int32) ||| (cp >>> ((18 : Int32) &&& 31))).toInt8.toInt32).toInt8.toInt32)), .int 0, .int 0, .int 0, .int 0]) ⟨by decide, by decide⟩ rfl (Nat.le_of_ble_eq_true rfl) at_268 rfl
        have R := CHr.wr W102 own_sf0 C.1
        have C := C.trans R
        have hk := (by rw [W102.size]; exact hk : _ ≤ Array.size h102)
        have EX100 := EX100.wr W102
        have O := O.wr W102 g_b100
        have N102 := Fr.snoc X102 N101 g_b100
        obtain ⟨T103, h103, X103, e103, W103, V_b100, st103⟩ := own_sB X102 Hb hZ e102 V_b100 (j := 2) (x := (((128 : Int32) ||| ((cp >>> ((12 : Int32) &&& 31)) &&& (63 : Int32))).toInt8.toInt32)) (L := (own_F22 i1 i2 i3 (i1 &&& (127 : Int32)) cp bt tb tc (4 : Int32) b100)) (S := []) (vs' := [(.int (((i1 &&& (127 : Int32)).toInt8.toInt32).toInt8.toInt32)), (.int ((((240 : Int32) ||| (cp >>> ((18 : Int32) &&& 31))).toInt8.toInt32).toInt8.toInt32)), (.int ((((128 : Int32) ||| ((cp >>> ((12 : Int32) &&& 31)) &&& (63 : Int32))).toInt8.toInt32).toInt8.toInt32)), .int 0, .int 0, .int 0]) ⟨by decide, by decide⟩ rfl (Nat.le_of_ble_eq_true rfl) at_285 rfl
        have R := CHr.wr W103 own_sf0 C.1
        have C := C.trans R
        have hk := (by rw [W103.size]; exact hk : _ ≤ Array.size h103)
        have EX100 := EX100.wr W103
        have O := O.wr W103 g_b100
        have N103 := Fr.snoc X103 N102 g_b100
        obtain ⟨T104, h104, X104, e104, W104, V_b100, st104⟩ := own_sB X103 Hb hZ e103 V_b100 (j := 3) (x := (((128 : Int32) ||| ((cp >>> ((6 : Int32) &&& 31)) &&& (63 : Int32))).toInt8.toInt32)) (L := (own_F22 i1 i2 i3 (i1 &&& (127 : Int32)) cp bt tb tc (4 : Int32) b100)) (S := []) (vs' := [(.int (((i1 &&& (127 : Int32)).toInt8.toInt32).toInt8.toInt32)), (.int ((((240 : Int32) ||| (cp >>> ((18 : Int32) &&& 31))).toInt8.toInt32).toInt8.toInt32)), (.int ((((128 : Int32) ||| ((cp >>> ((12 : Int32) &&& 31)) &&& (63 : Int32))).toInt8.toInt32).toInt8.toInt32)), (.int ((((128 : Int32) ||| ((cp >>> ((6 : Int32) &&& 31)) &&& (63 : Int32))).toInt8.toInt32).toInt8.toInt32)), .int 0, .int 0]) ⟨by decide, by decide⟩ rfl (Nat.le_of_ble_eq_true rfl) at_302 rfl
        have R := CHr.wr W104 own_sf0 C.1
        have C := C.trans R
        have hk := (by rw [W104.size]; exact hk : _ ≤ Array.size h104)
        have EX100 := EX100.wr W104
        have O := O.wr W104 g_b100
        have N104 := Fr.snoc X104 N103 g_b100
        obtain ⟨T105, h105, X105, e105, W105, V_b100, st105⟩ := own_sB X104 Hb hZ e104 V_b100 (j := 4) (x := (((128 : Int32) ||| (cp &&& (63 : Int32))).toInt8.toInt32)) (L := (own_F22 i1 i2 i3 (i1 &&& (127 : Int32)) cp bt tb tc (4 : Int32) b100)) (S := []) (vs' := [(.int (((i1 &&& (127 : Int32)).toInt8.toInt32).toInt8.toInt32)), (.int ((((240 : Int32) ||| (cp >>> ((18 : Int32) &&& 31))).toInt8.toInt32).toInt8.toInt32)), (.int ((((128 : Int32) ||| ((cp >>> ((12 : Int32) &&& 31)) &&& (63 : Int32))).toInt8.toInt32).toInt8.toInt32)), (.int ((((128 : Int32) ||| ((cp >>> ((6 : Int32) &&& 31)) &&& (63 : Int32))).toInt8.toInt32).toInt8.toInt32)), (.int ((((128 : Int32) ||| (cp &&& (63 : Int32))).toInt8.toInt32).toInt8.toInt32)), .int 0]) ⟨by decide, by decide⟩ rfl (Nat.le_of_ble_eq_true rfl) at_316 rfl
        have R := CHr.wr W105 own_sf0 C.1
        have C := C.trans R
        have hk := (by rw [W105.size]; exact hk : _ ≤ Array.size h105)
        have EX100 := EX100.wr W105
        have O := O.wr W105 g_b100
        have N105 := Fr.snoc X105 N104 g_b100
        obtain ⟨T106, h106, X106, e106, W106, V_b100, st106⟩ := own_sB X105 Hb hZ e105 V_b100 (j := 5) (x := (tb.toInt8.toInt32)) (L := (own_F22 i1 i2 i3 (i1 &&& (127 : Int32)) cp bt tb tc (4 : Int32) b100)) (S := []) (vs' := [(.int (((i1 &&& (127 : Int32)).toInt8.toInt32).toInt8.toInt32)), (.int ((((240 : Int32) ||| (cp >>> ((18 : Int32) &&& 31))).toInt8.toInt32).toInt8.toInt32)), (.int ((((128 : Int32) ||| ((cp >>> ((12 : Int32) &&& 31)) &&& (63 : Int32))).toInt8.toInt32).toInt8.toInt32)), (.int ((((128 : Int32) ||| ((cp >>> ((6 : Int32) &&& 31)) &&& (63 : Int32))).toInt8.toInt32).toInt8.toInt32)), (.int ((((128 : Int32) ||| (cp &&& (63 : Int32))).toInt8.toInt32).toInt8.toInt32)), (.int ((tb.toInt8.toInt32).toInt8.toInt32))]) ⟨by decide, by decide⟩ rfl (Nat.le_of_ble_eq_true rfl) at_326 rfl
        have R := CHr.wr W106 own_sf0 C.1
        have C := C.trans R
        have hk := (by rw [W106.size]; exact hk : _ ≤ Array.size h106)
        have EX100 := EX100.wr W106
        have O := O.wr W106 g_b100
        have N106 := Fr.snoc X106 N105 g_b100
        have w107 : ∀ t, Steps p.tables e below (T106.setTop (mkF m 364 (own_F27 i1 i2 i3 (i1 &&& (127 : Int32)) cp bt tb tc (4 : Int32) b100 (cp - (65536 : Int32))) [])) t → Steps p.tables e below (s₁.setTop (entryFrame m #[.int i1, .int i2, .int i3] maxLocals)) t := fun t k => by
          refine w79 t ?_
          refine zcy X0 Hb at_122 (flt hc122_80).2.1 131 (by decide) rfl <| zic X0 Hb at_131 4 rfl <| ziS X0 Hb (L' := (own_F21 i1 i2 i3 (i1 &&& (127 : Int32)) cp bt tb tc (4 : Int32))) at_132 rfl <| zic X0 Hb at_134 2 rfl <| ziL X0 Hb at_135 rfl <| zia' X0 Hb at_137 6 rfl <| st100 _ <| zaS X100 Hb (L' := (own_F22 i1 i2 i3 (i1 &&& (127 : Int32)) cp bt tb tc (4 : Int32) b100)) at_140 rfl rfl ?_
          refine zaL X100 Hb at_142 rfl rfl <| zic X100 Hb at_144 0 rfl <| zil X100 Hb at_145 rfl <| zib X100 Hb at_146 <| st101 _ <| ziL X101 Hb at_148 rfl <| zic X101 Hb at_150 1 rfl <| zcy X101 Hb at_151 (feq ((by decide) : ¬ ((4 : Int32) = (1 : Int32)))).2 164 (by decide) rfl ?_
          refine ziL X101 Hb at_164 rfl <| zic X101 Hb at_166 2 rfl <| zcy X101 Hb at_167 (feq ((by decide) : ¬ ((4 : Int32) = (2 : Int32)))).2 201 (by decide) rfl <| ziL X101 Hb at_201 rfl <| zic X101 Hb at_203 3 rfl <| zcy X101 Hb at_204 (feq ((by decide) : ¬ ((4 : Int32) = (3 : Int32)))).2 255 (by decide) rfl <| zaL X101 Hb at_255 rfl rfl <| zic X101 Hb at_257 1 rfl ?_
          refine zsp X101 Hb at_258 240 rfl <| ziL X101 Hb at_261 rfl <| zbp X101 Hb at_263 18 rfl <| zsr X101 Hb at_265 <| zor X101 Hb at_266 <| zib X101 Hb at_267 <| st102 _ <| zaL X102 Hb at_269 rfl rfl ?_
          refine zic X102 Hb at_271 2 rfl <| zsp X102 Hb at_272 128 rfl <| ziL X102 Hb at_275 rfl <| zbp X102 Hb at_277 12 rfl <| zsr X102 Hb at_279 <| zbp X102 Hb at_280 63 rfl <| zan X102 Hb at_282 <| zor X102 Hb at_283 ?_
          refine zib X102 Hb at_284 <| st103 _ <| zaL X103 Hb at_286 rfl rfl <| zic X103 Hb at_288 3 rfl <| zsp X103 Hb at_289 128 rfl <| ziL X103 Hb at_292 rfl <| zbp X103 Hb at_294 6 rfl <| zsr X103 Hb at_296 ?_
          refine zbp X103 Hb at_297 63 rfl <| zan X103 Hb at_299 <| zor X103 Hb at_300 <| zib X103 Hb at_301 <| st104 _ <| zaL X104 Hb at_303 rfl rfl <| zic X104 Hb at_305 4 rfl <| zsp X104 Hb at_306 128 rfl ?_
          refine ziL X104 Hb at_309 rfl <| zbp X104 Hb at_311 63 rfl <| zan X104 Hb at_313 <| zor X104 Hb at_314 <| zib X104 Hb at_315 <| st105 _ <| zaL X105 Hb at_317 rfl rfl <| zic X105 Hb at_319 1 rfl ?_
          refine ziL X105 Hb at_320 rfl <| zia' X105 Hb at_322 5 rfl <| ziL X105 Hb at_323 rfl <| zib X105 Hb at_325 <| st106 _ <| ziL X106 Hb at_327 rfl <| zic X106 Hb at_329 4 rfl <| zcy X106 Hb at_330 (flt ((by decide) : ¬ ((4 : Int32) < (4 : Int32)))).2.1 357 (by decide) rfl ?_
          refine ziL X106 Hb at_357 rfl <| X106.ldcInt hx hown (mvT hZ (W 98 rfl)) (g := (mkF m 359 (own_F22 i1 i2 i3 (i1 &&& (127 : Int32)) cp bt tb tc (4 : Int32) b100) [.int cp])) rfl (hb hby at_359) _ <| zsu X106 Hb at_361 <| ziS X106 Hb (L' := (own_F27 i1 i2 i3 (i1 &&& (127 : Int32)) cp bt tb tc (4 : Int32) b100 (cp - (65536 : Int32)))) at_362 rfl ?_
          exact k
        have w108 : ∀ t, Steps p.tables e below (T106.setTop (mkF m 375 (own_F28 i1 i2 i3 (i1 &&& (127 : Int32)) cp bt tb tc (4 : Int32) b100 (cp - (65536 : Int32)) (((55296 : Int32) + ((cp - (65536 : Int32)) >>> ((10 : Int32) &&& 31))).toUInt32.toUInt16.toUInt32.toInt32)) [])) t → Steps p.tables e below (s₁.setTop (entryFrame m #[.int i1, .int i2, .int i3] maxLocals)) t := fun t k => by
          refine w107 t ?_
          refine X106.ldcInt hx hown (mvT hZ (W 2 rfl)) (g := (mkF m 364 (own_F27 i1 i2 i3 (i1 &&& (127 : Int32)) cp bt tb tc (4 : Int32) b100 (cp - (65536 : Int32))) [])) rfl (hb hby at_364) _ <| ziL X106 Hb at_366 rfl <| zbp X106 Hb at_368 10 rfl <| zsr X106 Hb at_370 <| zia X106 Hb at_371 <| zik X106 Hb at_372 <| ziS X106 Hb at_373 rfl ?_
          exact k
        obtain ⟨T109, h109, k109, X109, e109, E109, A109, st109⟩ := newP X106 hx hZ (W 4 rfl) e106 (g := (mkF m 388 (own_F29 i1 i2 i3 (i1 &&& (127 : Int32)) cp bt tb tc (4 : Int32) b100 (cp - (65536 : Int32)) (((55296 : Int32) + ((cp - (65536 : Int32)) >>> ((10 : Int32) &&& 31))).toUInt32.toUInt16.toUInt32.toInt32) (((56320 : Int32) + ((cp - (65536 : Int32)) &&& (1023 : Int32))).toUInt32.toUInt16.toUInt32.toInt32)) [.int 4])) rfl (hb hby at_388) rfl (by decide) (cap := 4) (by decide) (by decide) (by decide) (by decide)
        obtain ⟨b109, gq109⟩ : ∃ z, z = Array.size h106 := ⟨_, rfl⟩
        rw [← gq109] at A109 st109
        have ne_b100_b109 : b100 ≠ b109 := Nat.ne_of_lt (Nat.lt_of_lt_of_le EX100.lt (Nat.le_of_eq gq109.symm))
        have g_b109 : n0 ≤ b109 := Nat.le_trans (O.1 ▸ O.2.1) (Nat.le_of_eq gq109.symm)
        have R := CHr.ext E109 C.1
        have C := C.trans R
        have hk := Nat.le_trans hk E109.1
        have EX100 := EX100.ext E109
        have V_b100 := V_b100.ext E109
        have O := O.ext E109
        have V_b109 : Arv Z h109 b109 k109 .char (4 : Int32) [.int 0, .int 0, .int 0, .int 0] (.int 0) := (Arv.new A109 (by decide)).pad (pad_rep [] (.int 0) 4)
        obtain ⟨T110, h110, X110, e110, W110, V_b109, st110⟩ := own_sC X109 Hb hZ e109 V_b109 (j := 0) (x := ((i1 &&& (127 : Int32)).toUInt32.toUInt16.toUInt32.toInt32)) (L := (own_F29 i1 i2 i3 (i1 &&& (127 : Int32)) cp bt tb tc (4 : Int32) b100 (cp - (65536 : Int32)) (((55296 : Int32) + ((cp - (65536 : Int32)) >>> ((10 : Int32) &&& 31))).toUInt32.toUInt16.toUInt32.toInt32) (((56320 : Int32) + ((cp - (65536 : Int32)) &&& (1023 : Int32))).toUInt32.toUInt16.toUInt32.toInt32))) (S := [.ref b109]) (vs' := [(.int (((i1 &&& (127 : Int32)).toUInt32.toUInt16.toUInt32.toInt32).toUInt32.toUInt16.toUInt32.toInt32)), .int 0, .int 0, .int 0]) ⟨by decide, by decide⟩ rfl (Nat.le_of_ble_eq_true rfl) at_394 rfl
        have R := CHr.wr W110 own_sf0 C.1
        have C := C.trans R
        have hk := (by rw [W110.size]; exact hk : _ ≤ Array.size h110)
        have EX100 := EX100.wr W110
        have V_b100 := V_b100.other W110 ne_b100_b109
        have O := O.wr W110 g_b109
        have N110 := Fr.snoc X110 N106 g_b109
        obtain ⟨T111, h111, X111, e111, W111, V_b109, st111⟩ := own_sC X110 Hb hZ e110 V_b109 (j := 1) (x := (((55296 : Int32) + ((cp - (65536 : Int32)) >>> ((10 : Int32) &&& 31))).toUInt32.toUInt16.toUInt32.toInt32)) (L := (own_F29 i1 i2 i3 (i1 &&& (127 : Int32)) cp bt tb tc (4 : Int32) b100 (cp - (65536 : Int32)) (((55296 : Int32) + ((cp - (65536 : Int32)) >>> ((10 : Int32) &&& 31))).toUInt32.toUInt16.toUInt32.toInt32) (((56320 : Int32) + ((cp - (65536 : Int32)) &&& (1023 : Int32))).toUInt32.toUInt16.toUInt32.toInt32))) (S := [.ref b109]) (vs' := [(.int (((i1 &&& (127 : Int32)).toUInt32.toUInt16.toUInt32.toInt32).toUInt32.toUInt16.toUInt32.toInt32)), (.int ((((55296 : Int32) + ((cp - (65536 : Int32)) >>> ((10 : Int32) &&& 31))).toUInt32.toUInt16.toUInt32.toInt32).toUInt32.toUInt16.toUInt32.toInt32)), .int 0, .int 0]) ⟨by decide, by decide⟩ rfl (Nat.le_of_ble_eq_true rfl) at_399 rfl
        have R := CHr.wr W111 own_sf0 C.1
        have C := C.trans R
        have hk := (by rw [W111.size]; exact hk : _ ≤ Array.size h111)
        have EX100 := EX100.wr W111
        have V_b100 := V_b100.other W111 ne_b100_b109
        have O := O.wr W111 g_b109
        have N111 := Fr.snoc X111 N110 g_b109
        obtain ⟨T112, h112, X112, e112, W112, V_b109, st112⟩ := own_sC X111 Hb hZ e111 V_b109 (j := 2) (x := (((56320 : Int32) + ((cp - (65536 : Int32)) &&& (1023 : Int32))).toUInt32.toUInt16.toUInt32.toInt32)) (L := (own_F29 i1 i2 i3 (i1 &&& (127 : Int32)) cp bt tb tc (4 : Int32) b100 (cp - (65536 : Int32)) (((55296 : Int32) + ((cp - (65536 : Int32)) >>> ((10 : Int32) &&& 31))).toUInt32.toUInt16.toUInt32.toInt32) (((56320 : Int32) + ((cp - (65536 : Int32)) &&& (1023 : Int32))).toUInt32.toUInt16.toUInt32.toInt32))) (S := [.ref b109]) (vs' := [(.int (((i1 &&& (127 : Int32)).toUInt32.toUInt16.toUInt32.toInt32).toUInt32.toUInt16.toUInt32.toInt32)), (.int ((((55296 : Int32) + ((cp - (65536 : Int32)) >>> ((10 : Int32) &&& 31))).toUInt32.toUInt16.toUInt32.toInt32).toUInt32.toUInt16.toUInt32.toInt32)), (.int ((((56320 : Int32) + ((cp - (65536 : Int32)) &&& (1023 : Int32))).toUInt32.toUInt16.toUInt32.toInt32).toUInt32.toUInt16.toUInt32.toInt32)), .int 0]) ⟨by decide, by decide⟩ rfl (Nat.le_of_ble_eq_true rfl) at_404 rfl
        have R := CHr.wr W112 own_sf0 C.1
        have C := C.trans R
        have hk := (by rw [W112.size]; exact hk : _ ≤ Array.size h112)
        have EX100 := EX100.wr W112
        have V_b100 := V_b100.other W112 ne_b100_b109
        have O := O.wr W112 g_b109
        have N112 := Fr.snoc X112 N111 g_b109
        obtain ⟨T113, h113, X113, e113, W113, V_b109, st113⟩ := own_sC X112 Hb hZ e112 V_b109 (j := 3) (x := tc) (L := (own_F29 i1 i2 i3 (i1 &&& (127 : Int32)) cp bt tb tc (4 : Int32) b100 (cp - (65536 : Int32)) (((55296 : Int32) + ((cp - (65536 : Int32)) >>> ((10 : Int32) &&& 31))).toUInt32.toUInt16.toUInt32.toInt32) (((56320 : Int32) + ((cp - (65536 : Int32)) &&& (1023 : Int32))).toUInt32.toUInt16.toUInt32.toInt32))) (S := [.ref b109]) (vs' := [(.int (((i1 &&& (127 : Int32)).toUInt32.toUInt16.toUInt32.toInt32).toUInt32.toUInt16.toUInt32.toInt32)), (.int ((((55296 : Int32) + ((cp - (65536 : Int32)) >>> ((10 : Int32) &&& 31))).toUInt32.toUInt16.toUInt32.toInt32).toUInt32.toUInt16.toUInt32.toInt32)), (.int ((((56320 : Int32) + ((cp - (65536 : Int32)) &&& (1023 : Int32))).toUInt32.toUInt16.toUInt32.toInt32).toUInt32.toUInt16.toUInt32.toInt32)), .int (tc.toUInt32.toUInt16.toUInt32.toInt32)]) ⟨by decide, by decide⟩ rfl (Nat.le_of_ble_eq_true rfl) at_409 rfl
        have R := CHr.wr W113 own_sf0 C.1
        have C := C.trans R
        have hk := (by rw [W113.size]; exact hk : _ ≤ Array.size h113)
        have EX100 := EX100.wr W113
        have V_b100 := V_b100.other W113 ne_b100_b109
        have O := O.wr W113 g_b109
        have N113 := Fr.snoc X113 N112 g_b109
        have w114 : ∀ t, Steps p.tables e below (T113.setTop (mkF m 412 (own_F30 i1 i2 i3 (i1 &&& (127 : Int32)) cp bt tb tc (4 : Int32) b100 b109 (cp - (65536 : Int32)) (((55296 : Int32) + ((cp - (65536 : Int32)) >>> ((10 : Int32) &&& 31))).toUInt32.toUInt16.toUInt32.toInt32) (((56320 : Int32) + ((cp - (65536 : Int32)) &&& (1023 : Int32))).toUInt32.toUInt16.toUInt32.toInt32)) [])) t → Steps p.tables e below (s₁.setTop (entryFrame m #[.int i1, .int i2, .int i3] maxLocals)) t := fun t k => by
          refine w108 t ?_
          refine X106.ldcInt hx hown (mvT hZ (W 99 rfl)) (g := (mkF m 375 (own_F28 i1 i2 i3 (i1 &&& (127 : Int32)) cp bt tb tc (4 : Int32) b100 (cp - (65536 : Int32)) (((55296 : Int32) + ((cp - (65536 : Int32)) >>> ((10 : Int32) &&& 31))).toUInt32.toUInt16.toUInt32.toInt32)) [])) rfl (hb hby at_375) _ <| ziL X106 Hb at_377 rfl <| zsp X106 Hb at_379 1023 rfl <| zan X106 Hb at_382 <| zia X106 Hb at_383 <| zik X106 Hb at_384 <| ziS X106 Hb at_385 rfl <| zic X106 Hb at_387 4 rfl ?_
          refine st109 _ <| zdu X109 Hb at_390 rfl <| zic X109 Hb at_391 0 rfl <| zil X109 Hb at_392 rfl <| zik X109 Hb at_393 <| st110 _ <| zdu X110 Hb at_395 rfl <| zic X110 Hb at_396 1 rfl ?_
          refine ziL X110 Hb at_397 rfl <| st111 _ <| zdu X111 Hb at_400 rfl <| zic X111 Hb at_401 2 rfl <| ziL X111 Hb at_402 rfl <| st112 _ <| zdu X112 Hb at_405 rfl <| zic X112 Hb at_406 3 rfl ?_
          refine ziL X112 Hb at_407 rfl <| st113 _ <| zaS X113 Hb at_410 rfl rfl ?_
          exact k
        have hc95 := hc95_17
        have hc109 := hc109_44
        have hc122 := hc122_80
        have hP := own_s7 i1
        have hT := own_tail htb htc
        have V_b100 : Arv Z h113 b100 k100 .byte (6 : Int32) [(.int (i1 &&& (127 : Int32))), .int (own_4a cp), .int (own_t12 cp), .int (own_t6 cp), .int (own_t0 cp), .int (own_b tb)] (.int 0) := by
          have q : Arv Z h113 b100 k100 .byte (6 : Int32) [(.int (own_b (i1 &&& (127 : Int32)))), .int (own_4a cp), .int (own_t12 cp), .int (own_t6 cp), .int (own_t0 cp), .int (own_b tb)] (.int 0) := V_b100
          rw [hP.2.1] at q
          exact q
        have V_b109 : Arv Z h113 b109 k109 .char (4 : Int32) [(.int (i1 &&& (127 : Int32))), .int (own_xh cp), .int (own_xl cp), (.int (own_tl (own_b tb)))] (.int 0) := by
          have q : Arv Z h113 b109 k109 .char (4 : Int32) [(.int (own_k (own_k (i1 &&& (127 : Int32))))), .int (own_xh cp), .int (own_xl cp), .int (own_k tc)] (.int 0) := V_b109
          rw [hP.1, hP.1, hT] at q
          exact q
        have hr1 : 65536 ≤ cp.toInt ∧ cp.toInt < 1114112 := by have h0 := hR.1; have h9 := hR.2.1; have q0 := own_lt0 hc122; have e1 : (65536 : Int32).toInt = 65536 := rfl; have e2 : (2048 : Int32).toInt = 2048 := rfl; have e3 : (128 : Int32).toInt = 128 := rfl; have e4 : (256 : Int32).toInt = 256 := rfl; have e5 : (255 : Int32).toInt = 255 := rfl; have e6 : (1114112 : Int32).toInt = 1114112 := rfl; have e7 : (55296 : Int32).toInt = 55296 := rfl; have e8 : (57344 : Int32).toInt = 57344 := rfl; omega
        have hw5 := own_xhv cp hr1.1 hr1.2
        have hp := own_p4 cp hr1.1 hr1.2
        have hs5 : cp < (1114112 : Int32) := own_ltI (by have := hr1.2; have e1 : (65536 : Int32).toInt = 65536 := rfl; have e2 : (2048 : Int32).toInt = 2048 := rfl; have e3 : (128 : Int32).toInt = 128 := rfl; have e4 : (256 : Int32).toInt = 256 := rfl; have e5 : (255 : Int32).toInt = 255 := rfl; have e6 : (1114112 : Int32).toInt = 1114112 := rfl; have e7 : (55296 : Int32).toInt = 55296 := rfl; have e8 : (57344 : Int32).toInt = 57344 := rfl; omega)
        obtain ⟨T115, h115, X115, e115, E115, A115, D115, -, st115⟩ := newO X113 hx hZ hown (W 5 rfl) (W 6 rfl) (W 7 rfl) e113 (g := (mkF m 412 (own_F30 i1 i2 i3 (i1 &&& (127 : Int32)) cp bt tb tc (4 : Int32) b100 b109 (cp - (65536 : Int32)) (((55296 : Int32) + ((cp - (65536 : Int32)) >>> ((10 : Int32) &&& 31))).toUInt32.toUInt16.toUInt32.toInt32) (((56320 : Int32) + ((cp - (65536 : Int32)) &&& (1023 : Int32))).toUInt32.toUInt16.toUInt32.toInt32)) [])) rfl (hb hby at_412) (by decide) (by decide)
        obtain ⟨b115, gq115⟩ : ∃ z, z = Array.size h113 := ⟨_, rfl⟩
        rw [← gq115] at A115 D115 st115
        have ne_b100_b115 : b100 ≠ b115 := Nat.ne_of_lt (Nat.lt_of_lt_of_le EX100.lt (Nat.le_of_eq gq115.symm))
        have ne_b109_b115 : b109 ≠ b115 := Nat.ne_of_lt (Nat.lt_of_lt_of_le V_b109.lt (Nat.le_of_eq gq115.symm))
        have g_b115 : n0 ≤ b115 := Nat.le_trans (O.1 ▸ O.2.1) (Nat.le_of_eq gq115.symm)
        have R := CHr.ext E115 C.1
        have C := C.trans R
        have hk := Nat.le_trans hk E115.1
        have EX100 := EX100.ext E115
        have V_b100 := V_b100.ext E115
        have V_b109 := V_b109.ext E115
        have O := O.ext E115
        have F_coder_b115 : Fld Z h115 b115 "java/lang/String" "coder" "B" (.int 0) := D115 (Or.inr (W 30 rfl)) (ty := .byte) (by decide)
        have F_value_b115 : Fld Z h115 b115 "java/lang/String" "value" "[B" .null := D115 (Or.inr (W 32 rfl)) (ty := (.array .byte)) (by decide)
        obtain ⟨_, T116, Lc116, X116, hQ116, st116⟩ := own_cI X115 Hb hZ hown hml (L := (own_F30 i1 i2 i3 (i1 &&& (127 : Int32)) cp bt tb tc (4 : Int32) b100 b109 (cp - (65536 : Int32)) (((55296 : Int32) + ((cp - (65536 : Int32)) >>> ((10 : Int32) &&& 31))).toUInt32.toUInt16.toUInt32.toInt32) (((56320 : Int32) + ((cp - (65536 : Int32)) &&& (1023 : Int32))).toUInt32.toUInt16.toUInt32.toInt32))) rfl (rm1_4_1 hw b115 b109 k109 (i1 &&& (127 : Int32)) (own_xh cp) (own_xl cp) (own_tl (own_b tb)) O SU A115 F_value_b115 F_coder_b115 V_b109 hP.2.2.2.1 hw5 (own_gck _) g_b115) (W 8 rfl) (W 9 rfl) (W 7 rfl) (W 10 rfl) pd28 e115 at_418 b115 [.ref b109] [.ref b115] rfl rfl (by decide) 1 rfl (by decide)
        obtain ⟨t1_116, kb_116, rfl, N116q, K116, F_v_a_c116, F_c_a_c116, V_t1_c116⟩ := hQ116
        have N116 := Fr.app N113 N116q
        have R := CHr.keep K116 (allS own_sf0 all0) C.1
        have C := C.trans R
        have hk := Nat.le_trans hk K116.1
        have EX100 := EX100.keep K116
        have V_b100 := V_b100.keep K116 (ninS ne_b100_b115 nin0)
        have V_b109 := V_b109.keep K116 (ninS ne_b109_b115 nin0)
        have A115 := A115.keep K116
        have O := O.keep K116 (allS g_b115 all0)
        obtain ⟨T117, h117, X117, e117, E117, A117, D117, -, st117⟩ := newO X116 hx hZ hown (W 33 rfl) (W 34 rfl) (W 35 rfl) rfl (g := (mkF m 423 (own_F31 i1 i2 i3 (i1 &&& (127 : Int32)) cp bt tb tc (4 : Int32) b100 b109 b115 (((55296 : Int32) + ((cp - (65536 : Int32)) >>> ((10 : Int32) &&& 31))).toUInt32.toUInt16.toUInt32.toInt32) (((56320 : Int32) + ((cp - (65536 : Int32)) &&& (1023 : Int32))).toUInt32.toUInt16.toUInt32.toInt32)) [])) rfl (hb hby at_423) (by decide) (by decide)
        obtain ⟨b117, gq117⟩ : ∃ z, z = Array.size T116.heap := ⟨_, rfl⟩
        rw [← gq117] at A117 D117 st117
        have ne_b100_b117 : b100 ≠ b117 := Nat.ne_of_lt (Nat.lt_of_lt_of_le EX100.lt (Nat.le_of_eq gq117.symm))
        have ne_b109_b117 : b109 ≠ b117 := Nat.ne_of_lt (Nat.lt_of_lt_of_le V_b109.lt (Nat.le_of_eq gq117.symm))
        have ne_b115_b117 : b115 ≠ b117 := Nat.ne_of_lt (Nat.lt_of_lt_of_le A115.lt (Nat.le_of_eq gq117.symm))
        have ne_t1_116_b117 : t1_116 ≠ b117 := Nat.ne_of_lt (Nat.lt_of_lt_of_le V_t1_c116.lt (Nat.le_of_eq gq117.symm))
        have g_b117 : n0 ≤ b117 := Nat.le_trans (O.1 ▸ O.2.1) (Nat.le_of_eq gq117.symm)
        have R := CHr.ext E117 C.1
        have C := C.trans R
        have hk := Nat.le_trans hk E117.1
        have EX100 := EX100.ext E117
        have V_b100 := V_b100.ext E117
        have V_b109 := V_b109.ext E117
        have A115 := A115.ext E117
        have F_v_a_c116 := F_v_a_c116.ext E117
        have F_c_a_c116 := F_c_a_c116.ext E117
        have V_t1_c116 := V_t1_c116.ext E117
        have O := O.ext E117
        have F_contentType_b117 : Fld Z h117 b117 "com/example/gradual_reply/gradualreply/EncodedBody" "contentType" "Ljava/lang/String;" .null := D117 (Or.inr (W 44 rfl)) (ty := (.object "java/lang/String")) (by decide)
        have F_bytes_b117 : Fld Z h117 b117 "com/example/gradual_reply/gradualreply/EncodedBody" "bytes" "[B" .null := D117 (Or.inr (W 46 rfl)) (ty := (.array .byte)) (by decide)
        obtain ⟨a118, T118, h118, kk118, X118, e118, E118, hS, hk', hZ, hown, R118, -, st118⟩ := ldcOH X117 hx hZ hown (W 36 rfl) hSA e117 hS hk hEL C.1 (g := (mkF m 427 (own_F31 i1 i2 i3 (i1 &&& (127 : Int32)) cp bt tb tc (4 : Int32) b100 b109 b115 (((55296 : Int32) + ((cp - (65536 : Int32)) >>> ((10 : Int32) &&& 31))).toUInt32.toUInt16.toUInt32.toInt32) (((56320 : Int32) + ((cp - (65536 : Int32)) &&& (1023 : Int32))).toUInt32.toUInt16.toUInt32.toInt32)) [.ref b117, .ref b117])) rfl (hb hby at_427) (n := 40) (by decide +kernel) (by decide) (by decide) (by decide)
        have R := R118
        have C := C.trans R
        have hk := hk'
        have EX100 := EX100.ext E118
        have V_b100 := V_b100.ext E118
        have V_b109 := V_b109.ext E118
        have A115 := A115.ext E118
        have F_v_a_c116 := F_v_a_c116.ext E118
        have F_c_a_c116 := F_c_a_c116.ext E118
        have V_t1_c116 := V_t1_c116.ext E118
        have A117 := A117.ext E118
        have F_contentType_b117 := F_contentType_b117.ext E118
        have F_bytes_b117 := F_bytes_b117.ext E118
        have O := O.ext E118
        obtain ⟨_, T119, Lc119, X119, hQ119, st119⟩ := own_cI X118 Hb hZ hown hml (L := (own_F31 i1 i2 i3 (i1 &&& (127 : Int32)) cp bt tb tc (4 : Int32) b100 b109 b115 (((55296 : Int32) + ((cp - (65536 : Int32)) >>> ((10 : Int32) &&& 31))).toUInt32.toUInt16.toUInt32.toInt32) (((56320 : Int32) + ((cp - (65536 : Int32)) &&& (1023 : Int32))).toUInt32.toUInt16.toUInt32.toInt32))) rfl (rm7 hw b117 a118 b100 O A117 F_contentType_b117 F_bytes_b117 g_b117) (W 39 rfl) (W 40 rfl) (W 35 rfl) (W 41 rfl) pd29 e118 at_431 b117 [.ref a118, .ref b100] [.ref b117] rfl rfl (by decide) 1 rfl (by decide)
        obtain ⟨rfl, N119q, K119, F_t_a_c119, F_b_a_c119⟩ := hQ119
        have N119 := Fr.app N116 N119q
        have R := CHr.keep K119 (allS own_sf0 all0) C.1
        have C := C.trans R
        have hk := Nat.le_trans hk K119.1
        have EX100 := EX100.keep K119
        have V_b100 := V_b100.keep K119 (ninS ne_b100_b117 nin0)
        have V_b109 := V_b109.keep K119 (ninS ne_b109_b117 nin0)
        have A115 := A115.keep K119
        have F_v_a_c116 := F_v_a_c116.keep K119 (ninS ne_b115_b117 nin0)
        have F_c_a_c116 := F_c_a_c116.keep K119 (ninS ne_b115_b117 nin0)
        have V_t1_c116 := V_t1_c116.keep K119 (ninS ne_t1_116_b117 nin0)
        have A117 := A117.keep K119
        have O := O.keep K119 (allS g_b117 all0)
        have E_u8 := o_E_u8.ext O.2
        obtain ⟨cq120, kq120, q120a, q120b, q120c⟩ := isOf hZ rfl A117
        obtain ⟨_, _, ⟨T120, L120, k120, n120⟩, -, X120, ⟨Lc120, hQ120, l120, y120, z120⟩, st120⟩ := X119.virtualBack hx (y := own_n8) (z := own_n8) hown (mvT hZ (W 47 rfl)) (mvT hZ (W 48 rfl)) (notFace_of_selects (args := #[]) (mvT hZ (W 50 rfl))) (mvT hZ (W 50 rfl)) (mvT hZ (W 49 rfl)) (by decide) (own_bk (W := 0) (rm8_F hw b117 b100 k100 (i1 &&& (127 : Int32)) (own_4a cp) (own_t12 cp) (own_t6 cp) (own_t0 cp) (own_b tb) cp O SU F_b_a_c119 V_b100 EX100 E_u8 hP.2.2.1 hp (by rw [Int32.lt_iff_toInt_lt]; have := hr1.1; have e1 : (65536 : Int32).toInt = 65536 := rfl; omega) hs5) hZ (W 51 rfl) (W 35 rfl) (by decide) (by decide)) q120a q120c (g := (mkF m 438 (own_F32 i1 i2 i3 (i1 &&& (127 : Int32)) cp bt tb tc (4 : Int32) b100 b109 b115 b117 (((56320 : Int32) + ((cp - (65536 : Int32)) &&& (1023 : Int32))).toUInt32.toUInt16.toUInt32.toInt32)) [.ref b117])) rfl (by rw [hml]; rfl) (Steps.refl _) (argsL := []) (rest := []) (lenOf pd30 rfl) rfl (by show 2 * 0 + _ ≤ _; exact Nat.le_of_eq rfl) (hb hby at_438) (fun _ _ => ⟨rfl, rfl, (by decide : 8 + 4 ≤ _), (by decide : 72 + 30 ≤ _)⟩)
        dsimp only [Pt.U, Pt.locs, Pt.cells, Pt.slots] at X120 l120 y120 z120 st120 hQ120
        have X120 := own_un X120 l120 y120 z120
        obtain ⟨z_120, t1_120, kt_120, rfl, N120q, K120, E_z_c120, F_v_z_c120, F_c_z_c120, V_t_c120⟩ := hQ120
        have N120 := Fr.app N119 N120q
        have R := CHr.keep K120 all0 C.1
        have C := C.trans R
        have hk := Nat.le_trans hk K120.1
        have EX100 := EX100.keep K120
        have V_b100 := V_b100.keep K120 nin0
        have V_b109 := V_b109.keep K120 nin0
        have A115 := A115.keep K120
        have F_v_a_c116 := F_v_a_c116.keep K120 nin0
        have F_c_a_c116 := F_c_a_c116.keep K120 nin0
        have V_t1_c116 := V_t1_c116.keep K120 nin0
        have A117 := A117.keep K120
        have F_t_a_c119 := F_t_a_c119.keep K120 nin0
        have F_b_a_c119 := F_b_a_c119.keep K120 nin0
        have E_u8 := E_u8.keep K120
        have O := O.keep K120 all0
        have V_t_c120 : Arv Z T120.heap t1_120 kt_120 .byte (8 : Int32) [(.int (own_lo (i1 &&& (127 : Int32)))), (.int (own_hi (i1 &&& (127 : Int32)))), (.int (own_lo (own_xh cp))), (.int (own_hi (own_xh cp))), (.int (own_lo (own_xl cp))), (.int (own_hi (own_xl cp))), (.int (own_lo (own_tl (own_b tb)))), (.int (own_hi (own_tl (own_b tb))))] (.int 0) := by
          have q : Arv Z T120.heap t1_120 kt_120 .byte (8 : Int32) [(.int (own_lo ((i1 &&& (127 : Int32)) &&& (255 : Int32)))), (.int (own_hi ((i1 &&& (127 : Int32)) &&& (255 : Int32)))), (.int (own_lo (own_hs cp))), (.int (own_hi (own_hs cp))), (.int (own_lo (own_ls cp))), (.int (own_hi (own_ls cp))), (.int (own_lo (own_tl (own_b tb)))), (.int (own_hi (own_tl (own_b tb))))] (.int 0) := V_t_c120
          rw [hP.2.2.2.2.1, own_hse cp hr1.1 hr1.2, own_lse cp hr1.1 hr1.2] at q
          exact q
        obtain ⟨cq121, kq121, q121a, q121b, q121c⟩ := isOf hZ rfl A115
        obtain ⟨v121, _, ⟨T121, L121, k121, n121⟩, -, X121, ⟨Lc121, hQ121, l121, y121, z121⟩, st121⟩ := X120.virtualBack hx (y := (⟨"java/lang/String", "equals", "(Ljava/lang/Object;)Z"⟩ : MethodName)) (z := (⟨"java/lang/String", "equals", "(Ljava/lang/Object;)Z"⟩ : MethodName)) hown (mvT hZ (W 86 rfl)) (mvT hZ (W 87 rfl)) (notFace_of_selects (args := #[]) (mvT hZ (W 89 rfl))) (mvT hZ (W 89 rfl)) (mvT hZ (W 88 rfl)) (by decide) (StrChars.Road.eqW (W := 0) hZ (own_wEq hw) (kI := 4) (W 6 rfl) A115 F_v_a_c116 F_c_a_c116 V_t1_c116 (own_c4 hw5) (own_h4 (P := fun w => ¬ w < 0 ∧ ¬ (65535 : Int32) < w) ⟨hP.2.2.1, hP.2.2.2.2.2.2⟩ (own_kr _) (own_kr _) (own_tlr _)) (Nat.le_of_ble_eq_true rfl) E_z_c120 F_v_z_c120 F_c_z_c120 V_t_c120 (own_c4 hw5) (own_h4 (P := fun w => ¬ w < 0 ∧ ¬ (65535 : Int32) < w) ⟨hP.2.2.1, hP.2.2.2.2.2.2⟩ (own_kr _) (own_kr _) (own_tlr _)) (Nat.le_of_ble_eq_true rfl) (SC.ext O.2) hzc (by decide) (by decide)) q121a q121c (g := (mkF m 447 (own_F26 i1 i2 i3 (i1 &&& (127 : Int32)) cp bt tb tc (4 : Int32) b100 b109 b115 b117 z_120) [.ref z_120, .ref b115])) rfl (by rw [hml]; rfl) (Steps.refl _) (argsL := [.ref z_120]) (rest := []) (lenOf pd31 rfl) rfl (by show 2 * 0 + _ ≤ _; exact Nat.le_of_eq rfl) (hb hby at_447) (fun _ _ => ⟨rfl, rfl, (by decide : 12 + 0 ≤ _), (by decide : 102 + 0 ≤ _)⟩)
        dsimp only [Pt.U, Pt.locs, Pt.cells, Pt.slots] at X121 l121 y121 z121 st121 hQ121
        have X121 := own_un X121 l121 y121 z121
        obtain ⟨hv121, rfl, eh121⟩ := hQ121
        obtain rfl : v121 = some (.int (own_eqs ([(i1 &&& (127 : Int32)), (own_xh cp), (own_xl cp), (own_tl (own_b tb))] : List Int32) ([(i1 &&& (127 : Int32)), (own_xh cp), (own_xl cp), (own_tl (own_b tb))] : List Int32))) := by rcases hv121 with ⟨h1, h2⟩ | ⟨h1, h2⟩ <;> first | exact absurd rfl h2 | (rw [h1]; simp only [own_eqs, if_true])
        have N121 := Fr.app N120 (Fr.nil n0)
        have w122 : ∀ t, Steps p.tables e below (T121.setTop (mkF m 450 (own_F26 i1 i2 i3 (i1 &&& (127 : Int32)) cp bt tb tc (4 : Int32) b100 b109 b115 b117 z_120) [(.int (own_eqs ([(i1 &&& (127 : Int32)), (own_xh cp), (own_xl cp), (own_tl (own_b tb))] : List Int32) ([(i1 &&& (127 : Int32)), (own_xh cp), (own_xl cp), (own_tl (own_b tb))] : List Int32)))])) t → Steps p.tables e below (s₁.setTop (entryFrame m #[.int i1, .int i2, .int i3] maxLocals)) t := fun t k => by
          refine w114 t ?_
          refine st115 _ <| zdu X115 Hb at_415 rfl <| zaL X115 Hb at_416 rfl rfl <| st116 _ <| zaS X116 Hb at_421 rfl rfl <| st117 _ <| zdu X117 Hb at_426 rfl <| st118 _ ?_
          refine zaL X118 Hb at_429 rfl rfl <| st119 _ <| zaS X119 Hb at_434 rfl rfl <| zaL X119 Hb at_436 rfl rfl <| st120.trans <| zaS X120 Hb (L' := (own_F26 i1 i2 i3 (i1 &&& (127 : Int32)) cp bt tb tc (4 : Int32) b100 b109 b115 b117 z_120)) at_441 rfl rfl <| zaL X120 Hb at_443 rfl rfl <| zaL X120 Hb at_445 rfl rfl ?_
          refine st121.trans ?_
          exact k
        obtain ⟨fs, hr, hrun, hended, hE⟩ := Stand.leaveW (s := s) (vm₁ := T118.vm) X121 hS (by rw [eh121]; exact hk) (v := some (.int ((own_eqs ([(i1 &&& (127 : Int32)), (own_xh cp), (own_xl cp), (own_tl (own_b tb))] : List Int32) ([(i1 &&& (127 : Int32)), (own_xh cp), (own_xl cp), (own_tl (own_b tb))] : List Int32)) &&& 1))) (fun h => by rw [Bd.returns] at h; cases h)
        refine ⟨_, _, w122 _ ?_, hrun, hended, _, _, rfl, ?_, ?_, own_mono hE (by decide) (by decide)⟩
        · exact retN X121 hx (t := .boolean) Bd.returns (by simp) (hb hby at_450) hr
        · show Q0 Z i1 i2 i3 zc fm u8  h0 n0 _ T121.heap _
          rw [eh121]
          exact ⟨(own_r1 _), N121⟩
        · rw [hh]; show CHr Z consts_1 s.vm h0 T121.vm T121.heap; rw [eh121]; exact C.trans (CHv.at X121 hZ hEL C.1)
theorem isRef_v {args : Array Value} {s : State} {t : Term} (h : (Jvm.Cond.isRef t).value args s none s [] = some true) : ∃ v, t.eval args s none [] s = some v ∧ v.isRef = true := by
  simp only [Cond.value] at h
  cases e : t.eval args s none [] s with
  | none => simp [e] at h
  | some v => exact ⟨v, rfl, by cases v <;> simp_all [Value.isRef]⟩
theorem own_eqt {args : Array Value} {s : State} {t r : Term} {a : Addr} (ht : t.eval args s none [] s = some (.ref a)) (h : (Jvm.Cond.eq t r).value args s none s [] = some true) : r.eval args s none [] s = some (.ref a) := by
  obtain ⟨x, y, h1, h2, hk, -⟩ := cmp_v (Or.inl h)
  cases ht.symm.trans h1
  rw [h2]
  simp only [Cond.value, h2, ht] at h
  cases y <;> simp_all [Kin, Value.isRef]
set_option maxRecDepth 65536 in
set_option maxHeartbeats 40000000 in
theorem comes_1 {Post : Tables → Env → Array Value → State → Outcome → State → Prop} (hpost : ∀ tb e args s v u, (limb_1_1.after args s (.returned v) u = true ∧ limb_1_2.after args s (.returned v) u = true ∧ True) → ReturnedEndW s (.returned v) u (Jvm.fieldLocs frame_1_writes args s ++ Jvm.arrayLocs frame_1_arrays args s ++ Jvm.staticLocs frame_1_statics s) 32 1216 → Post tb e args s (.returned v) u) :
    ArmFor flags0 classFile x code maxLocals ret World_1 tables_1 room_1 Calls_1 rest_1 Pre_1 Post := by
  intro l hfl _ _ p e ha hc hk s m args below hf hA hF happ hP
  obtain ⟨hcalls, hrest, hpre⟩ := hP
  obtain ⟨-, -, -, hnamed, -, -, -, hat⟩ := (Spec.applies_iff hf).mp happ
  obtain ⟨hg, hn⟩ := and_e (Cond.before_iff.mp (show (Jvm.Cond.and given_1 narrow_1).before args s = true from hpre))
  obtain ⟨g1, g2⟩ := and_e hg
  obtain ⟨g3, g4⟩ := and_e g2
  obtain ⟨g5, g6⟩ := and_e g4
  obtain ⟨w0, w1, w2, rfl⟩ : ∃ w0 w1 w2 : Value, args = #[w0, w1, w2] := by
    have hs : args.size = 3 := by simpa [Cond.value, given_1] using g1
    obtain ⟨L⟩ := args
    match L, hs with
    | [w0, w1, w2], _ => exact ⟨w0, w1, w2, rfl⟩
  have hw := fun d (hd : d ∈ tables_1) => atoms_spec (ws := Jvm.Cond.code x code maxLocals ret :: tables_1) hat d (List.mem_cons_of_mem _ hd)
  have hfit : Fit s := fun {y c} hc i hi => by
    obtain ⟨ha, rfl⟩ := Array.getElem?_eq_some_iff.mp hc
    have q := List.all_eq_true.mp ((Array.all_eq_true_iff_forall_mem.mp hF) _ (Array.getElem_mem ha)) i (List.mem_range.mpr hi)
    simpa [Array.getElem?_eq_getElem hi] using q
  obtain ⟨hsets, hown0⟩ := atoms_of _ (rest_1_c_eq ▸ (show rest_1_c.before _ s = true from hrest))
  have hr0 := Cond.before_iff.mp hown0
  obtain ⟨i0, ei0⟩ := is_v g3
  obtain rfl : w0 = (.int i0) := Option.some.inj ei0
  obtain ⟨i1, ei1⟩ := is_v g5
  obtain rfl : w1 = (.int i1) := Option.some.inj ei1
  obtain ⟨i2, ei2⟩ := is_v g6
  obtain rfl : w2 = (.int i2) := Option.some.inj ei2
  obtain ⟨zc, evc⟩ := is_v (Cond.before_iff.mp (hsets _ (List.mem_of_getElem? (i := 1) rfl)))
  have hzc : ¬ zc = 0 := gotF (Cond.eq_ints evc (Term.int_eval 0)) (not_v (Cond.before_iff.mp (hsets _ (List.mem_of_getElem? (i := 2) rfl))))
  obtain ⟨u8, ev8⟩ := exa_v (Cond.before_iff.mp (hsets _ (List.mem_of_getElem? (i := 14) rfl)))
  have o_E_u8 : Exa s s.heap u8 "sun/nio/cs/UTF_8" := Exa.start ev8 (Cond.before_iff.mp (hsets _ (List.mem_of_getElem? (i := 14) rfl)))
  obtain ⟨fm, evf, rfm⟩ := isRef_v (Cond.before_iff.mp (hsets _ (List.mem_of_getElem? (i := 8) rfl)))
  have SU : own_SU s zc fm u8 := ⟨Sta.start (eqv_i (Term.int_eval 1) (Cond.before_iff.mp (hsets _ (List.mem_of_getElem? (i := 21) rfl)))) (Or.inl (hsets _ (List.mem_of_getElem? (i := 20) rfl))), Sta.start (eqv_i (Term.int_eval 0) (Cond.before_iff.mp (hsets _ (List.mem_of_getElem? (i := 24) rfl)))) (Or.inl (hsets _ (List.mem_of_getElem? (i := 23) rfl))), Sta.start (eqv_i (Term.int_eval 8) (Cond.before_iff.mp (hsets _ (List.mem_of_getElem? (i := 27) rfl)))) (Or.inl (hsets _ (List.mem_of_getElem? (i := 26) rfl))), Sta.start evc (Or.inl (hsets _ (List.mem_of_getElem? (i := 0) rfl))), Sta.start evf (Or.inl (hsets _ (List.mem_of_getElem? (i := 7) rfl))), Sta.start ev8 (Or.inl (hsets _ (List.mem_of_getElem? (i := 10) rfl))), Sta.start (own_eqt ev8 (Cond.before_iff.mp (hsets _ (List.mem_of_getElem? (i := 13) rfl)))) (Or.inl (hsets _ (List.mem_of_getElem? (i := 12) rfl))), hzc, rfm⟩
  have H0 : CHv s consts_1 s.vm s.heap := fun _ hp => nomatch hp
  obtain ⟨n, o, h1, h2, h3, _, L, rfl, ⟨rfl, N⟩, -, hq⟩ := rm0 l s _ hw tables_1 i0 i1 i2 zc fm u8 s.heap s.heap.size (Old.start s) SU o_E_u8 p e ha hc hk s m _ below hf ((Spec.applies_iff_loose hf).mp happ).1 ⟨rfl, State.Warmed39.refl s, rfl, H0⟩ trivial
  refine ⟨n, _, h1, h2, h3, hpost _ _ _ _ _ _ ⟨Cond.after_iff.mpr rfl, Cond.after_iff.mpr (eq_i res_at (Term.int_eval (1)) rfl), trivial⟩ ⟨hq.1, hq.2.1, hq.2.2.1, (hq.2.2.2.sift fun y hy => Or.inr (N y hy)).mono (by decide) (by decide)⟩⟩
theorem main_1_1 : Claimed_1_1 := comes_1 fun _ _ _ _ _ _ h hF => ⟨h.1, hF⟩
theorem main_1_2 : Claimed_1_2 := comes_1 fun _ _ _ _ _ _ h hF => ⟨h.2.1, hF⟩
end Jvm.Pilot.@@N@@
namespace Jvm.Pilot.@@N@@
open Jvm Jvm.ClassFile Sem Op Lib Jvm.Free Jvm.Stand Jvm.Pilot.@@N@@.Jvm.D
/-! MADE BY PROGRAM (witnessworld.py) out of the Statement's table words and the real class files: 31 classes; the members and pool entries that the words name. The judged class is class 1, her method 1. -/
namespace start1
open Jvm.ClassFile
def u (s : String) : CpInfo := .utf8 (stringToUtf16 s)
/-- a pool by its gaps: so many unusable entries, then the entry; so many at the end -/
def gap : Nat → List CpInfo → List CpInfo
  | 0, r => r
  | n + 1, r => .unusable :: gap n r
def poolList (es : List (Nat × CpInfo)) (last : Nat) : List CpInfo := es.foldr (fun e r => gap e.1 (e.2 :: r)) (gap last [])
def pool (es : List (Nat × CpInfo)) (last : Nat) : Array CpInfo := ⟨poolList es last⟩
def fileOf (pool : Array CpInfo) (this : Nat) (attrs : Array Attribute := #[]) (ms : Array MethodInfo := #[]) (fl : Nat := 33) (sup : Nat := 0) (ifs : Array Nat := #[]) (fds : Array FieldInfo := #[]) : ClassFile where
  minorVersion := 0
  majorVersion := 65
  constantPool := pool
  accessFlags := fl
  thisClass := this
  superClass := sup
  interfaces := ifs
  fields := fds
  methods := ms
  attributes := attrs
def plain (name : String) (sup : Option ClassId) : Class where
  name := name
  kind := .ordinary
  loader := none
  accessFlags := 33
  super := sup
  interfaces := #[]
  cf := none
  fields := #[]
  methods := #[]
  instanceTypes := #[]
  staticTypes := #[]
  resolved := #[]
  callSites := []
  init := .initialized
  statics := none
  mirror := none

def pool0 : Array CpInfo := pool [(5, u "<init>"), (0, u "()V"), (1, .class_ 10), (1, u "java/lang/Object"), (85, u "clone"), (0, u "()Ljava/lang/Object;")] 26

def k0c0 : Code := { maxStack := 0, maxLocals := 1, code := object_method_1_code, exceptionTable := #[], attributes := #[] }
def k0m0 : Method := { name := "<init>", desc := "()V", sig := { parameters := [], returnType := none }, accessFlags := 1, code := some k0c0 }
def k0m1 : Method := { name := "clone", desc := "()Ljava/lang/Object;", sig := { parameters := [], returnType := some (.object "java/lang/Object") }, accessFlags := 260, code := none }
/-- java/lang/Object -/
def k0 : Class := { plain "java/lang/Object" none with
  accessFlags := 33
  interfaces := #[]
  cf := some (fileOf pool0 8 #[] #[{ accessFlags := 1, nameIndex := 5, descriptorIndex := 6, attributes := #[] }, { accessFlags := 260, nameIndex := 96, descriptorIndex := 97, attributes := #[] }] 33 0 #[] #[])
  fields := #[]
  methods := #[k0m0, k0m1]
  instanceTypes := #[]
  staticTypes := #[]
  resolved := Array.replicate 124 none
  statics := none }

def pool1 : Array CpInfo := pool [(2, .class_ 4), (1, u "java/lang/Object"), (0, u "<init>"), (0, u "()V"), (0, .integer 2147483647), (0, .integer 1114112), (0, .integer 55296), (0, .integer 57343), (0, .integer 65533), (0, .integer 65536), (0, .integer 56320), (0, .class_ 15), (0, u "java/lang/String"), (0, .methodref 14 17), (0, .nameAndType 5 18), (0, u "([C)V"), (0, .class_ 20), (0, u "com/example/gradual_reply/gradualreply/EncodedBody"), (0, .string 22), (0, u "text/plain"), (0, .methodref 19 24), (0, .nameAndType 5 25), (0, u "(Ljava/lang/String;[B)V"), (0, .methodref 19 27), (0, .nameAndType 28 29), (0, u "text"), (0, u "()Ljava/lang/String;"), (0, .methodref 14 31), (0, .nameAndType 32 33), (0, u "equals"), (0, u "(Ljava/lang/Object;)Z"), (0, .class_ 35), (0, u "com/example/gradual_reply/gradualreply/EncodedBodyTextPinLaw"), (2, u "law"), (0, u "(III)Z")] 7

def k1m0 : Method := { name := "<init>", desc := "()V", sig := { parameters := [], returnType := none }, accessFlags := 2, code := none }
def k1c1 : Code := { maxStack := 5, maxLocals := 14, code := code, exceptionTable := #[], attributes := #[] }
def k1m1 : Method := { name := "law", desc := "(III)Z", sig := { parameters := [.int, .int, .int], returnType := some .boolean }, accessFlags := 9, code := some k1c1 }
/-- com/example/gradual_reply/gradualreply/EncodedBodyTextPinLaw -/
def k1 : Class := { plain "com/example/gradual_reply/gradualreply/EncodedBodyTextPinLaw" (some 0) with
  accessFlags := 49
  interfaces := #[]
  cf := some (fileOf pool1 34 #[] #[{ accessFlags := 2, nameIndex := 5, descriptorIndex := 6, attributes := #[] }, { accessFlags := 9, nameIndex := 38, descriptorIndex := 39, attributes := #[] }] 49 2 #[] #[])
  fields := #[]
  methods := #[k1m0, k1m1]
  instanceTypes := #[]
  staticTypes := #[]
  resolved := Array.replicate 47 none
  statics := none }

def pool2 : Array CpInfo := pool [(1, .class_ 2), (0, u "java/io/Serializable"), (0, .class_ 4), (0, u "java/lang/Object")] 2

/-- java/io/Serializable -/
def k2 : Class := { plain "java/io/Serializable" (some 0) with
  accessFlags := 1537
  interfaces := #[]
  cf := some (fileOf pool2 1 #[] #[] 1537 3 #[] #[])
  fields := #[]
  methods := #[]
  instanceTypes := #[]
  staticTypes := #[]
  resolved := Array.replicate 7 none
  statics := none }

def pool3 : Array CpInfo := pool [(1, .class_ 2), (0, u "java/lang/Comparable"), (0, .class_ 4), (0, u "java/lang/Object")] 7

/-- java/lang/Comparable -/
def k3 : Class := { plain "java/lang/Comparable" (some 0) with
  accessFlags := 1537
  interfaces := #[]
  cf := some (fileOf pool3 1 #[] #[] 1537 3 #[] #[])
  fields := #[]
  methods := #[]
  instanceTypes := #[]
  staticTypes := #[]
  resolved := Array.replicate 12 none
  statics := none }

def pool4 : Array CpInfo := pool [(2, .class_ 4), (1, u "java/lang/CharSequence"), (42, .class_ 48), (0, u "java/lang/CharSequence$1CodePointIterator"), (10, .class_ 60), (0, u "java/lang/CharSequence$1CharIterator"), (5, .class_ 67), (0, u "java/lang/Object")] 63

/-- java/lang/CharSequence -/
def k4 : Class := { plain "java/lang/CharSequence" (some 0) with
  accessFlags := 1537
  interfaces := #[]
  cf := some (fileOf pool4 2 #[.nestMembers #[47, 59]] #[] 1537 66 #[] #[])
  fields := #[]
  methods := #[]
  instanceTypes := #[]
  staticTypes := #[]
  resolved := Array.replicate 131 none
  statics := none }

def pool5 : Array CpInfo := pool [(1, .class_ 2), (0, u "java/lang/constant/Constable"), (0, .class_ 4), (0, u "java/lang/Object")] 6

/-- java/lang/constant/Constable -/
def k5 : Class := { plain "java/lang/constant/Constable" (some 0) with
  accessFlags := 1537
  interfaces := #[]
  cf := some (fileOf pool5 1 #[] #[] 1537 3 #[] #[])
  fields := #[]
  methods := #[]
  instanceTypes := #[]
  staticTypes := #[]
  resolved := Array.replicate 11 none
  statics := none }

def pool6 : Array CpInfo := pool [(1, .class_ 2), (0, u "java/lang/constant/ConstantDesc"), (0, .class_ 4), (0, u "java/lang/Object")] 32

/-- java/lang/constant/ConstantDesc -/
def k6 : Class := { plain "java/lang/constant/ConstantDesc" (some 0) with
  accessFlags := 1537
  interfaces := #[]
  cf := some (fileOf pool6 1 #[] #[] 1537 3 #[] #[])
  fields := #[]
  methods := #[]
  instanceTypes := #[]
  staticTypes := #[]
  resolved := Array.replicate 37 none
  statics := none }

def pool7 : Array CpInfo := pool [(1, .methodref 2 3), (0, .class_ 4), (0, .nameAndType 5 6), (0, u "java/lang/Object"), (0, u "<init>"), (0, u "()V"), (2, .fieldref 10 11), (0, .class_ 12), (0, .nameAndType 13 14), (0, u "java/lang/String"), (0, u "value"), (0, u "[B"), (0, .fieldref 10 16), (0, .nameAndType 17 18), (0, u "coder"), (0, u "B"), (2, u "hash"), (0, u "I"), (2, u "hashIsZero"), (0, u "Z"), (0, .methodref 10 28), (0, .nameAndType 5 29), (0, u "([CIILjava/lang/Void;)V"), (6, u "checkBoundsOffCount"), (0, u "(III)I"), (0, .fieldref 10 39), (0, .nameAndType 40 26), (0, u "COMPACT_STRINGS"), (1, .class_ 44), (1, u "java/lang/StringUTF16"), (0, u "compress"), (1, .methodref 42 48), (0, .nameAndType 49 50), (0, u "coderFromArrayLen"), (0, u "([BI)B"), (3, .methodref 55 56), (0, .class_ 57), (0, .nameAndType 58 59), (0, u "java/util/Arrays"), (0, u "copyOfRange"), (0, u "([BII)[B"), (0, .methodref 42 61), (0, .nameAndType 62 63), (0, u "newBytesFor"), (0, u "(I)[B"), (0, .methodref 42 65), (0, .nameAndType 66 67), (0, u "putChar"), (0, u "([BII)V"), (7, .methodref 10 76), (0, .nameAndType 5 77), (0, u "(Ljava/nio/charset/Charset;[BII)V"), (0, .methodref 79 80), (0, .class_ 81), (0, .nameAndType 82 83), (0, u "java/util/Objects"), (0, u "requireNonNull"), (0, u "(Ljava/lang/Object;)Ljava/lang/Object;"), (0, .class_ 85), (0, u "java/nio/charset/Charset"), (0, .fieldref 87 88), (0, .class_ 89), (0, .nameAndType 90 91), (0, u "sun/nio/cs/UTF_8"), (0, u "INSTANCE"), (0, u "Lsun/nio/cs/UTF_8;"), (0, .methodref 93 94), (0, .class_ 95), (0, .nameAndType 96 97), (0, u "java/lang/StringCoding"), (0, u "countPositives"), (0, u "([BII)I"), (0, .methodref 10 99), (0, .nameAndType 100 101), (0, u "decode2"), (0, u "(II)C"), (0, .methodref 55 103), (0, .nameAndType 104 105), (0, u "copyOf"), (0, u "([BI)[B"), (0, .methodref 107 108), (0, .class_ 109), (0, .nameAndType 110 111), (0, u "java/lang/StringLatin1"), (0, u "inflate"), (0, u "([BI[BII)V"), (0, .methodref 10 113), (0, .nameAndType 114 115), (0, u "decodeUTF8_UTF16"), (0, u "([BII[BIZ)I"), (16, .integer 65533), (44, .methodref 42 178), (0, .nameAndType 45 179), (0, u "([CII)[B"), (185, .class_ 367), (1, u "java/lang/Character"), (1, u "(C)Z"), (13, .integer 4294844288), (0, .integer 3678080), (0, .methodref 10 386), (0, .nameAndType 387 388), (0, u "isNotContinuation"), (0, u "(I)Z"), (3, .methodref 10 393), (0, .nameAndType 394 395), (0, u "isMalformed3"), (0, u "(III)Z"), (4, .methodref 10 401), (0, .nameAndType 402 403), (0, u "decode3"), (0, u "(III)C"), (0, .methodref 365 405), (0, .nameAndType 406 369), (0, u "isSurrogate"), (4, .methodref 10 412), (0, .nameAndType 413 414), (0, u "decode4"), (0, u "(IIII)I"), (0, .methodref 10 416), (0, .nameAndType 417 395), (0, u "isMalformed4"), (0, .methodref 365 419), (0, .nameAndType 420 388), (0, u "isSupplementaryCodePoint"), (3, .methodref 365 425), (0, .nameAndType 426 427), (0, u "highSurrogate"), (0, u "(I)C"), (0, .methodref 365 429), (0, .nameAndType 430 427), (0, u "lowSurrogate"), (110, .methodref 107 542), (0, .nameAndType 543 544), (0, u "equals"), (0, u "([B[B)Z"), (28, u "(Ljava/lang/Object;)Z"), (1, .class_ 576), (0, u "java/lang/CharSequence"), (22, u "CASE_INSENSITIVE_ORDER"), (0, u "Ljava/util/Comparator;"), (409, u "([C)V"), (42, .fieldref 1054 1055), (0, .class_ 1056), (0, .nameAndType 1057 1058), (0, u "jdk/internal/util/Preconditions"), (0, u "SIOOBE_FORMATTER"), (0, u "Ljava/util/function/BiFunction;"), (5, u "(IIILjava/util/function/BiFunction;)I"), (0, .methodref 1054 1066), (0, .nameAndType 1067 1064), (0, u "checkFromIndexSize"), (33, u "serialPersistentFields"), (0, u "[Ljava/io/ObjectStreamField;"), (0, .class_ 1104), (0, u "java/lang/String$CaseInsensitiveComparator"), (1, .class_ 1107), (0, u "java/io/Serializable"), (0, .class_ 1109), (0, u "java/lang/Comparable"), (0, .class_ 1111), (0, u "java/lang/constant/Constable"), (0, .class_ 1113), (0, u "java/lang/constant/ConstantDesc"), (2, u "serialVersionUID"), (0, u "J"), (3, u "REPL"), (0, u "C"), (2, u "LATIN1"), (1, u "UTF16"), (101, u "([BLjava/nio/charset/Charset;)V")] 221

def k7m0 : Method := { name := "<init>", desc := "()V", sig := { parameters := [], returnType := none }, accessFlags := 1, code := none }
def k7c1 : Code := { maxStack := 5, maxLocals := 2, code := jdk_42_method_3_code, exceptionTable := #[], attributes := #[] }
def k7m1 : Method := { name := "<init>", desc := "([C)V", sig := { parameters := [(.array .char)], returnType := none }, accessFlags := 1, code := some k7c1 }
def k7c2 : Code := { maxStack := 6, maxLocals := 11, code := jdk_42_method_11_code, exceptionTable := #[{ startPc := 800, endPc := 813, handlerPc := 816, catchType := 202 }], attributes := #[] }
def k7m2 : Method := { name := "<init>", desc := "(Ljava/nio/charset/Charset;[BII)V", sig := { parameters := [(.object "java/nio/charset/Charset"), (.array .byte), .int, .int], returnType := none }, accessFlags := 2, code := some k7c2 }
def k7c3 : Code := { maxStack := 2, maxLocals := 1, code := jdk_42_method_29_code, exceptionTable := #[], attributes := #[] }
def k7m3 : Method := { name := "isNotContinuation", desc := "(I)Z", sig := { parameters := [.int], returnType := some .boolean }, accessFlags := 10, code := some k7c3 }
def k7c4 : Code := { maxStack := 2, maxLocals := 3, code := jdk_42_method_30_code, exceptionTable := #[], attributes := #[] }
def k7m4 : Method := { name := "isMalformed3", desc := "(III)Z", sig := { parameters := [.int, .int, .int], returnType := some .boolean }, accessFlags := 10, code := some k7c4 }
def k7c5 : Code := { maxStack := 2, maxLocals := 3, code := jdk_42_method_32_code, exceptionTable := #[], attributes := #[] }
def k7m5 : Method := { name := "isMalformed4", desc := "(III)Z", sig := { parameters := [.int, .int, .int], returnType := some .boolean }, accessFlags := 10, code := some k7c5 }
def k7c6 : Code := { maxStack := 2, maxLocals := 2, code := jdk_42_method_35_code, exceptionTable := #[], attributes := #[] }
def k7m6 : Method := { name := "decode2", desc := "(II)C", sig := { parameters := [.int, .int], returnType := some .char }, accessFlags := 10, code := some k7c6 }
def k7c7 : Code := { maxStack := 3, maxLocals := 3, code := jdk_42_method_36_code, exceptionTable := #[], attributes := #[] }
def k7m7 : Method := { name := "decode3", desc := "(III)C", sig := { parameters := [.int, .int, .int], returnType := some .char }, accessFlags := 10, code := some k7c7 }
def k7c8 : Code := { maxStack := 3, maxLocals := 4, code := jdk_42_method_37_code, exceptionTable := #[], attributes := #[] }
def k7m8 : Method := { name := "decode4", desc := "(IIII)I", sig := { parameters := [.int, .int, .int, .int], returnType := some .int }, accessFlags := 10, code := some k7c8 }
def k7c9 : Code := { maxStack := 4, maxLocals := 11, code := jdk_42_method_38_code, exceptionTable := #[], attributes := #[] }
def k7m9 : Method := { name := "decodeUTF8_UTF16", desc := "([BII[BIZ)I", sig := { parameters := [(.array .byte), .int, .int, (.array .byte), .int, .boolean], returnType := some .int }, accessFlags := 10, code := some k7c9 }
def k7c10 : Code := { maxStack := 5, maxLocals := 3, code := jdk_42_method_49_code, exceptionTable := #[], attributes := #[] }
def k7m10 : Method := { name := "<init>", desc := "([BLjava/nio/charset/Charset;)V", sig := { parameters := [(.array .byte), (.object "java/nio/charset/Charset")], returnType := none }, accessFlags := 1, code := some k7c10 }
def k7c11 : Code := { maxStack := 2, maxLocals := 3, code := jdk_42_method_66_code, exceptionTable := #[], attributes := #[] }
def k7m11 : Method := { name := "equals", desc := "(Ljava/lang/Object;)Z", sig := { parameters := [(.object "java/lang/Object")], returnType := some .boolean }, accessFlags := 1, code := some k7c11 }
def k7c12 : Code := { maxStack := 4, maxLocals := 6, code := jdk_42_method_149_code, exceptionTable := #[], attributes := #[] }
def k7m12 : Method := { name := "<init>", desc := "([CIILjava/lang/Void;)V", sig := { parameters := [(.array .char), .int, .int, (.object "java/lang/Void")], returnType := none }, accessFlags := 2, code := some k7c12 }
def k7c13 : Code := { maxStack := 4, maxLocals := 3, code := jdk_42_method_157_code, exceptionTable := #[], attributes := #[] }
def k7m13 : Method := { name := "checkBoundsOffCount", desc := "(III)I", sig := { parameters := [.int, .int, .int], returnType := some .int }, accessFlags := 8, code := some k7c13 }
/-- java/lang/String -/
def k7 : Class := { plain "java/lang/String" (some 0) with
  accessFlags := 49
  interfaces := #[2, 3, 4, 5, 6]
  cf := some (fileOf pool7 10 #[.nestMembers #[1103]] #[{ accessFlags := 1, nameIndex := 5, descriptorIndex := 6, attributes := #[] }, { accessFlags := 1, nameIndex := 5, descriptorIndex := 1010, attributes := #[] }, { accessFlags := 2, nameIndex := 5, descriptorIndex := 77, attributes := #[] }, { accessFlags := 10, nameIndex := 387, descriptorIndex := 388, attributes := #[] }, { accessFlags := 10, nameIndex := 394, descriptorIndex := 395, attributes := #[] }, { accessFlags := 10, nameIndex := 417, descriptorIndex := 395, attributes := #[] }, { accessFlags := 10, nameIndex := 100, descriptorIndex := 101, attributes := #[] }, { accessFlags := 10, nameIndex := 402, descriptorIndex := 403, attributes := #[] }, { accessFlags := 10, nameIndex := 413, descriptorIndex := 414, attributes := #[] }, { accessFlags := 10, nameIndex := 114, descriptorIndex := 115, attributes := #[] }, { accessFlags := 1, nameIndex := 5, descriptorIndex := 1229, attributes := #[] }, { accessFlags := 1, nameIndex := 543, descriptorIndex := 573, attributes := #[] }, { accessFlags := 2, nameIndex := 5, descriptorIndex := 29, attributes := #[] }, { accessFlags := 8, nameIndex := 36, descriptorIndex := 37, attributes := #[] }] 49 2 #[1106, 1108, 575, 1110, 1112] #[{ accessFlags := 18, nameIndex := 13, descriptorIndex := 14, attributes := #[] }, { accessFlags := 18, nameIndex := 17, descriptorIndex := 18, attributes := #[] }, { accessFlags := 2, nameIndex := 21, descriptorIndex := 22, attributes := #[] }, { accessFlags := 2, nameIndex := 25, descriptorIndex := 26, attributes := #[] }, { accessFlags := 26, nameIndex := 1116, descriptorIndex := 1117, attributes := #[] }, { accessFlags := 24, nameIndex := 40, descriptorIndex := 26, attributes := #[] }, { accessFlags := 26, nameIndex := 1101, descriptorIndex := 1102, attributes := #[] }, { accessFlags := 26, nameIndex := 1121, descriptorIndex := 1122, attributes := #[] }, { accessFlags := 25, nameIndex := 599, descriptorIndex := 600, attributes := #[] }, { accessFlags := 24, nameIndex := 1125, descriptorIndex := 18, attributes := #[] }, { accessFlags := 24, nameIndex := 1127, descriptorIndex := 18, attributes := #[] }])
  fields := #[{ name := "value", type := (.array .byte), accessFlags := 18, slot := 0, constantValue := 0 }, { name := "coder", type := .byte, accessFlags := 18, slot := 1, constantValue := 0 }, { name := "hash", type := .int, accessFlags := 2, slot := 2, constantValue := 0 }, { name := "hashIsZero", type := .boolean, accessFlags := 2, slot := 3, constantValue := 0 }, { name := "serialVersionUID", type := .long, accessFlags := 26, slot := 0, constantValue := 0 }, { name := "COMPACT_STRINGS", type := .boolean, accessFlags := 24, slot := 1, constantValue := 0 }, { name := "serialPersistentFields", type := (.array (.object "java/io/ObjectStreamField")), accessFlags := 26, slot := 2, constantValue := 0 }, { name := "REPL", type := .char, accessFlags := 26, slot := 3, constantValue := 0 }, { name := "CASE_INSENSITIVE_ORDER", type := (.object "java/util/Comparator"), accessFlags := 25, slot := 4, constantValue := 0 }, { name := "LATIN1", type := .byte, accessFlags := 24, slot := 5, constantValue := 0 }, { name := "UTF16", type := .byte, accessFlags := 24, slot := 6, constantValue := 0 }]
  methods := #[k7m0, k7m1, k7m2, k7m3, k7m4, k7m5, k7m6, k7m7, k7m8, k7m9, k7m10, k7m11, k7m12, k7m13]
  instanceTypes := #[(.array .byte), .byte, .int, .boolean]
  staticTypes := #[.long, .boolean, (.array (.object "java/io/ObjectStreamField")), .char, (.object "java/util/Comparator"), .byte, .byte]
  resolved := Array.replicate 1451 none
  statics := some 0 }

def pool8 : Array CpInfo := pool [(3, .class_ 4), (0, u "java/lang/String"), (1, .class_ 8), (1, u "java/lang/Object"), (0, u "<init>"), (0, u "()V"), (0, .methodref 12 13), (0, .class_ 14), (0, .nameAndType 15 16), (0, u "java/lang/StringUTF16"), (0, u "newBytesLength"), (0, u "(I)I"), (3, .integer 1073741823), (23, .fieldref 12 45), (0, .nameAndType 46 47), (0, u "$assertionsDisabled"), (0, u "Z"), (0, .methodref 12 49), (0, .nameAndType 50 51), (0, u "length"), (0, u "([B)I"), (7, .fieldref 12 60), (0, .nameAndType 61 62), (0, u "HI_BYTE_SHIFT"), (0, u "I"), (0, .fieldref 12 64), (0, .nameAndType 65 62), (0, u "LO_BYTE_SHIFT"), (5, .methodref 12 72), (0, .nameAndType 73 74), (0, u "getChar"), (0, u "([BI)C"), (24, u "(II[B)V"), (7, .methodref 12 108), (0, .nameAndType 109 110), (0, u "newBytesFor"), (0, u "(I)[B"), (0, .methodref 12 112), (0, .nameAndType 113 114), (0, u "putChar"), (0, u "([BII)V"), (0, .methodref 12 116), (0, .nameAndType 117 118), (0, u "compress"), (0, u "([CI[BII)I"), (0, .methodref 12 120), (0, .nameAndType 121 122), (0, u "toBytes"), (0, u "([CII)[B"), (17, u "inflate"), (0, u "([BI[BII)V"), (31, .methodref 12 174), (0, .nameAndType 175 99), (0, u "checkBoundsOffCount"), (85, u "coderFromArrayLen"), (0, u "([BI)B"), (18, u "(III)I"), (87, .class_ 371), (1, u "java/lang/StringUTF16$LinesSpliterator"), (47, .methodref 3 420), (0, .nameAndType 175 281), (9, u "MAX_LENGTH"), (196, .class_ 628), (0, u "java/lang/StringUTF16$CodePointsSpliterator"), (0, .class_ 630), (0, u "java/lang/StringUTF16$CharsSpliterator")] 4

def k8m0 : Method := { name := "<init>", desc := "()V", sig := { parameters := [], returnType := none }, accessFlags := 0, code := none }
def k8c1 : Code := { maxStack := 1, maxLocals := 1, code := jdk_52_method_2_code, exceptionTable := #[], attributes := #[] }
def k8m1 : Method := { name := "newBytesFor", desc := "(I)[B", sig := { parameters := [.int], returnType := some (.array .byte) }, accessFlags := 9, code := some k8c1 }
def k8c2 : Code := { maxStack := 4, maxLocals := 1, code := jdk_52_method_3_code, exceptionTable := #[], attributes := #[] }
def k8m2 : Method := { name := "newBytesLength", desc := "(I)I", sig := { parameters := [.int], returnType := some .int }, accessFlags := 9, code := some k8c2 }
def k8c3 : Code := { maxStack := 4, maxLocals := 3, code := jdk_52_method_4_code, exceptionTable := #[], attributes := #[] }
def k8m3 : Method := { name := "putChar", desc := "([BII)V", sig := { parameters := [(.array .byte), .int, .int], returnType := none }, accessFlags := 8, code := some k8c3 }
def k8c4 : Code := { maxStack := 3, maxLocals := 2, code := jdk_52_method_5_code, exceptionTable := #[], attributes := #[] }
def k8m4 : Method := { name := "getChar", desc := "([BI)C", sig := { parameters := [(.array .byte), .int], returnType := some .char }, accessFlags := 8, code := some k8c4 }
def k8c5 : Code := { maxStack := 2, maxLocals := 1, code := jdk_52_method_6_code, exceptionTable := #[], attributes := #[] }
def k8m5 : Method := { name := "length", desc := "([B)I", sig := { parameters := [(.array .byte)], returnType := some .int }, accessFlags := 9, code := some k8c5 }
def k8c6 : Code := { maxStack := 4, maxLocals := 5, code := jdk_52_method_14_code, exceptionTable := #[], attributes := #[] }
def k8m6 : Method := { name := "toBytes", desc := "([CII)[B", sig := { parameters := [(.array .char), .int, .int], returnType := some (.array .byte) }, accessFlags := 9, code := some k8c6 }
def k8c7 : Code := { maxStack := 2, maxLocals := 2, code := jdk_52_method_15_code, exceptionTable := #[], attributes := #[] }
def k8m7 : Method := { name := "coderFromArrayLen", desc := "([BI)B", sig := { parameters := [(.array .byte), .int], returnType := some .byte }, accessFlags := 8, code := some k8c7 }
def k8c8 : Code := { maxStack := 5, maxLocals := 6, code := jdk_52_method_16_code, exceptionTable := #[], attributes := #[] }
def k8m8 : Method := { name := "compress", desc := "([CII)[B", sig := { parameters := [(.array .char), .int, .int], returnType := some (.array .byte) }, accessFlags := 9, code := some k8c8 }
def k8c9 : Code := { maxStack := 3, maxLocals := 7, code := jdk_52_method_21_code, exceptionTable := #[], attributes := #[] }
def k8m9 : Method := { name := "compress", desc := "([CI[BII)I", sig := { parameters := [(.array .char), .int, (.array .byte), .int, .int], returnType := some .int }, accessFlags := 9, code := some k8c9 }
def k8c10 : Code := { maxStack := 4, maxLocals := 6, code := jdk_52_method_86_code, exceptionTable := #[], attributes := #[] }
def k8m10 : Method := { name := "inflate", desc := "([BI[BII)V", sig := { parameters := [(.array .byte), .int, (.array .byte), .int, .int], returnType := none }, accessFlags := 9, code := some k8c10 }
def k8c11 : Code := { maxStack := 3, maxLocals := 3, code := jdk_52_method_94_code, exceptionTable := #[], attributes := #[] }
def k8m11 : Method := { name := "checkBoundsOffCount", desc := "(II[B)V", sig := { parameters := [.int, .int, (.array .byte)], returnType := none }, accessFlags := 9, code := some k8c11 }
/-- java/lang/StringUTF16 -/
def k8 : Class := { plain "java/lang/StringUTF16" (some 0) with
  accessFlags := 48
  interfaces := #[]
  cf := some (fileOf pool8 12 #[.nestMembers #[627, 629, 369]] #[{ accessFlags := 0, nameIndex := 9, descriptorIndex := 10, attributes := #[] }, { accessFlags := 9, nameIndex := 109, descriptorIndex := 110, attributes := #[] }, { accessFlags := 9, nameIndex := 15, descriptorIndex := 16, attributes := #[] }, { accessFlags := 8, nameIndex := 113, descriptorIndex := 114, attributes := #[] }, { accessFlags := 8, nameIndex := 73, descriptorIndex := 74, attributes := #[] }, { accessFlags := 9, nameIndex := 50, descriptorIndex := 51, attributes := #[] }, { accessFlags := 9, nameIndex := 121, descriptorIndex := 122, attributes := #[] }, { accessFlags := 8, nameIndex := 261, descriptorIndex := 262, attributes := #[] }, { accessFlags := 9, nameIndex := 117, descriptorIndex := 122, attributes := #[] }, { accessFlags := 9, nameIndex := 117, descriptorIndex := 118, attributes := #[] }, { accessFlags := 9, nameIndex := 140, descriptorIndex := 141, attributes := #[] }, { accessFlags := 9, nameIndex := 175, descriptorIndex := 99, attributes := #[] }] 48 6 #[] #[{ accessFlags := 26, nameIndex := 61, descriptorIndex := 62, attributes := #[] }, { accessFlags := 26, nameIndex := 65, descriptorIndex := 62, attributes := #[] }, { accessFlags := 24, nameIndex := 430, descriptorIndex := 62, attributes := #[] }, { accessFlags := 4120, nameIndex := 46, descriptorIndex := 47, attributes := #[] }])
  fields := #[{ name := "HI_BYTE_SHIFT", type := .int, accessFlags := 26, slot := 0, constantValue := 0 }, { name := "LO_BYTE_SHIFT", type := .int, accessFlags := 26, slot := 1, constantValue := 0 }, { name := "MAX_LENGTH", type := .int, accessFlags := 24, slot := 2, constantValue := 0 }, { name := "$assertionsDisabled", type := .boolean, accessFlags := 4120, slot := 3, constantValue := 0 }]
  methods := #[k8m0, k8m1, k8m2, k8m3, k8m4, k8m5, k8m6, k8m7, k8m8, k8m9, k8m10, k8m11]
  instanceTypes := #[]
  staticTypes := #[.int, .int, .int, .boolean]
  resolved := Array.replicate 635 none
  statics := some 1 }

def pool9 : Array CpInfo := pool [(1, .methodref 2 3), (0, .class_ 4), (0, .nameAndType 5 6), (0, u "java/lang/Object"), (0, u "<init>"), (0, u "()V"), (0, .fieldref 8 9), (0, .class_ 10), (0, .nameAndType 11 12), (0, u "com/example/gradual_reply/gradualreply/EncodedBody"), (0, u "contentType"), (0, u "Ljava/lang/String;"), (0, .fieldref 8 14), (0, .nameAndType 15 16), (0, u "bytes"), (0, u "[B"), (0, .class_ 18), (0, u "java/lang/String"), (0, .fieldref 20 21), (0, .class_ 22), (0, .nameAndType 23 24), (0, u "java/nio/charset/StandardCharsets"), (0, u "UTF_8"), (0, u "Ljava/nio/charset/Charset;"), (0, .methodref 17 26), (0, .nameAndType 5 27), (0, u "([BLjava/nio/charset/Charset;)V"), (0, u "(Ljava/lang/String;[B)V"), (2, u "()Ljava/lang/String;"), (1, u "text")] 2

def k9c0 : Code := { maxStack := 2, maxLocals := 3, code := prog_6_method_1_code, exceptionTable := #[], attributes := #[] }
def k9m0 : Method := { name := "<init>", desc := "(Ljava/lang/String;[B)V", sig := { parameters := [(.object "java/lang/String"), (.array .byte)], returnType := none }, accessFlags := 0, code := some k9c0 }
def k9c1 : Code := { maxStack := 4, maxLocals := 1, code := prog_6_method_4_code, exceptionTable := #[], attributes := #[] }
def k9m1 : Method := { name := "text", desc := "()Ljava/lang/String;", sig := { parameters := [], returnType := some (.object "java/lang/String") }, accessFlags := 0, code := some k9c1 }
/-- com/example/gradual_reply/gradualreply/EncodedBody -/
def k9 : Class := { plain "com/example/gradual_reply/gradualreply/EncodedBody" (some 0) with
  accessFlags := 48
  interfaces := #[]
  cf := some (fileOf pool9 8 #[] #[{ accessFlags := 0, nameIndex := 5, descriptorIndex := 28, attributes := #[] }, { accessFlags := 0, nameIndex := 33, descriptorIndex := 31, attributes := #[] }] 48 2 #[] #[{ accessFlags := 18, nameIndex := 11, descriptorIndex := 12, attributes := #[] }, { accessFlags := 18, nameIndex := 15, descriptorIndex := 16, attributes := #[] }])
  fields := #[{ name := "contentType", type := (.object "java/lang/String"), accessFlags := 18, slot := 0, constantValue := 0 }, { name := "bytes", type := (.array .byte), accessFlags := 18, slot := 1, constantValue := 0 }]
  methods := #[k9m0, k9m1]
  instanceTypes := #[(.object "java/lang/String"), (.array .byte)]
  staticTypes := #[]
  resolved := Array.replicate 36 none
  statics := none }

def pool10 : Array CpInfo := pool [(2, .class_ 4), (1, u "java/lang/Object"), (0, u "<init>"), (0, u "()V"), (14, .class_ 23), (1, u "java/nio/charset/StandardCharsets"), (0, u "US_ASCII"), (0, u "Ljava/nio/charset/Charset;"), (7, u "ISO_8859_1"), (7, u "UTF_8"), (5, u "UTF_16BE"), (5, u "UTF_16LE"), (5, u "UTF_16")] 8

def k10m0 : Method := { name := "<init>", desc := "()V", sig := { parameters := [], returnType := none }, accessFlags := 2, code := none }
/-- java/nio/charset/StandardCharsets -/
def k10 : Class := { plain "java/nio/charset/StandardCharsets" (some 0) with
  accessFlags := 49
  interfaces := #[]
  cf := some (fileOf pool10 21 #[] #[{ accessFlags := 2, nameIndex := 5, descriptorIndex := 6, attributes := #[] }] 49 2 #[] #[{ accessFlags := 25, nameIndex := 24, descriptorIndex := 25, attributes := #[] }, { accessFlags := 25, nameIndex := 33, descriptorIndex := 25, attributes := #[] }, { accessFlags := 25, nameIndex := 41, descriptorIndex := 25, attributes := #[] }, { accessFlags := 25, nameIndex := 47, descriptorIndex := 25, attributes := #[] }, { accessFlags := 25, nameIndex := 53, descriptorIndex := 25, attributes := #[] }, { accessFlags := 25, nameIndex := 59, descriptorIndex := 25, attributes := #[] }])
  fields := #[{ name := "US_ASCII", type := (.object "java/nio/charset/Charset"), accessFlags := 25, slot := 0, constantValue := 0 }, { name := "ISO_8859_1", type := (.object "java/nio/charset/Charset"), accessFlags := 25, slot := 1, constantValue := 0 }, { name := "UTF_8", type := (.object "java/nio/charset/Charset"), accessFlags := 25, slot := 2, constantValue := 0 }, { name := "UTF_16BE", type := (.object "java/nio/charset/Charset"), accessFlags := 25, slot := 3, constantValue := 0 }, { name := "UTF_16LE", type := (.object "java/nio/charset/Charset"), accessFlags := 25, slot := 4, constantValue := 0 }, { name := "UTF_16", type := (.object "java/nio/charset/Charset"), accessFlags := 25, slot := 5, constantValue := 0 }]
  methods := #[k10m0]
  instanceTypes := #[]
  staticTypes := #[(.object "java/nio/charset/Charset"), (.object "java/nio/charset/Charset"), (.object "java/nio/charset/Charset"), (.object "java/nio/charset/Charset"), (.object "java/nio/charset/Charset"), (.object "java/nio/charset/Charset")]
  resolved := Array.replicate 68 none
  statics := some 2 }

def pool11 : Array CpInfo := pool [(2, .class_ 4), (1, u "java/lang/Object"), (0, u "<init>"), (0, u "()V"), (35, .class_ 44), (1, u "java/util/Objects"), (0, u "requireNonNull"), (0, u "(Ljava/lang/Object;)Ljava/lang/Object;")] 137

def k11m0 : Method := { name := "<init>", desc := "()V", sig := { parameters := [], returnType := none }, accessFlags := 2, code := none }
def k11c1 : Code := { maxStack := 2, maxLocals := 1, code := jdk_31_method_10_code, exceptionTable := #[], attributes := #[] }
def k11m1 : Method := { name := "requireNonNull", desc := "(Ljava/lang/Object;)Ljava/lang/Object;", sig := { parameters := [(.object "java/lang/Object")], returnType := some (.object "java/lang/Object") }, accessFlags := 9, code := some k11c1 }
/-- java/util/Objects -/
def k11 : Class := { plain "java/util/Objects" (some 0) with
  accessFlags := 49
  interfaces := #[]
  cf := some (fileOf pool11 42 #[] #[{ accessFlags := 2, nameIndex := 5, descriptorIndex := 6, attributes := #[] }, { accessFlags := 9, nameIndex := 45, descriptorIndex := 46, attributes := #[] }] 49 2 #[] #[])
  fields := #[]
  methods := #[k11m0, k11m1]
  instanceTypes := #[]
  staticTypes := #[]
  resolved := Array.replicate 184 none
  statics := none }

def pool12 : Array CpInfo := pool [(18, .class_ 20), (1, u "java/nio/charset/Charset"), (0, u "cache1"), (0, u "[Ljava/lang/Object;"), (2, u "cache2"), (0, .class_ 27), (0, u "java/lang/Object"), (0, .class_ 29), (0, u "java/nio/charset/Charset$1"), (4, .class_ 36), (1, u "java/nio/charset/Charset$ThreadTrackHolder"), (21, .class_ 59), (0, u "java/nio/charset/Charset$2"), (11, .class_ 73), (1, u "java/nio/charset/Charset$ExtendedProviderHolder"), (22, u "standardProvider"), (0, u "Ljava/nio/charset/spi/CharsetProvider;"), (29, u "name"), (7, .class_ 136), (0, u "java/nio/charset/Charset$3"), (5, u "defaultCharset"), (0, u "Ljava/nio/charset/Charset;"), (14, u "zeroAliases"), (0, u "[Ljava/lang/String;"), (29, u "Ljava/lang/String;"), (2, u "aliases"), (2, u "aliasSet"), (0, u "Ljava/util/Set;"), (82, .class_ 280), (0, u "java/lang/Comparable"), (84, .class_ 366), (0, u "java/nio/charset/Charset$ExtendedProviderHolder$1")] 3

/-- java/nio/charset/Charset -/
def k12 : Class := { plain "java/nio/charset/Charset" (some 0) with
  accessFlags := 1057
  interfaces := #[3]
  cf := some (fileOf pool12 18 #[.nestMembers #[71, 365, 34, 135, 58, 28]] #[] 1057 26 #[279] #[{ accessFlags := 26, nameIndex := 96, descriptorIndex := 97, attributes := #[] }, { accessFlags := 26, nameIndex := 158, descriptorIndex := 159, attributes := #[] }, { accessFlags := 74, nameIndex := 21, descriptorIndex := 22, attributes := #[] }, { accessFlags := 74, nameIndex := 25, descriptorIndex := 22, attributes := #[] }, { accessFlags := 10, nameIndex := 142, descriptorIndex := 143, attributes := #[] }, { accessFlags := 18, nameIndex := 127, descriptorIndex := 189, attributes := #[] }, { accessFlags := 18, nameIndex := 192, descriptorIndex := 159, attributes := #[] }, { accessFlags := 2, nameIndex := 195, descriptorIndex := 196, attributes := #[] }])
  fields := #[{ name := "standardProvider", type := (.object "java/nio/charset/spi/CharsetProvider"), accessFlags := 26, slot := 0, constantValue := 0 }, { name := "zeroAliases", type := (.array (.object "java/lang/String")), accessFlags := 26, slot := 1, constantValue := 0 }, { name := "cache1", type := (.array (.object "java/lang/Object")), accessFlags := 74, slot := 2, constantValue := 0 }, { name := "cache2", type := (.array (.object "java/lang/Object")), accessFlags := 74, slot := 3, constantValue := 0 }, { name := "defaultCharset", type := (.object "java/nio/charset/Charset"), accessFlags := 10, slot := 4, constantValue := 0 }, { name := "name", type := (.object "java/lang/String"), accessFlags := 18, slot := 0, constantValue := 0 }, { name := "aliases", type := (.array (.object "java/lang/String")), accessFlags := 18, slot := 1, constantValue := 0 }, { name := "aliasSet", type := (.object "java/util/Set"), accessFlags := 2, slot := 2, constantValue := 0 }]
  methods := #[]
  instanceTypes := #[(.object "java/lang/String"), (.array (.object "java/lang/String")), (.object "java/util/Set")]
  staticTypes := #[(.object "java/nio/charset/spi/CharsetProvider"), (.array (.object "java/lang/String")), (.array (.object "java/lang/Object")), (.array (.object "java/lang/Object")), (.object "java/nio/charset/Charset")]
  resolved := Array.replicate 370 none
  statics := none }

def pool13 : Array CpInfo := pool [(1, .class_ 2), (0, u "sun/nio/cs/HistoricallyNamedCharset"), (0, .class_ 4), (0, u "java/lang/Object")] 4

/-- sun/nio/cs/HistoricallyNamedCharset -/
def k13 : Class := { plain "sun/nio/cs/HistoricallyNamedCharset" (some 0) with
  accessFlags := 1537
  interfaces := #[]
  cf := some (fileOf pool13 1 #[] #[] 1537 3 #[] #[])
  fields := #[]
  methods := #[]
  instanceTypes := #[]
  staticTypes := #[]
  resolved := Array.replicate 9 none
  statics := none }

def pool14 : Array CpInfo := pool [(2, .class_ 4), (1, u "java/nio/charset/Charset"), (130, .class_ 136), (0, u "sun/nio/cs/Unicode"), (0, .class_ 138), (0, u "sun/nio/cs/HistoricallyNamedCharset")] 15

/-- sun/nio/cs/Unicode -/
def k14 : Class := { plain "sun/nio/cs/Unicode" (some 12) with
  accessFlags := 1056
  interfaces := #[13]
  cf := some (fileOf pool14 135 #[] #[] 1056 2 #[137] #[])
  fields := #[]
  methods := #[]
  instanceTypes := #[(.object "java/lang/String"), (.array (.object "java/lang/String")), (.object "java/util/Set")]
  staticTypes := #[]
  resolved := Array.replicate 154 none
  statics := none }

def pool15 : Array CpInfo := pool [(10, .class_ 12), (1, u "sun/nio/cs/Unicode"), (0, u "<init>"), (3, .class_ 18), (0, u "sun/nio/cs/UTF_8$Decoder"), (3, .class_ 23), (0, u "sun/nio/cs/UTF_8$Encoder"), (15, .class_ 40), (0, u "sun/nio/cs/UTF_8"), (2, u "()V"), (2, u "INSTANCE"), (0, u "Lsun/nio/cs/UTF_8;"), (8, u "JLA"), (0, u "Ljdk/internal/access/JavaLangAccess;")] 26

def k15m0 : Method := { name := "<init>", desc := "()V", sig := { parameters := [], returnType := none }, accessFlags := 1, code := none }
/-- sun/nio/cs/UTF_8 -/
def k15 : Class := { plain "sun/nio/cs/UTF_8" (some 14) with
  accessFlags := 49
  interfaces := #[]
  cf := some (fileOf pool15 39 #[.nestMembers #[22, 17]] #[{ accessFlags := 1, nameIndex := 13, descriptorIndex := 43, attributes := #[] }] 49 10 #[] #[{ accessFlags := 25, nameIndex := 46, descriptorIndex := 47, attributes := #[] }, { accessFlags := 26, nameIndex := 56, descriptorIndex := 57, attributes := #[] }])
  fields := #[{ name := "INSTANCE", type := (.object "sun/nio/cs/UTF_8"), accessFlags := 25, slot := 0, constantValue := 0 }, { name := "JLA", type := (.object "jdk/internal/access/JavaLangAccess"), accessFlags := 26, slot := 1, constantValue := 0 }]
  methods := #[k15m0]
  instanceTypes := #[(.object "java/lang/String"), (.array (.object "java/lang/String")), (.object "java/util/Set")]
  staticTypes := #[(.object "sun/nio/cs/UTF_8"), (.object "jdk/internal/access/JavaLangAccess")]
  resolved := Array.replicate 84 none
  statics := some 3 }

def pool16 : Array CpInfo := pool [(2, .class_ 4), (1, u "java/lang/Object"), (0, u "<init>"), (0, u "()V"), (1, .class_ 10), (1, u "java/lang/StringCoding"), (0, u "countPositives"), (0, u "([BII)I")] 36

def k16m0 : Method := { name := "<init>", desc := "()V", sig := { parameters := [], returnType := none }, accessFlags := 2, code := none }
def k16c1 : Code := { maxStack := 2, maxLocals := 5, code := jdk_123_method_3_code, exceptionTable := #[], attributes := #[] }
def k16m1 : Method := { name := "countPositives", desc := "([BII)I", sig := { parameters := [(.array .byte), .int, .int], returnType := some .int }, accessFlags := 9, code := some k16c1 }
/-- java/lang/StringCoding -/
def k16 : Class := { plain "java/lang/StringCoding" (some 0) with
  accessFlags := 32
  interfaces := #[]
  cf := some (fileOf pool16 8 #[] #[{ accessFlags := 2, nameIndex := 5, descriptorIndex := 6, attributes := #[] }, { accessFlags := 9, nameIndex := 11, descriptorIndex := 12, attributes := #[] }] 32 2 #[] #[])
  fields := #[]
  methods := #[k16m0, k16m1]
  instanceTypes := #[]
  staticTypes := #[]
  resolved := Array.replicate 49 none
  statics := none }

def pool17 : Array CpInfo := pool [(2, .class_ 4), (1, u "java/lang/Object"), (0, u "<init>"), (0, u "()V"), (7, .class_ 16), (1, u "java/util/Arrays"), (57, .class_ 76), (1, u "java/util/Arrays$NaturalOrder"), (32, u "()Ljava/lang/Object;"), (3, .class_ 115), (1, u "java/util/Arrays$LegacyMergeSort"), (1, u "Z"), (10, .nameAndType 129 109), (0, u "clone"), (9, u "copyOfRange"), (10, .methodref 151 152), (0, .class_ 153), (0, .nameAndType 154 155), (0, u "java/lang/System"), (0, u "arraycopy"), (0, u "(Ljava/lang/Object;ILjava/lang/Object;II)V"), (146, u "copyOf"), (1, .methodref 305 306), (0, .class_ 307), (0, .nameAndType 308 309), (0, u "java/lang/Math"), (0, u "min"), (0, u "(II)I"), (0, .methodref 311 128), (0, .class_ 312), (0, u "[B"), (29, u "([BII)[B"), (32, .class_ 376), (0, u "java/util/Arrays$ArrayList"), (68, u "$assertionsDisabled"), (269, u "MIN_ARRAY_SORT_GRAN"), (0, u "I"), (2, u "INSERTIONSORT_THRESHOLD"), (149, u "([BI)[B"), (105, .class_ 976), (0, u "java/util/Arrays$ArrayItr")] 52

def k17m0 : Method := { name := "<init>", desc := "()V", sig := { parameters := [], returnType := none }, accessFlags := 2, code := none }
def k17c1 : Code := { maxStack := 6, maxLocals := 3, code := jdk_65_method_121_code, exceptionTable := #[], attributes := #[] }
def k17m1 : Method := { name := "copyOf", desc := "([BI)[B", sig := { parameters := [(.array .byte), .int], returnType := some (.array .byte) }, accessFlags := 9, code := some k17c1 }
def k17c2 : Code := { maxStack := 3, maxLocals := 3, code := jdk_65_method_132_code, exceptionTable := #[], attributes := #[] }
def k17m2 : Method := { name := "copyOfRange", desc := "([BII)[B", sig := { parameters := [(.array .byte), .int, .int], returnType := some (.array .byte) }, accessFlags := 9, code := some k17c2 }
/-- java/util/Arrays -/
def k17 : Class := { plain "java/util/Arrays" (some 0) with
  accessFlags := 49
  interfaces := #[]
  cf := some (fileOf pool17 14 #[.nestMembers #[975, 375, 113, 74]] #[{ accessFlags := 2, nameIndex := 5, descriptorIndex := 6, attributes := #[] }, { accessFlags := 9, nameIndex := 302, descriptorIndex := 869, attributes := #[] }, { accessFlags := 9, nameIndex := 139, descriptorIndex := 342, attributes := #[] }] 49 2 #[] #[{ accessFlags := 26, nameIndex := 715, descriptorIndex := 716, attributes := #[] }, { accessFlags := 26, nameIndex := 719, descriptorIndex := 716, attributes := #[] }, { accessFlags := 4120, nameIndex := 445, descriptorIndex := 117, attributes := #[] }])
  fields := #[{ name := "MIN_ARRAY_SORT_GRAN", type := .int, accessFlags := 26, slot := 0, constantValue := 0 }, { name := "INSERTIONSORT_THRESHOLD", type := .int, accessFlags := 26, slot := 1, constantValue := 0 }, { name := "$assertionsDisabled", type := .boolean, accessFlags := 4120, slot := 2, constantValue := 0 }]
  methods := #[k17m0, k17m1, k17m2]
  instanceTypes := #[]
  staticTypes := #[.int, .int, .boolean]
  resolved := Array.replicate 1029 none
  statics := none }

def pool18 : Array CpInfo := pool [(1, .class_ 2), (0, u "java/lang/Cloneable"), (0, .class_ 4), (0, u "java/lang/Object")] 2

/-- java/lang/Cloneable -/
def k18 : Class := { plain "java/lang/Cloneable" (some 0) with
  accessFlags := 1537
  interfaces := #[]
  cf := some (fileOf pool18 1 #[] #[] 1537 3 #[] #[])
  fields := #[]
  methods := #[]
  instanceTypes := #[]
  staticTypes := #[]
  resolved := Array.replicate 7 none
  statics := none }

def pool19 : Array CpInfo := pool [(4, .class_ 6), (1, u "java/lang/Object"), (0, u "<init>"), (0, u "()V"), (5, .class_ 16), (1, u "java/lang/StringLatin1"), (0, u "inflate"), (2, .class_ 22), (1, u "java/lang/StringUTF16"), (3, .nameAndType 17 27), (0, u "([BI[BII)V"), (93, u "$assertionsDisabled"), (0, u "Z"), (98, .class_ 223), (1, u "java/lang/StringLatin1$LinesSpliterator"), (16, .methodref 20 26), (40, u "equals"), (0, u "([B[B)Z"), (107, .class_ 391), (0, u "java/lang/StringLatin1$CharsSpliterator")] 3

def k19m0 : Method := { name := "<init>", desc := "()V", sig := { parameters := [], returnType := none }, accessFlags := 0, code := none }
def k19c1 : Code := { maxStack := 3, maxLocals := 3, code := jdk_43_method_13_code, exceptionTable := #[], attributes := #[] }
def k19m1 : Method := { name := "equals", desc := "([B[B)Z", sig := { parameters := [(.array .byte), (.array .byte)], returnType := some .boolean }, accessFlags := 9, code := some k19c1 }
def k19c2 : Code := { maxStack := 5, maxLocals := 5, code := jdk_43_method_50_code, exceptionTable := #[], attributes := #[] }
def k19m2 : Method := { name := "inflate", desc := "([BI[BII)V", sig := { parameters := [(.array .byte), .int, (.array .byte), .int, .int], returnType := none }, accessFlags := 9, code := some k19c2 }
/-- java/lang/StringLatin1 -/
def k19 : Class := { plain "java/lang/StringLatin1" (some 0) with
  accessFlags := 48
  interfaces := #[]
  cf := some (fileOf pool19 14 #[.nestMembers #[390, 221]] #[{ accessFlags := 0, nameIndex := 7, descriptorIndex := 8, attributes := #[] }, { accessFlags := 9, nameIndex := 281, descriptorIndex := 282, attributes := #[] }, { accessFlags := 9, nameIndex := 17, descriptorIndex := 27, attributes := #[] }] 48 4 #[] #[{ accessFlags := 4120, nameIndex := 121, descriptorIndex := 122, attributes := #[] }])
  fields := #[{ name := "$assertionsDisabled", type := .boolean, accessFlags := 4120, slot := 0, constantValue := 0 }]
  methods := #[k19m0, k19m1, k19m2]
  instanceTypes := #[]
  staticTypes := #[.boolean]
  resolved := Array.replicate 395 none
  statics := none }

def pool20 : Array CpInfo := pool [(2, .class_ 4), (1, u "java/lang/Object"), (0, u "<init>"), (0, u "()V"), (17, .class_ 26), (1, u "jdk/internal/util/Preconditions"), (22, u "checkFromIndexSize"), (5, .class_ 56), (0, u "jdk/internal/util/Preconditions$4"), (57, .class_ 115), (0, u "jdk/internal/util/Preconditions$1"), (7, u "SIOOBE_FORMATTER"), (0, u "Ljava/util/function/BiFunction;"), (0, .class_ 126), (0, u "jdk/internal/util/Preconditions$2"), (3, u "AIOOBE_FORMATTER"), (0, .class_ 132), (0, u "jdk/internal/util/Preconditions$3"), (3, u "IOOBE_FORMATTER"), (46, u "(IIILjava/util/function/BiFunction;)I")] 10

def k20m0 : Method := { name := "<init>", desc := "()V", sig := { parameters := [], returnType := none }, accessFlags := 1, code := none }
def k20c1 : Code := { maxStack := 4, maxLocals := 4, code := jdk_41_method_13_code, exceptionTable := #[], attributes := #[] }
def k20m1 : Method := { name := "checkFromIndexSize", desc := "(IIILjava/util/function/BiFunction;)I", sig := { parameters := [.int, .int, .int, (.object "java/util/function/BiFunction")], returnType := some .int }, accessFlags := 9, code := some k20c1 }
/-- jdk/internal/util/Preconditions -/
def k20 : Class := { plain "jdk/internal/util/Preconditions" (some 0) with
  accessFlags := 33
  interfaces := #[]
  cf := some (fileOf pool20 24 #[.nestMembers #[55, 131, 125, 114]] #[{ accessFlags := 1, nameIndex := 5, descriptorIndex := 6, attributes := #[] }, { accessFlags := 9, nameIndex := 49, descriptorIndex := 183, attributes := #[] }] 33 2 #[] #[{ accessFlags := 25, nameIndex := 123, descriptorIndex := 124, attributes := #[] }, { accessFlags := 25, nameIndex := 130, descriptorIndex := 124, attributes := #[] }, { accessFlags := 25, nameIndex := 136, descriptorIndex := 124, attributes := #[] }])
  fields := #[{ name := "SIOOBE_FORMATTER", type := (.object "java/util/function/BiFunction"), accessFlags := 25, slot := 0, constantValue := 0 }, { name := "AIOOBE_FORMATTER", type := (.object "java/util/function/BiFunction"), accessFlags := 25, slot := 1, constantValue := 0 }, { name := "IOOBE_FORMATTER", type := (.object "java/util/function/BiFunction"), accessFlags := 25, slot := 2, constantValue := 0 }]
  methods := #[k20m0, k20m1]
  instanceTypes := #[]
  staticTypes := #[(.object "java/util/function/BiFunction"), (.object "java/util/function/BiFunction"), (.object "java/util/function/BiFunction")]
  resolved := Array.replicate 194 none
  statics := some 4 }

def pool21 : Array CpInfo := pool [(1, .class_ 2), (0, u "java/lang/Character"), (18, u "value"), (0, u "C"), (19, .class_ 44), (1, u "java/lang/Object"), (3, .class_ 50), (1, u "java/lang/Character$CharacterCache"), (22, .integer 65536), (0, .integer 1114112), (0, .integer 55296), (0, .integer 56320), (0, .integer 57344), (3, u "(C)Z"), (9, u "(I)C"), (18, .integer 55232), (3, u "(I)Z"), (20, u "lowSurrogate"), (2, u "highSurrogate"), (145, u "$assertionsDisabled"), (0, u "Z"), (21, .class_ 309), (1, u "java/lang/Character$UnicodeBlock"), (73, u "TYPE"), (0, u "Ljava/lang/Class;"), (0, .class_ 386), (0, u "java/io/Serializable"), (0, .class_ 388), (0, u "java/lang/Comparable"), (0, .class_ 390), (0, u "java/lang/constant/Constable"), (0, u "MIN_RADIX"), (0, u "I"), (2, u "MAX_RADIX"), (1, u "MIN_VALUE"), (1, u "MAX_VALUE"), (3, u "UNASSIGNED"), (0, u "B"), (0, u "UPPERCASE_LETTER"), (1, u "LOWERCASE_LETTER"), (0, u "TITLECASE_LETTER"), (1, u "MODIFIER_LETTER"), (1, u "OTHER_LETTER"), (1, u "NON_SPACING_MARK"), (1, u "ENCLOSING_MARK"), (1, u "COMBINING_SPACING_MARK"), (1, u "DECIMAL_DIGIT_NUMBER"), (1, u "LETTER_NUMBER"), (1, u "OTHER_NUMBER"), (1, u "SPACE_SEPARATOR"), (1, u "LINE_SEPARATOR"), (1, u "PARAGRAPH_SEPARATOR"), (1, u "CONTROL"), (1, u "FORMAT"), (1, u "PRIVATE_USE"), (1, u "SURROGATE"), (1, u "DASH_PUNCTUATION"), (1, u "START_PUNCTUATION"), (1, u "END_PUNCTUATION"), (1, u "CONNECTOR_PUNCTUATION"), (1, u "OTHER_PUNCTUATION"), (1, u "MATH_SYMBOL"), (1, u "CURRENCY_SYMBOL"), (1, u "MODIFIER_SYMBOL"), (1, u "OTHER_SYMBOL"), (1, u "INITIAL_QUOTE_PUNCTUATION"), (1, u "FINAL_QUOTE_PUNCTUATION"), (1, u "ERROR"), (1, u "DIRECTIONALITY_UNDEFINED"), (0, u "DIRECTIONALITY_LEFT_TO_RIGHT"), (0, u "DIRECTIONALITY_RIGHT_TO_LEFT"), (0, u "DIRECTIONALITY_RIGHT_TO_LEFT_ARABIC"), (0, u "DIRECTIONALITY_EUROPEAN_NUMBER"), (0, u "DIRECTIONALITY_EUROPEAN_NUMBER_SEPARATOR"), (0, u "DIRECTIONALITY_EUROPEAN_NUMBER_TERMINATOR"), (0, u "DIRECTIONALITY_ARABIC_NUMBER"), (0, u "DIRECTIONALITY_COMMON_NUMBER_SEPARATOR"), (0, u "DIRECTIONALITY_NONSPACING_MARK"), (0, u "DIRECTIONALITY_BOUNDARY_NEUTRAL"), (0, u "DIRECTIONALITY_PARAGRAPH_SEPARATOR"), (0, u "DIRECTIONALITY_SEGMENT_SEPARATOR"), (0, u "DIRECTIONALITY_WHITESPACE"), (0, u "DIRECTIONALITY_OTHER_NEUTRALS"), (0, u "DIRECTIONALITY_LEFT_TO_RIGHT_EMBEDDING"), (0, u "DIRECTIONALITY_LEFT_TO_RIGHT_OVERRIDE"), (0, u "DIRECTIONALITY_RIGHT_TO_LEFT_EMBEDDING"), (0, u "DIRECTIONALITY_RIGHT_TO_LEFT_OVERRIDE"), (1, u "DIRECTIONALITY_POP_DIRECTIONAL_FORMAT"), (0, u "DIRECTIONALITY_LEFT_TO_RIGHT_ISOLATE"), (0, u "DIRECTIONALITY_RIGHT_TO_LEFT_ISOLATE"), (0, u "DIRECTIONALITY_FIRST_STRONG_ISOLATE"), (0, u "DIRECTIONALITY_POP_DIRECTIONAL_ISOLATE"), (0, u "MIN_HIGH_SURROGATE"), (0, u "MAX_HIGH_SURROGATE"), (1, u "MIN_LOW_SURROGATE"), (0, u "MAX_LOW_SURROGATE"), (1, u "MIN_SURROGATE"), (0, u "MAX_SURROGATE"), (0, u "MIN_SUPPLEMENTARY_CODE_POINT"), (0, u "MIN_CODE_POINT"), (0, u "MAX_CODE_POINT"), (1, u "serialVersionUID"), (0, u "J"), (2, u "SIZE"), (0, u "BYTES"), (22, u "isSupplementaryCodePoint"), (1, u "isSurrogate"), (63, .class_ 596), (0, u "java/lang/Character$UnicodeScript"), (0, .class_ 598), (0, u "java/lang/Character$Subset")] 5

def k21c0 : Code := { maxStack := 2, maxLocals := 1, code := jdk_89_method_13_code, exceptionTable := #[], attributes := #[] }
def k21m0 : Method := { name := "isSupplementaryCodePoint", desc := "(I)Z", sig := { parameters := [.int], returnType := some .boolean }, accessFlags := 9, code := some k21c0 }
def k21c1 : Code := { maxStack := 2, maxLocals := 1, code := jdk_89_method_16_code, exceptionTable := #[], attributes := #[] }
def k21m1 : Method := { name := "isSurrogate", desc := "(C)Z", sig := { parameters := [.char], returnType := some .boolean }, accessFlags := 9, code := some k21c1 }
def k21c2 : Code := { maxStack := 2, maxLocals := 1, code := jdk_89_method_28_code, exceptionTable := #[], attributes := #[] }
def k21m2 : Method := { name := "highSurrogate", desc := "(I)C", sig := { parameters := [.int], returnType := some .char }, accessFlags := 9, code := some k21c2 }
def k21c3 : Code := { maxStack := 2, maxLocals := 1, code := jdk_89_method_29_code, exceptionTable := #[], attributes := #[] }
def k21m3 : Method := { name := "lowSurrogate", desc := "(I)C", sig := { parameters := [.int], returnType := some .char }, accessFlags := 9, code := some k21c3 }
/-- java/lang/Character -/
def k21 : Class := { plain "java/lang/Character" (some 0) with
  accessFlags := 49
  interfaces := #[2, 3, 5]
  cf := some (fileOf pool21 1 #[.nestMembers #[48, 595, 307, 597]] #[{ accessFlags := 9, nameIndex := 529, descriptorIndex := 114, attributes := #[] }, { accessFlags := 9, nameIndex := 531, descriptorIndex := 81, attributes := #[] }, { accessFlags := 9, nameIndex := 138, descriptorIndex := 91, attributes := #[] }, { accessFlags := 9, nameIndex := 135, descriptorIndex := 91, attributes := #[] }] 49 42 #[385, 387, 389] #[{ accessFlags := 25, nameIndex := 391, descriptorIndex := 392, attributes := #[] }, { accessFlags := 25, nameIndex := 395, descriptorIndex := 392, attributes := #[] }, { accessFlags := 25, nameIndex := 397, descriptorIndex := 22, attributes := #[] }, { accessFlags := 25, nameIndex := 399, descriptorIndex := 22, attributes := #[] }, { accessFlags := 25, nameIndex := 383, descriptorIndex := 384, attributes := #[] }, { accessFlags := 25, nameIndex := 403, descriptorIndex := 404, attributes := #[] }, { accessFlags := 25, nameIndex := 405, descriptorIndex := 404, attributes := #[] }, { accessFlags := 25, nameIndex := 407, descriptorIndex := 404, attributes := #[] }, { accessFlags := 25, nameIndex := 408, descriptorIndex := 404, attributes := #[] }, { accessFlags := 25, nameIndex := 410, descriptorIndex := 404, attributes := #[] }, { accessFlags := 25, nameIndex := 412, descriptorIndex := 404, attributes := #[] }, { accessFlags := 25, nameIndex := 414, descriptorIndex := 404, attributes := #[] }, { accessFlags := 25, nameIndex := 416, descriptorIndex := 404, attributes := #[] }, { accessFlags := 25, nameIndex := 418, descriptorIndex := 404, attributes := #[] }, { accessFlags := 25, nameIndex := 420, descriptorIndex := 404, attributes := #[] }, { accessFlags := 25, nameIndex := 422, descriptorIndex := 404, attributes := #[] }, { accessFlags := 25, nameIndex := 424, descriptorIndex := 404, attributes := #[] }, { accessFlags := 25, nameIndex := 426, descriptorIndex := 404, attributes := #[] }, { accessFlags := 25, nameIndex := 428, descriptorIndex := 404, attributes := #[] }, { accessFlags := 25, nameIndex := 430, descriptorIndex := 404, attributes := #[] }, { accessFlags := 25, nameIndex := 432, descriptorIndex := 404, attributes := #[] }, { accessFlags := 25, nameIndex := 434, descriptorIndex := 404, attributes := #[] }, { accessFlags := 25, nameIndex := 436, descriptorIndex := 404, attributes := #[] }, { accessFlags := 25, nameIndex := 438, descriptorIndex := 404, attributes := #[] }, { accessFlags := 25, nameIndex := 440, descriptorIndex := 404, attributes := #[] }, { accessFlags := 25, nameIndex := 442, descriptorIndex := 404, attributes := #[] }, { accessFlags := 25, nameIndex := 444, descriptorIndex := 404, attributes := #[] }, { accessFlags := 25, nameIndex := 446, descriptorIndex := 404, attributes := #[] }, { accessFlags := 25, nameIndex := 448, descriptorIndex := 404, attributes := #[] }, { accessFlags := 25, nameIndex := 450, descriptorIndex := 404, attributes := #[] }, { accessFlags := 25, nameIndex := 452, descriptorIndex := 404, attributes := #[] }, { accessFlags := 25, nameIndex := 454, descriptorIndex := 404, attributes := #[] }, { accessFlags := 25, nameIndex := 456, descriptorIndex := 404, attributes := #[] }, { accessFlags := 25, nameIndex := 458, descriptorIndex := 404, attributes := #[] }, { accessFlags := 25, nameIndex := 460, descriptorIndex := 404, attributes := #[] }, { accessFlags := 24, nameIndex := 462, descriptorIndex := 392, attributes := #[] }, { accessFlags := 25, nameIndex := 464, descriptorIndex := 404, attributes := #[] }, { accessFlags := 25, nameIndex := 465, descriptorIndex := 404, attributes := #[] }, { accessFlags := 25, nameIndex := 466, descriptorIndex := 404, attributes := #[] }, { accessFlags := 25, nameIndex := 467, descriptorIndex := 404, attributes := #[] }, { accessFlags := 25, nameIndex := 468, descriptorIndex := 404, attributes := #[] }, { accessFlags := 25, nameIndex := 469, descriptorIndex := 404, attributes := #[] }, { accessFlags := 25, nameIndex := 470, descriptorIndex := 404, attributes := #[] }, { accessFlags := 25, nameIndex := 471, descriptorIndex := 404, attributes := #[] }, { accessFlags := 25, nameIndex := 472, descriptorIndex := 404, attributes := #[] }, { accessFlags := 25, nameIndex := 473, descriptorIndex := 404, attributes := #[] }, { accessFlags := 25, nameIndex := 474, descriptorIndex := 404, attributes := #[] }, { accessFlags := 25, nameIndex := 475, descriptorIndex := 404, attributes := #[] }, { accessFlags := 25, nameIndex := 476, descriptorIndex := 404, attributes := #[] }, { accessFlags := 25, nameIndex := 477, descriptorIndex := 404, attributes := #[] }, { accessFlags := 25, nameIndex := 478, descriptorIndex := 404, attributes := #[] }, { accessFlags := 25, nameIndex := 479, descriptorIndex := 404, attributes := #[] }, { accessFlags := 25, nameIndex := 480, descriptorIndex := 404, attributes := #[] }, { accessFlags := 25, nameIndex := 481, descriptorIndex := 404, attributes := #[] }, { accessFlags := 25, nameIndex := 482, descriptorIndex := 404, attributes := #[] }, { accessFlags := 25, nameIndex := 484, descriptorIndex := 404, attributes := #[] }, { accessFlags := 25, nameIndex := 485, descriptorIndex := 404, attributes := #[] }, { accessFlags := 25, nameIndex := 486, descriptorIndex := 404, attributes := #[] }, { accessFlags := 25, nameIndex := 487, descriptorIndex := 404, attributes := #[] }, { accessFlags := 25, nameIndex := 488, descriptorIndex := 404, attributes := #[] }, { accessFlags := 25, nameIndex := 489, descriptorIndex := 22, attributes := #[] }, { accessFlags := 25, nameIndex := 490, descriptorIndex := 22, attributes := #[] }, { accessFlags := 25, nameIndex := 492, descriptorIndex := 22, attributes := #[] }, { accessFlags := 25, nameIndex := 493, descriptorIndex := 22, attributes := #[] }, { accessFlags := 25, nameIndex := 495, descriptorIndex := 22, attributes := #[] }, { accessFlags := 25, nameIndex := 496, descriptorIndex := 22, attributes := #[] }, { accessFlags := 25, nameIndex := 497, descriptorIndex := 392, attributes := #[] }, { accessFlags := 25, nameIndex := 498, descriptorIndex := 392, attributes := #[] }, { accessFlags := 25, nameIndex := 499, descriptorIndex := 392, attributes := #[] }, { accessFlags := 18, nameIndex := 21, descriptorIndex := 22, attributes := #[] }, { accessFlags := 26, nameIndex := 501, descriptorIndex := 502, attributes := #[] }, { accessFlags := 25, nameIndex := 505, descriptorIndex := 392, attributes := #[] }, { accessFlags := 25, nameIndex := 506, descriptorIndex := 392, attributes := #[] }, { accessFlags := 4120, nameIndex := 284, descriptorIndex := 285, attributes := #[] }])
  fields := #[{ name := "MIN_RADIX", type := .int, accessFlags := 25, slot := 0, constantValue := 0 }, { name := "MAX_RADIX", type := .int, accessFlags := 25, slot := 1, constantValue := 0 }, { name := "MIN_VALUE", type := .char, accessFlags := 25, slot := 2, constantValue := 0 }, { name := "MAX_VALUE", type := .char, accessFlags := 25, slot := 3, constantValue := 0 }, { name := "TYPE", type := (.object "java/lang/Class"), accessFlags := 25, slot := 4, constantValue := 0 }, { name := "UNASSIGNED", type := .byte, accessFlags := 25, slot := 5, constantValue := 0 }, { name := "UPPERCASE_LETTER", type := .byte, accessFlags := 25, slot := 6, constantValue := 0 }, { name := "LOWERCASE_LETTER", type := .byte, accessFlags := 25, slot := 7, constantValue := 0 }, { name := "TITLECASE_LETTER", type := .byte, accessFlags := 25, slot := 8, constantValue := 0 }, { name := "MODIFIER_LETTER", type := .byte, accessFlags := 25, slot := 9, constantValue := 0 }, { name := "OTHER_LETTER", type := .byte, accessFlags := 25, slot := 10, constantValue := 0 }, { name := "NON_SPACING_MARK", type := .byte, accessFlags := 25, slot := 11, constantValue := 0 }, { name := "ENCLOSING_MARK", type := .byte, accessFlags := 25, slot := 12, constantValue := 0 }, { name := "COMBINING_SPACING_MARK", type := .byte, accessFlags := 25, slot := 13, constantValue := 0 }, { name := "DECIMAL_DIGIT_NUMBER", type := .byte, accessFlags := 25, slot := 14, constantValue := 0 }, { name := "LETTER_NUMBER", type := .byte, accessFlags := 25, slot := 15, constantValue := 0 }, { name := "OTHER_NUMBER", type := .byte, accessFlags := 25, slot := 16, constantValue := 0 }, { name := "SPACE_SEPARATOR", type := .byte, accessFlags := 25, slot := 17, constantValue := 0 }, { name := "LINE_SEPARATOR", type := .byte, accessFlags := 25, slot := 18, constantValue := 0 }, { name := "PARAGRAPH_SEPARATOR", type := .byte, accessFlags := 25, slot := 19, constantValue := 0 }, { name := "CONTROL", type := .byte, accessFlags := 25, slot := 20, constantValue := 0 }, { name := "FORMAT", type := .byte, accessFlags := 25, slot := 21, constantValue := 0 }, { name := "PRIVATE_USE", type := .byte, accessFlags := 25, slot := 22, constantValue := 0 }, { name := "SURROGATE", type := .byte, accessFlags := 25, slot := 23, constantValue := 0 }, { name := "DASH_PUNCTUATION", type := .byte, accessFlags := 25, slot := 24, constantValue := 0 }, { name := "START_PUNCTUATION", type := .byte, accessFlags := 25, slot := 25, constantValue := 0 }, { name := "END_PUNCTUATION", type := .byte, accessFlags := 25, slot := 26, constantValue := 0 }, { name := "CONNECTOR_PUNCTUATION", type := .byte, accessFlags := 25, slot := 27, constantValue := 0 }, { name := "OTHER_PUNCTUATION", type := .byte, accessFlags := 25, slot := 28, constantValue := 0 }, { name := "MATH_SYMBOL", type := .byte, accessFlags := 25, slot := 29, constantValue := 0 }, { name := "CURRENCY_SYMBOL", type := .byte, accessFlags := 25, slot := 30, constantValue := 0 }, { name := "MODIFIER_SYMBOL", type := .byte, accessFlags := 25, slot := 31, constantValue := 0 }, { name := "OTHER_SYMBOL", type := .byte, accessFlags := 25, slot := 32, constantValue := 0 }, { name := "INITIAL_QUOTE_PUNCTUATION", type := .byte, accessFlags := 25, slot := 33, constantValue := 0 }, { name := "FINAL_QUOTE_PUNCTUATION", type := .byte, accessFlags := 25, slot := 34, constantValue := 0 }, { name := "ERROR", type := .int, accessFlags := 24, slot := 35, constantValue := 0 }, { name := "DIRECTIONALITY_UNDEFINED", type := .byte, accessFlags := 25, slot := 36, constantValue := 0 }, { name := "DIRECTIONALITY_LEFT_TO_RIGHT", type := .byte, accessFlags := 25, slot := 37, constantValue := 0 }, { name := "DIRECTIONALITY_RIGHT_TO_LEFT", type := .byte, accessFlags := 25, slot := 38, constantValue := 0 }, { name := "DIRECTIONALITY_RIGHT_TO_LEFT_ARABIC", type := .byte, accessFlags := 25, slot := 39, constantValue := 0 }, { name := "DIRECTIONALITY_EUROPEAN_NUMBER", type := .byte, accessFlags := 25, slot := 40, constantValue := 0 }, { name := "DIRECTIONALITY_EUROPEAN_NUMBER_SEPARATOR", type := .byte, accessFlags := 25, slot := 41, constantValue := 0 }, { name := "DIRECTIONALITY_EUROPEAN_NUMBER_TERMINATOR", type := .byte, accessFlags := 25, slot := 42, constantValue := 0 }, { name := "DIRECTIONALITY_ARABIC_NUMBER", type := .byte, accessFlags := 25, slot := 43, constantValue := 0 }, { name := "DIRECTIONALITY_COMMON_NUMBER_SEPARATOR", type := .byte, accessFlags := 25, slot := 44, constantValue := 0 }, { name := "DIRECTIONALITY_NONSPACING_MARK", type := .byte, accessFlags := 25, slot := 45, constantValue := 0 }, { name := "DIRECTIONALITY_BOUNDARY_NEUTRAL", type := .byte, accessFlags := 25, slot := 46, constantValue := 0 }, { name := "DIRECTIONALITY_PARAGRAPH_SEPARATOR", type := .byte, accessFlags := 25, slot := 47, constantValue := 0 }, { name := "DIRECTIONALITY_SEGMENT_SEPARATOR", type := .byte, accessFlags := 25, slot := 48, constantValue := 0 }, { name := "DIRECTIONALITY_WHITESPACE", type := .byte, accessFlags := 25, slot := 49, constantValue := 0 }, { name := "DIRECTIONALITY_OTHER_NEUTRALS", type := .byte, accessFlags := 25, slot := 50, constantValue := 0 }, { name := "DIRECTIONALITY_LEFT_TO_RIGHT_EMBEDDING", type := .byte, accessFlags := 25, slot := 51, constantValue := 0 }, { name := "DIRECTIONALITY_LEFT_TO_RIGHT_OVERRIDE", type := .byte, accessFlags := 25, slot := 52, constantValue := 0 }, { name := "DIRECTIONALITY_RIGHT_TO_LEFT_EMBEDDING", type := .byte, accessFlags := 25, slot := 53, constantValue := 0 }, { name := "DIRECTIONALITY_RIGHT_TO_LEFT_OVERRIDE", type := .byte, accessFlags := 25, slot := 54, constantValue := 0 }, { name := "DIRECTIONALITY_POP_DIRECTIONAL_FORMAT", type := .byte, accessFlags := 25, slot := 55, constantValue := 0 }, { name := "DIRECTIONALITY_LEFT_TO_RIGHT_ISOLATE", type := .byte, accessFlags := 25, slot := 56, constantValue := 0 }, { name := "DIRECTIONALITY_RIGHT_TO_LEFT_ISOLATE", type := .byte, accessFlags := 25, slot := 57, constantValue := 0 }, { name := "DIRECTIONALITY_FIRST_STRONG_ISOLATE", type := .byte, accessFlags := 25, slot := 58, constantValue := 0 }, { name := "DIRECTIONALITY_POP_DIRECTIONAL_ISOLATE", type := .byte, accessFlags := 25, slot := 59, constantValue := 0 }, { name := "MIN_HIGH_SURROGATE", type := .char, accessFlags := 25, slot := 60, constantValue := 0 }, { name := "MAX_HIGH_SURROGATE", type := .char, accessFlags := 25, slot := 61, constantValue := 0 }, { name := "MIN_LOW_SURROGATE", type := .char, accessFlags := 25, slot := 62, constantValue := 0 }, { name := "MAX_LOW_SURROGATE", type := .char, accessFlags := 25, slot := 63, constantValue := 0 }, { name := "MIN_SURROGATE", type := .char, accessFlags := 25, slot := 64, constantValue := 0 }, { name := "MAX_SURROGATE", type := .char, accessFlags := 25, slot := 65, constantValue := 0 }, { name := "MIN_SUPPLEMENTARY_CODE_POINT", type := .int, accessFlags := 25, slot := 66, constantValue := 0 }, { name := "MIN_CODE_POINT", type := .int, accessFlags := 25, slot := 67, constantValue := 0 }, { name := "MAX_CODE_POINT", type := .int, accessFlags := 25, slot := 68, constantValue := 0 }, { name := "value", type := .char, accessFlags := 18, slot := 0, constantValue := 0 }, { name := "serialVersionUID", type := .long, accessFlags := 26, slot := 69, constantValue := 0 }, { name := "SIZE", type := .int, accessFlags := 25, slot := 70, constantValue := 0 }, { name := "BYTES", type := .int, accessFlags := 25, slot := 71, constantValue := 0 }, { name := "$assertionsDisabled", type := .boolean, accessFlags := 4120, slot := 72, constantValue := 0 }]
  methods := #[k21m0, k21m1, k21m2, k21m3]
  instanceTypes := #[.char]
  staticTypes := #[.int, .int, .char, .char, (.object "java/lang/Class"), .byte, .byte, .byte, .byte, .byte, .byte, .byte, .byte, .byte, .byte, .byte, .byte, .byte, .byte, .byte, .byte, .byte, .byte, .byte, .byte, .byte, .byte, .byte, .byte, .byte, .byte, .byte, .byte, .byte, .byte, .int, .byte, .byte, .byte, .byte, .byte, .byte, .byte, .byte, .byte, .byte, .byte, .byte, .byte, .byte, .byte, .byte, .byte, .byte, .byte, .byte, .byte, .byte, .byte, .byte, .char, .char, .char, .char, .char, .char, .int, .int, .int, .long, .int, .int, .boolean]
  resolved := Array.replicate 604 none
  statics := none }

def pool22 : Array CpInfo := pool [(1, .class_ 2), (0, u "java/lang/Math"), (1, .class_ 6), (1, u "java/lang/Object"), (0, u "<init>"), (0, u "()V"), (89, .class_ 100), (1, u "java/lang/Math$RandomNumberGeneratorHolder"), (71, u "negativeZeroFloatBits"), (0, u "J"), (2, u "negativeZeroDoubleBits"), (24, u "min"), (43, u "$assertionsDisabled"), (0, u "Z"), (88, u "(II)I"), (2, u "twoToTheDoubleScaleDown"), (0, u "D"), (4, u "twoToTheDoubleScaleUp"), (9, u "E"), (3, u "PI"), (2, u "TAU"), (2, u "DEGREES_TO_RADIANS"), (0, u "RADIANS_TO_DEGREES")] 94

def k22m0 : Method := { name := "<init>", desc := "()V", sig := { parameters := [], returnType := none }, accessFlags := 2, code := none }
def k22c1 : Code := { maxStack := 2, maxLocals := 2, code := jdk_29_method_69_code, exceptionTable := #[], attributes := #[] }
def k22m1 : Method := { name := "min", desc := "(II)I", sig := { parameters := [.int, .int], returnType := some .int }, accessFlags := 9, code := some k22c1 }
/-- java/lang/Math -/
def k22 : Class := { plain "java/lang/Math" (some 0) with
  accessFlags := 49
  interfaces := #[]
  cf := some (fileOf pool22 1 #[.nestMembers #[98]] #[{ accessFlags := 2, nameIndex := 7, descriptorIndex := 8, attributes := #[] }, { accessFlags := 9, nameIndex := 201, descriptorIndex := 335, attributes := #[] }] 49 4 #[] #[{ accessFlags := 25, nameIndex := 354, descriptorIndex := 339, attributes := #[] }, { accessFlags := 25, nameIndex := 358, descriptorIndex := 339, attributes := #[] }, { accessFlags := 25, nameIndex := 361, descriptorIndex := 339, attributes := #[] }, { accessFlags := 26, nameIndex := 364, descriptorIndex := 339, attributes := #[] }, { accessFlags := 26, nameIndex := 365, descriptorIndex := 339, attributes := #[] }, { accessFlags := 26, nameIndex := 172, descriptorIndex := 173, attributes := #[] }, { accessFlags := 26, nameIndex := 176, descriptorIndex := 173, attributes := #[] }, { accessFlags := 8, nameIndex := 344, descriptorIndex := 339, attributes := #[] }, { accessFlags := 8, nameIndex := 338, descriptorIndex := 339, attributes := #[] }, { accessFlags := 4120, nameIndex := 245, descriptorIndex := 246, attributes := #[] }])
  fields := #[{ name := "E", type := .double, accessFlags := 25, slot := 0, constantValue := 0 }, { name := "PI", type := .double, accessFlags := 25, slot := 1, constantValue := 0 }, { name := "TAU", type := .double, accessFlags := 25, slot := 2, constantValue := 0 }, { name := "DEGREES_TO_RADIANS", type := .double, accessFlags := 26, slot := 3, constantValue := 0 }, { name := "RADIANS_TO_DEGREES", type := .double, accessFlags := 26, slot := 4, constantValue := 0 }, { name := "negativeZeroFloatBits", type := .long, accessFlags := 26, slot := 5, constantValue := 0 }, { name := "negativeZeroDoubleBits", type := .long, accessFlags := 26, slot := 6, constantValue := 0 }, { name := "twoToTheDoubleScaleUp", type := .double, accessFlags := 8, slot := 7, constantValue := 0 }, { name := "twoToTheDoubleScaleDown", type := .double, accessFlags := 8, slot := 8, constantValue := 0 }, { name := "$assertionsDisabled", type := .boolean, accessFlags := 4120, slot := 9, constantValue := 0 }]
  methods := #[k22m0, k22m1]
  instanceTypes := #[]
  staticTypes := #[.double, .double, .double, .double, .double, .long, .long, .double, .double, .boolean]
  resolved := Array.replicate 460 none
  statics := none }

def pool23 : Array CpInfo := pool [(2, .class_ 4), (1, u "java/lang/Object"), (0, u "<init>"), (0, u "()V"), (1, .class_ 10), (1, u "java/lang/System"), (0, u "allowSecurityManager"), (0, u "I"), (16, u "cons"), (0, u "Ljava/io/Console;"), (77, .class_ 110), (1, u "java/lang/System$CallersHolder"), (43, u "initialErrStream"), (0, u "Ljava/io/PrintStream;"), (19, u "security"), (0, u "Ljava/lang/SecurityManager;"), (31, .class_ 209), (0, u "java/lang/System$1"), (7, u "props"), (0, u "Ljava/util/Properties;"), (2, u "lineSeparator"), (0, u "Ljava/lang/String;"), (96, .class_ 321), (1, u "java/lang/System$LoggerFinder"), (5, .class_ 328), (0, u "java/lang/System$Logger"), (67, u "err"), (2, u "out"), (91, u "notSupportedJnuEncoding"), (15, u "in"), (17, u "initialIn"), (0, u "Ljava/io/InputStream;"), (35, u "bootLayer"), (0, u "Ljava/lang/ModuleLayer;"), (99, .class_ 664), (0, u "java/lang/System$2"), (9, u "NEVER"), (2, u "MAYBE"), (49, u "arraycopy"), (0, u "(Ljava/lang/Object;ILjava/lang/Object;II)V"), (72, .class_ 802), (0, u "java/lang/System$Logger$Level")] 31

def k23m0 : Method := { name := "<init>", desc := "()V", sig := { parameters := [], returnType := none }, accessFlags := 2, code := none }
def k23m1 : Method := { name := "arraycopy", desc := "(Ljava/lang/Object;ILjava/lang/Object;II)V", sig := { parameters := [(.object "java/lang/Object"), .int, (.object "java/lang/Object"), .int, .int], returnType := none }, accessFlags := 265, code := none }
/-- java/lang/System -/
def k23 : Class := { plain "java/lang/System" (some 0) with
  accessFlags := 49
  interfaces := #[]
  cf := some (fileOf pool23 8 #[.nestMembers #[319, 327, 801, 108, 663, 208]] #[{ accessFlags := 2, nameIndex := 5, descriptorIndex := 6, attributes := #[] }, { accessFlags := 265, nameIndex := 727, descriptorIndex := 728, attributes := #[] }] 49 2 #[] #[{ accessFlags := 25, nameIndex := 507, descriptorIndex := 526, attributes := #[] }, { accessFlags := 25, nameIndex := 399, descriptorIndex := 155, attributes := #[] }, { accessFlags := 25, nameIndex := 396, descriptorIndex := 155, attributes := #[] }, { accessFlags := 10, nameIndex := 525, descriptorIndex := 526, attributes := #[] }, { accessFlags := 26, nameIndex := 674, descriptorIndex := 12, attributes := #[] }, { accessFlags := 26, nameIndex := 677, descriptorIndex := 12, attributes := #[] }, { accessFlags := 10, nameIndex := 11, descriptorIndex := 12, attributes := #[] }, { accessFlags := 74, nameIndex := 175, descriptorIndex := 176, attributes := #[] }, { accessFlags := 10, nameIndex := 491, descriptorIndex := 222, attributes := #[] }, { accessFlags := 74, nameIndex := 29, descriptorIndex := 30, attributes := #[] }, { accessFlags := 74, nameIndex := 154, descriptorIndex := 155, attributes := #[] }, { accessFlags := 10, nameIndex := 217, descriptorIndex := 218, attributes := #[] }, { accessFlags := 10, nameIndex := 221, descriptorIndex := 222, attributes := #[] }, { accessFlags := 8, nameIndex := 562, descriptorIndex := 563, attributes := #[] }])
  fields := #[{ name := "in", type := (.object "java/io/InputStream"), accessFlags := 25, slot := 0, constantValue := 0 }, { name := "out", type := (.object "java/io/PrintStream"), accessFlags := 25, slot := 1, constantValue := 0 }, { name := "err", type := (.object "java/io/PrintStream"), accessFlags := 25, slot := 2, constantValue := 0 }, { name := "initialIn", type := (.object "java/io/InputStream"), accessFlags := 10, slot := 3, constantValue := 0 }, { name := "NEVER", type := .int, accessFlags := 26, slot := 4, constantValue := 0 }, { name := "MAYBE", type := .int, accessFlags := 26, slot := 5, constantValue := 0 }, { name := "allowSecurityManager", type := .int, accessFlags := 10, slot := 6, constantValue := 0 }, { name := "security", type := (.object "java/lang/SecurityManager"), accessFlags := 74, slot := 7, constantValue := 0 }, { name := "notSupportedJnuEncoding", type := (.object "java/lang/String"), accessFlags := 10, slot := 8, constantValue := 0 }, { name := "cons", type := (.object "java/io/Console"), accessFlags := 74, slot := 9, constantValue := 0 }, { name := "initialErrStream", type := (.object "java/io/PrintStream"), accessFlags := 74, slot := 10, constantValue := 0 }, { name := "props", type := (.object "java/util/Properties"), accessFlags := 10, slot := 11, constantValue := 0 }, { name := "lineSeparator", type := (.object "java/lang/String"), accessFlags := 10, slot := 12, constantValue := 0 }, { name := "bootLayer", type := (.object "java/lang/ModuleLayer"), accessFlags := 8, slot := 13, constantValue := 0 }]
  methods := #[k23m0, k23m1]
  instanceTypes := #[]
  staticTypes := #[(.object "java/io/InputStream"), (.object "java/io/PrintStream"), (.object "java/io/PrintStream"), (.object "java/io/InputStream"), .int, .int, .int, (.object "java/lang/SecurityManager"), (.object "java/lang/String"), (.object "java/io/Console"), (.object "java/io/PrintStream"), (.object "java/util/Properties"), (.object "java/lang/String"), (.object "java/lang/ModuleLayer")]
  resolved := Array.replicate 834 none
  statics := none }

def pool24 : Array CpInfo := pool [(9, u "<init>"), (6, .class_ 18), (1, u "java/lang/Object"), (0, u "()V"), (1, .class_ 23), (1, u "jdk/internal/util/ArraysSupport"), (0, u "LOG2_ARRAY_LONG_INDEX_SCALE"), (0, u "I"), (2, u "U"), (0, u "Ljdk/internal/misc/Unsafe;"), (8, u "BIG_ENDIAN"), (0, u "Z"), (8, u "LOG2_BYTE_BIT_SIZE"), (4, u "LOG2_ARRAY_INT_INDEX_SCALE"), (54, u "JLA"), (0, u "Ljdk/internal/access/JavaLangAccess;"), (11, u "LOG2_ARRAY_BOOLEAN_INDEX_SCALE"), (9, u "LOG2_ARRAY_BYTE_INDEX_SCALE"), (5, u "LOG2_ARRAY_CHAR_INDEX_SCALE"), (5, u "LOG2_ARRAY_SHORT_INDEX_SCALE"), (18, u "LOG2_ARRAY_FLOAT_INDEX_SCALE"), (24, u "LOG2_ARRAY_DOUBLE_INDEX_SCALE"), (89, u "T_BOOLEAN"), (2, u "T_CHAR"), (1, u "T_FLOAT"), (1, u "T_DOUBLE"), (1, u "T_BYTE"), (1, u "T_SHORT"), (1, u "T_INT"), (1, u "T_LONG"), (1, u "SOFT_MAX_ARRAY_LENGTH")] 83

def k24m0 : Method := { name := "<init>", desc := "()V", sig := { parameters := [], returnType := none }, accessFlags := 2, code := none }
/-- jdk/internal/util/ArraysSupport -/
def k24 : Class := { plain "jdk/internal/util/ArraysSupport" (some 0) with
  accessFlags := 33
  interfaces := #[]
  cf := some (fileOf pool24 21 #[] #[{ accessFlags := 2, nameIndex := 9, descriptorIndex := 19, attributes := #[] }] 33 16 #[] #[{ accessFlags := 24, nameIndex := 28, descriptorIndex := 29, attributes := #[] }, { accessFlags := 26, nameIndex := 38, descriptorIndex := 39, attributes := #[] }, { accessFlags := 25, nameIndex := 121, descriptorIndex := 25, attributes := #[] }, { accessFlags := 25, nameIndex := 131, descriptorIndex := 25, attributes := #[] }, { accessFlags := 25, nameIndex := 137, descriptorIndex := 25, attributes := #[] }, { accessFlags := 25, nameIndex := 143, descriptorIndex := 25, attributes := #[] }, { accessFlags := 25, nameIndex := 53, descriptorIndex := 25, attributes := #[] }, { accessFlags := 25, nameIndex := 24, descriptorIndex := 25, attributes := #[] }, { accessFlags := 25, nameIndex := 162, descriptorIndex := 25, attributes := #[] }, { accessFlags := 25, nameIndex := 187, descriptorIndex := 25, attributes := #[] }, { accessFlags := 26, nameIndex := 48, descriptorIndex := 25, attributes := #[] }, { accessFlags := 25, nameIndex := 277, descriptorIndex := 25, attributes := #[] }, { accessFlags := 25, nameIndex := 280, descriptorIndex := 25, attributes := #[] }, { accessFlags := 25, nameIndex := 282, descriptorIndex := 25, attributes := #[] }, { accessFlags := 25, nameIndex := 284, descriptorIndex := 25, attributes := #[] }, { accessFlags := 25, nameIndex := 286, descriptorIndex := 25, attributes := #[] }, { accessFlags := 25, nameIndex := 288, descriptorIndex := 25, attributes := #[] }, { accessFlags := 25, nameIndex := 290, descriptorIndex := 25, attributes := #[] }, { accessFlags := 25, nameIndex := 292, descriptorIndex := 25, attributes := #[] }, { accessFlags := 26, nameIndex := 108, descriptorIndex := 109, attributes := #[] }, { accessFlags := 25, nameIndex := 294, descriptorIndex := 25, attributes := #[] }])
  fields := #[{ name := "U", type := (.object "jdk/internal/misc/Unsafe"), accessFlags := 24, slot := 0, constantValue := 0 }, { name := "BIG_ENDIAN", type := .boolean, accessFlags := 26, slot := 1, constantValue := 0 }, { name := "LOG2_ARRAY_BOOLEAN_INDEX_SCALE", type := .int, accessFlags := 25, slot := 2, constantValue := 0 }, { name := "LOG2_ARRAY_BYTE_INDEX_SCALE", type := .int, accessFlags := 25, slot := 3, constantValue := 0 }, { name := "LOG2_ARRAY_CHAR_INDEX_SCALE", type := .int, accessFlags := 25, slot := 4, constantValue := 0 }, { name := "LOG2_ARRAY_SHORT_INDEX_SCALE", type := .int, accessFlags := 25, slot := 5, constantValue := 0 }, { name := "LOG2_ARRAY_INT_INDEX_SCALE", type := .int, accessFlags := 25, slot := 6, constantValue := 0 }, { name := "LOG2_ARRAY_LONG_INDEX_SCALE", type := .int, accessFlags := 25, slot := 7, constantValue := 0 }, { name := "LOG2_ARRAY_FLOAT_INDEX_SCALE", type := .int, accessFlags := 25, slot := 8, constantValue := 0 }, { name := "LOG2_ARRAY_DOUBLE_INDEX_SCALE", type := .int, accessFlags := 25, slot := 9, constantValue := 0 }, { name := "LOG2_BYTE_BIT_SIZE", type := .int, accessFlags := 26, slot := 10, constantValue := 0 }, { name := "T_BOOLEAN", type := .int, accessFlags := 25, slot := 11, constantValue := 0 }, { name := "T_CHAR", type := .int, accessFlags := 25, slot := 12, constantValue := 0 }, { name := "T_FLOAT", type := .int, accessFlags := 25, slot := 13, constantValue := 0 }, { name := "T_DOUBLE", type := .int, accessFlags := 25, slot := 14, constantValue := 0 }, { name := "T_BYTE", type := .int, accessFlags := 25, slot := 15, constantValue := 0 }, { name := "T_SHORT", type := .int, accessFlags := 25, slot := 16, constantValue := 0 }, { name := "T_INT", type := .int, accessFlags := 25, slot := 17, constantValue := 0 }, { name := "T_LONG", type := .int, accessFlags := 25, slot := 18, constantValue := 0 }, { name := "JLA", type := (.object "jdk/internal/access/JavaLangAccess"), accessFlags := 26, slot := 19, constantValue := 0 }, { name := "SOFT_MAX_ARRAY_LENGTH", type := .int, accessFlags := 25, slot := 20, constantValue := 0 }]
  methods := #[k24m0]
  instanceTypes := #[]
  staticTypes := #[(.object "jdk/internal/misc/Unsafe"), .boolean, .int, .int, .int, .int, .int, .int, .int, .int, .int, .int, .int, .int, .int, .int, .int, .int, .int, (.object "jdk/internal/access/JavaLangAccess"), .int]
  resolved := Array.replicate 378 none
  statics := none }

/-- the primitive byte -/
def k25 : Class := { plain "byte" none with kind := .primitive 'B', accessFlags := 0x411 }
/-- [B -/
def k26 : Class := { plain "[B" (some 0) with kind := .array 25 .byte, interfaces := #[18, 2], accessFlags := 1041 }

/-- the primitive char -/
def k27 : Class := { plain "char" none with kind := .primitive 'C', accessFlags := 0x411 }
/-- [C -/
def k28 : Class := { plain "[C" (some 0) with kind := .array 27 .char, interfaces := #[18, 2], accessFlags := 1041 }

/-- the primitive int -/
def k29 : Class := { plain "int" none with kind := .primitive 'I', accessFlags := 0x411 }
/-- [I -/
def k30 : Class := { plain "[I" (some 0) with kind := .array 29 .int, interfaces := #[18, 2], accessFlags := 1041 }

def heap : Heap := #[{ cls := 7, slots := #[.long 0, .int 1, .null, .int 0, .null, .int 0, .int 0], vm := .statics 7 },
  { cls := 8, slots := #[.int 0, .int 8, .int 0, .int 1], vm := .statics 8 },
  { cls := 10, slots := #[.null, .null, .ref 5, .null, .null, .null], vm := .statics 10 },
  { cls := 15, slots := #[.ref 5, .null], vm := .statics 15 },
  { cls := 20, slots := #[.null, .null, .null], vm := .statics 20 },
  { cls := 15, slots := #[.null, .null, .null], vm := .none }]
def classes : Array Class := #[k0, k1, k2, k3, k4, k5, k6, k7, k8, k9, k10, k11, k12, k13, k14, k15, k16, k17, k18, k19, k20, k21, k22, k23, k24, k25, k26, k27, k28, k29, k30]
def interned : List (Array UInt16 × Addr) := []
def slotsUsed : Nat := 25
def theMethod : MethodId := ⟨1, 1⟩
def args0 : Array Value := #[.int 5, .int 5, .int 5]
def aboutOver (below : List Frame) : State where
  vm := { classes := classes, interned := interned.toArray }
  heap := heap
  slotsUsed := slotsUsed
  threads := #[{ frames := .invoking theMethod args0 :: below }]
def below0 : List Frame := [.native { method := ⟨0, 0⟩, args := #[] }]
def about1 : State := aboutOver below0
def p0 : Program := .bare "" "" ""
def e0 : Env := launch0.env 0 0 0
theorem w_frames : about1.frames = Frame.invoking theMethod args0 :: below0 := rfl
set_option maxRecDepth 65536 in
theorem w_args : argsFit about1.vm theMethod args0 = true := by decide +kernel
set_option maxRecDepth 65536 in
theorem w_heap : heapFits about1 = true := by decide +kernel
set_option maxRecDepth 65536 in
theorem w_runnable : about1.curStatus? = some .runnable := by decide +kernel
set_option maxRecDepth 65536 in
theorem w_alone : about1.alone = true := by decide +kernel
set_option maxRecDepth 65536 in
theorem w_named : about1.methodNamed? x = some theMethod := by decide +kernel
set_option maxRecDepth 65536 in
theorem w_hears : about1.hears theMethod below0 = true := by decide +kernel
set_option maxRecDepth 65536 in
theorem w_ripe : about1.ripe theMethod args0 below0 = true := by decide +kernel
theorem w_running : about1.status = .running := rfl
set_option maxRecDepth 65536 in
theorem w_room : about1.hasRoom e0.platform room_1 = true :=
  launch0.hasRoom_least _ room_1 (by decide +kernel) (by decide +kernel) (by decide +kernel) (by decide +kernel) (by decide +kernel) (by decide +kernel)
theorem allAtoms_all (ts : List Jvm.Cond) (a : Array Jvm.Value) (st : Jvm.State) : (allAtoms ts).before a st = ts.all (fun c => c.before a st) := by
  induction ts with
  | nil => rfl
  | cons c t ih =>
    show (Jvm.Cond.and c (allAtoms t)).before a st = _
    rw [Jvm.Cond.before_and, ih, List.all_cons]
def words1 : List Jvm.Cond := Jvm.Cond.code x code maxLocals ret :: tables_1
/-- a 'code' word, met by the world's own term for the bytes: nothing is compared byte by byte -/
theorem code_word {y : MethodName} {bytes : ByteArray} {mx : Nat} {rt : Option FieldType} {a : Array Value} {s : State} {m : MethodId} {meth : Method} {c : Code} (h1 : s.methodNamed? y = some m) (h2 : s.vm.method? m = some meth) (h3 : meth.code = some c) (h4 : c.code = bytes)
    (h5 : (c.maxLocals == mx && c.exceptionTable.isEmpty && decide (c.maxStack ≤ mostOperands) && decide (meth.sig.returnType = rt) && !meth.locks && decide (parseMethodDescriptor y.desc = some meth.sig)) = true) : (Jvm.Cond.code y bytes mx rt).before a s = true := by
  simp only [Bool.and_eq_true, beq_iff_eq, Bool.not_eq_true', decide_eq_true_eq] at h5
  obtain ⟨⟨⟨⟨⟨g1, g2⟩, g3⟩, g4⟩, g5⟩, g6⟩ := h5
  simp [Cond.before, Cond.holds, Cond.value, h1, h2, h3, h4, g1, g2, g3, g4, g5, g6]
theorem codeWith_word {y : MethodName} {bytes : ByteArray} {mx : Nat} {rt : Option FieldType} {hs : List (Nat × Nat × Nat × Nat)} {a : Array Value} {s : State} {m : MethodId} {meth : Method} {c : Code} (h1 : s.methodNamed? y = some m) (h2 : s.vm.method? m = some meth) (h3 : meth.code = some c) (h4 : c.code = bytes)
    (h5 : (c.maxLocals == mx && (c.exceptionTable.toList.map (fun h => (h.startPc, h.endPc, h.handlerPc, h.catchType)) == hs) && decide (c.maxStack ≤ mostOperands) && decide (meth.sig.returnType = rt) && !meth.locks && decide (parseMethodDescriptor y.desc = some meth.sig)) = true) : (Jvm.Cond.codeWith y bytes mx rt hs).before a s = true := by
  simp only [Bool.and_eq_true, beq_iff_eq, Bool.not_eq_true', decide_eq_true_eq] at h5
  obtain ⟨⟨⟨⟨⟨g1, g2⟩, g3⟩, g4⟩, g5⟩, g6⟩ := h5
  simp [Cond.before, Cond.holds, Cond.value, h1, h2, h3, h4, g1, g2, g3, g4, g5, g6]
def isCode : Jvm.Cond → Bool
  | .code _ _ _ _ => true
  | .codeWith _ _ _ _ _ => true
  | _ => false
theorem all_split {L : List Jvm.Cond} {P : Jvm.Cond → Bool} (h1 : L.all (fun c => isCode c || P c) = true) (h2 : ∀ c ∈ L.filter isCode, P c = true) : L.all P = true := by
  refine List.all_eq_true.mpr fun c hc => ?_
  have h := List.all_eq_true.mp h1 c hc
  rcases Bool.eq_false_or_eq_true (isCode c) with hi | hi
  · exact h2 c (List.mem_filter.mpr ⟨hc, hi⟩)
  · simpa [hi] using h
set_option maxRecDepth 65536 in
theorem w_c0 : (Jvm.Cond.code x code maxLocals ret).before args0 about1 = true := code_word (m := ⟨1, 1⟩) (meth := k1m1) (c := k1c1) (by decide +kernel) rfl rfl rfl (by decide +kernel)
set_option maxRecDepth 65536 in
theorem w_c1 : (Jvm.Cond.code ({ cls := "java/lang/String", name := "<init>", desc := "([C)V" } : Jvm.MethodName) jdk_42_method_3_code (2 : Nat) (Option.none : Option Jvm.ClassFile.FieldType)).before args0 about1 = true := code_word (m := ⟨7, 1⟩) (meth := k7m1) (c := k7c1) (by decide +kernel) rfl rfl rfl (by decide +kernel)
set_option maxRecDepth 65536 in
theorem w_c2 : (Jvm.Cond.code ({ cls := "java/lang/String", name := "<init>", desc := "([CIILjava/lang/Void;)V" } : Jvm.MethodName) jdk_42_method_149_code (6 : Nat) (Option.none : Option Jvm.ClassFile.FieldType)).before args0 about1 = true := code_word (m := ⟨7, 12⟩) (meth := k7m12) (c := k7c12) (by decide +kernel) rfl rfl rfl (by decide +kernel)
set_option maxRecDepth 65536 in
theorem w_c3 : (Jvm.Cond.code ({ cls := "java/lang/Object", name := "<init>", desc := "()V" } : Jvm.MethodName) object_method_1_code (1 : Nat) (Option.none : Option Jvm.ClassFile.FieldType)).before args0 about1 = true := code_word (m := ⟨0, 0⟩) (meth := k0m0) (c := k0c0) (by decide +kernel) rfl rfl rfl (by decide +kernel)
set_option maxRecDepth 65536 in
theorem w_c4 : (Jvm.Cond.code ({ cls := "java/lang/StringUTF16", name := "compress", desc := "([CII)[B" } : Jvm.MethodName) jdk_52_method_16_code (6 : Nat) (Option.some (Jvm.ClassFile.FieldType.array Jvm.ClassFile.FieldType.byte))).before args0 about1 = true := code_word (m := ⟨8, 8⟩) (meth := k8m8) (c := k8c8) (by decide +kernel) rfl rfl rfl (by decide +kernel)
set_option maxRecDepth 65536 in
theorem w_c5 : (Jvm.Cond.code ({ cls := "java/lang/StringUTF16", name := "compress", desc := "([CI[BII)I" } : Jvm.MethodName) jdk_52_method_21_code (7 : Nat) (Option.some Jvm.ClassFile.FieldType.int)).before args0 about1 = true := code_word (m := ⟨8, 9⟩) (meth := k8m9) (c := k8c9) (by decide +kernel) rfl rfl rfl (by decide +kernel)
set_option maxRecDepth 65536 in
theorem w_c6 : (Jvm.Cond.code ({ cls := "java/lang/StringUTF16", name := "coderFromArrayLen", desc := "([BI)B" } : Jvm.MethodName) jdk_52_method_15_code (2 : Nat) (Option.some Jvm.ClassFile.FieldType.byte)).before args0 about1 = true := code_word (m := ⟨8, 7⟩) (meth := k8m7) (c := k8c7) (by decide +kernel) rfl rfl rfl (by decide +kernel)
set_option maxRecDepth 65536 in
theorem w_c7 : (Jvm.Cond.code ({ cls := "com/example/gradual_reply/gradualreply/EncodedBody", name := "<init>", desc := "(Ljava/lang/String;[B)V" } : Jvm.MethodName) prog_6_method_1_code (3 : Nat) (Option.none : Option Jvm.ClassFile.FieldType)).before args0 about1 = true := code_word (m := ⟨9, 0⟩) (meth := k9m0) (c := k9c0) (by decide +kernel) rfl rfl rfl (by decide +kernel)
set_option maxRecDepth 65536 in
theorem w_c8 : (Jvm.Cond.code ({ cls := "com/example/gradual_reply/gradualreply/EncodedBody", name := "text", desc := "()Ljava/lang/String;" } : Jvm.MethodName) prog_6_method_4_code (1 : Nat) (Option.some (Jvm.ClassFile.FieldType.object "java/lang/String"))).before args0 about1 = true := code_word (m := ⟨9, 1⟩) (meth := k9m1) (c := k9c1) (by decide +kernel) rfl rfl rfl (by decide +kernel)
set_option maxRecDepth 65536 in
theorem w_c9 : (Jvm.Cond.code ({ cls := "java/lang/String", name := "<init>", desc := "([BLjava/nio/charset/Charset;)V" } : Jvm.MethodName) jdk_42_method_49_code (3 : Nat) (Option.none : Option Jvm.ClassFile.FieldType)).before args0 about1 = true := code_word (m := ⟨7, 10⟩) (meth := k7m10) (c := k7c10) (by decide +kernel) rfl rfl rfl (by decide +kernel)
set_option maxRecDepth 65536 in
theorem w_c10 : (Jvm.Cond.code ({ cls := "java/util/Objects", name := "requireNonNull", desc := "(Ljava/lang/Object;)Ljava/lang/Object;" } : Jvm.MethodName) jdk_31_method_10_code (1 : Nat) (Option.some (Jvm.ClassFile.FieldType.object "java/lang/Object"))).before args0 about1 = true := code_word (m := ⟨11, 1⟩) (meth := k11m1) (c := k11c1) (by decide +kernel) rfl rfl rfl (by decide +kernel)
set_option maxRecDepth 65536 in
theorem w_c11 : (Jvm.Cond.code ({ cls := "java/lang/StringCoding", name := "countPositives", desc := "([BII)I" } : Jvm.MethodName) jdk_123_method_3_code (5 : Nat) (Option.some Jvm.ClassFile.FieldType.int)).before args0 about1 = true := code_word (m := ⟨16, 1⟩) (meth := k16m1) (c := k16c1) (by decide +kernel) rfl rfl rfl (by decide +kernel)
set_option maxRecDepth 65536 in
theorem w_c12 : (Jvm.Cond.code ({ cls := "java/util/Arrays", name := "copyOfRange", desc := "([BII)[B" } : Jvm.MethodName) jdk_65_method_132_code (3 : Nat) (Option.some (Jvm.ClassFile.FieldType.array Jvm.ClassFile.FieldType.byte))).before args0 about1 = true := code_word (m := ⟨17, 2⟩) (meth := k17m2) (c := k17c2) (by decide +kernel) rfl rfl rfl (by decide +kernel)
set_option maxRecDepth 65536 in
theorem w_c13 : (Jvm.Cond.code ({ cls := "java/lang/String", name := "equals", desc := "(Ljava/lang/Object;)Z" } : Jvm.MethodName) jdk_42_method_66_code (3 : Nat) (Option.some Jvm.ClassFile.FieldType.boolean)).before args0 about1 = true := code_word (m := ⟨7, 11⟩) (meth := k7m11) (c := k7c11) (by decide +kernel) rfl rfl rfl (by decide +kernel)
set_option maxRecDepth 65536 in
theorem w_c14 : (Jvm.Cond.code ({ cls := "java/lang/StringLatin1", name := "equals", desc := "([B[B)Z" } : Jvm.MethodName) jdk_43_method_13_code (3 : Nat) (Option.some Jvm.ClassFile.FieldType.boolean)).before args0 about1 = true := code_word (m := ⟨19, 1⟩) (meth := k19m1) (c := k19c1) (by decide +kernel) rfl rfl rfl (by decide +kernel)
set_option maxRecDepth 65536 in
theorem w_c15 : (Jvm.Cond.code ({ cls := "java/lang/StringUTF16", name := "toBytes", desc := "([CII)[B" } : Jvm.MethodName) jdk_52_method_14_code (5 : Nat) (Option.some (Jvm.ClassFile.FieldType.array Jvm.ClassFile.FieldType.byte))).before args0 about1 = true := code_word (m := ⟨8, 6⟩) (meth := k8m6) (c := k8c6) (by decide +kernel) rfl rfl rfl (by decide +kernel)
set_option maxRecDepth 65536 in
theorem w_c16 : (Jvm.Cond.code ({ cls := "java/lang/StringUTF16", name := "newBytesFor", desc := "(I)[B" } : Jvm.MethodName) jdk_52_method_2_code (1 : Nat) (Option.some (Jvm.ClassFile.FieldType.array Jvm.ClassFile.FieldType.byte))).before args0 about1 = true := code_word (m := ⟨8, 1⟩) (meth := k8m1) (c := k8c1) (by decide +kernel) rfl rfl rfl (by decide +kernel)
set_option maxRecDepth 65536 in
theorem w_c17 : (Jvm.Cond.code ({ cls := "java/lang/StringUTF16", name := "newBytesLength", desc := "(I)I" } : Jvm.MethodName) jdk_52_method_3_code (1 : Nat) (Option.some Jvm.ClassFile.FieldType.int)).before args0 about1 = true := code_word (m := ⟨8, 2⟩) (meth := k8m2) (c := k8c2) (by decide +kernel) rfl rfl rfl (by decide +kernel)
set_option maxRecDepth 65536 in
theorem w_c18 : (Jvm.Cond.code ({ cls := "java/lang/StringUTF16", name := "putChar", desc := "([BII)V" } : Jvm.MethodName) jdk_52_method_4_code (3 : Nat) (Option.none : Option Jvm.ClassFile.FieldType)).before args0 about1 = true := code_word (m := ⟨8, 3⟩) (meth := k8m3) (c := k8c3) (by decide +kernel) rfl rfl rfl (by decide +kernel)
set_option maxRecDepth 65536 in
theorem w_c19 : (Jvm.Cond.code ({ cls := "java/lang/StringUTF16", name := "getChar", desc := "([BI)C" } : Jvm.MethodName) jdk_52_method_5_code (2 : Nat) (Option.some Jvm.ClassFile.FieldType.char)).before args0 about1 = true := code_word (m := ⟨8, 4⟩) (meth := k8m4) (c := k8c4) (by decide +kernel) rfl rfl rfl (by decide +kernel)
set_option maxRecDepth 65536 in
theorem w_c20 : (Jvm.Cond.code ({ cls := "java/lang/StringLatin1", name := "inflate", desc := "([BI[BII)V" } : Jvm.MethodName) jdk_43_method_50_code (5 : Nat) (Option.none : Option Jvm.ClassFile.FieldType)).before args0 about1 = true := code_word (m := ⟨19, 2⟩) (meth := k19m2) (c := k19c2) (by decide +kernel) rfl rfl rfl (by decide +kernel)
set_option maxRecDepth 65536 in
theorem w_c21 : (Jvm.Cond.code ({ cls := "java/lang/StringUTF16", name := "inflate", desc := "([BI[BII)V" } : Jvm.MethodName) jdk_52_method_86_code (6 : Nat) (Option.none : Option Jvm.ClassFile.FieldType)).before args0 about1 = true := code_word (m := ⟨8, 10⟩) (meth := k8m10) (c := k8c10) (by decide +kernel) rfl rfl rfl (by decide +kernel)
set_option maxRecDepth 65536 in
theorem w_c22 : (Jvm.Cond.code ({ cls := "java/lang/StringUTF16", name := "checkBoundsOffCount", desc := "(II[B)V" } : Jvm.MethodName) jdk_52_method_94_code (3 : Nat) (Option.none : Option Jvm.ClassFile.FieldType)).before args0 about1 = true := code_word (m := ⟨8, 11⟩) (meth := k8m11) (c := k8c11) (by decide +kernel) rfl rfl rfl (by decide +kernel)
set_option maxRecDepth 65536 in
theorem w_c23 : (Jvm.Cond.code ({ cls := "java/lang/StringUTF16", name := "length", desc := "([B)I" } : Jvm.MethodName) jdk_52_method_6_code (1 : Nat) (Option.some Jvm.ClassFile.FieldType.int)).before args0 about1 = true := code_word (m := ⟨8, 5⟩) (meth := k8m5) (c := k8c5) (by decide +kernel) rfl rfl rfl (by decide +kernel)
set_option maxRecDepth 65536 in
theorem w_c24 : (Jvm.Cond.code ({ cls := "java/lang/String", name := "checkBoundsOffCount", desc := "(III)I" } : Jvm.MethodName) jdk_42_method_157_code (3 : Nat) (Option.some Jvm.ClassFile.FieldType.int)).before args0 about1 = true := code_word (m := ⟨7, 13⟩) (meth := k7m13) (c := k7c13) (by decide +kernel) rfl rfl rfl (by decide +kernel)
set_option maxRecDepth 65536 in
theorem w_c25 : (Jvm.Cond.code ({ cls := "jdk/internal/util/Preconditions", name := "checkFromIndexSize", desc := "(IIILjava/util/function/BiFunction;)I" } : Jvm.MethodName) jdk_41_method_13_code (4 : Nat) (Option.some Jvm.ClassFile.FieldType.int)).before args0 about1 = true := code_word (m := ⟨20, 1⟩) (meth := k20m1) (c := k20c1) (by decide +kernel) rfl rfl rfl (by decide +kernel)
set_option maxRecDepth 65536 in
theorem w_c26 : (Jvm.Cond.code ({ cls := "java/lang/String", name := "decodeUTF8_UTF16", desc := "([BII[BIZ)I" } : Jvm.MethodName) jdk_42_method_38_code (11 : Nat) (Option.some Jvm.ClassFile.FieldType.int)).before args0 about1 = true := code_word (m := ⟨7, 9⟩) (meth := k7m9) (c := k7c9) (by decide +kernel) rfl rfl rfl (by decide +kernel)
set_option maxRecDepth 65536 in
theorem w_c27 : (Jvm.Cond.code ({ cls := "java/lang/String", name := "decode4", desc := "(IIII)I" } : Jvm.MethodName) jdk_42_method_37_code (4 : Nat) (Option.some Jvm.ClassFile.FieldType.int)).before args0 about1 = true := code_word (m := ⟨7, 8⟩) (meth := k7m8) (c := k7c8) (by decide +kernel) rfl rfl rfl (by decide +kernel)
set_option maxRecDepth 65536 in
theorem w_c28 : (Jvm.Cond.code ({ cls := "java/lang/String", name := "isMalformed4", desc := "(III)Z" } : Jvm.MethodName) jdk_42_method_32_code (3 : Nat) (Option.some Jvm.ClassFile.FieldType.boolean)).before args0 about1 = true := code_word (m := ⟨7, 5⟩) (meth := k7m5) (c := k7c5) (by decide +kernel) rfl rfl rfl (by decide +kernel)
set_option maxRecDepth 65536 in
theorem w_c29 : (Jvm.Cond.code ({ cls := "java/lang/Character", name := "isSupplementaryCodePoint", desc := "(I)Z" } : Jvm.MethodName) jdk_89_method_13_code (1 : Nat) (Option.some Jvm.ClassFile.FieldType.boolean)).before args0 about1 = true := code_word (m := ⟨21, 0⟩) (meth := k21m0) (c := k21c0) (by decide +kernel) rfl rfl rfl (by decide +kernel)
set_option maxRecDepth 65536 in
theorem w_c30 : (Jvm.Cond.code ({ cls := "java/lang/Character", name := "highSurrogate", desc := "(I)C" } : Jvm.MethodName) jdk_89_method_28_code (1 : Nat) (Option.some Jvm.ClassFile.FieldType.char)).before args0 about1 = true := code_word (m := ⟨21, 2⟩) (meth := k21m2) (c := k21c2) (by decide +kernel) rfl rfl rfl (by decide +kernel)
set_option maxRecDepth 65536 in
theorem w_c31 : (Jvm.Cond.code ({ cls := "java/lang/Character", name := "lowSurrogate", desc := "(I)C" } : Jvm.MethodName) jdk_89_method_29_code (1 : Nat) (Option.some Jvm.ClassFile.FieldType.char)).before args0 about1 = true := code_word (m := ⟨21, 3⟩) (meth := k21m3) (c := k21c3) (by decide +kernel) rfl rfl rfl (by decide +kernel)
set_option maxRecDepth 65536 in
theorem w_c32 : (Jvm.Cond.code ({ cls := "java/util/Arrays", name := "copyOf", desc := "([BI)[B" } : Jvm.MethodName) jdk_65_method_121_code (3 : Nat) (Option.some (Jvm.ClassFile.FieldType.array Jvm.ClassFile.FieldType.byte))).before args0 about1 = true := code_word (m := ⟨17, 1⟩) (meth := k17m1) (c := k17c1) (by decide +kernel) rfl rfl rfl (by decide +kernel)
set_option maxRecDepth 65536 in
theorem w_c33 : (Jvm.Cond.code ({ cls := "java/lang/Math", name := "min", desc := "(II)I" } : Jvm.MethodName) jdk_29_method_69_code (2 : Nat) (Option.some Jvm.ClassFile.FieldType.int)).before args0 about1 = true := code_word (m := ⟨22, 1⟩) (meth := k22m1) (c := k22c1) (by decide +kernel) rfl rfl rfl (by decide +kernel)
set_option maxRecDepth 65536 in
theorem w_c34 : (Jvm.Cond.code ({ cls := "java/lang/String", name := "isNotContinuation", desc := "(I)Z" } : Jvm.MethodName) jdk_42_method_29_code (1 : Nat) (Option.some Jvm.ClassFile.FieldType.boolean)).before args0 about1 = true := code_word (m := ⟨7, 3⟩) (meth := k7m3) (c := k7c3) (by decide +kernel) rfl rfl rfl (by decide +kernel)
set_option maxRecDepth 65536 in
theorem w_c35 : (Jvm.Cond.code ({ cls := "java/lang/String", name := "decode2", desc := "(II)C" } : Jvm.MethodName) jdk_42_method_35_code (2 : Nat) (Option.some Jvm.ClassFile.FieldType.char)).before args0 about1 = true := code_word (m := ⟨7, 6⟩) (meth := k7m6) (c := k7c6) (by decide +kernel) rfl rfl rfl (by decide +kernel)
set_option maxRecDepth 65536 in
theorem w_c36 : (Jvm.Cond.code ({ cls := "java/lang/String", name := "isMalformed3", desc := "(III)Z" } : Jvm.MethodName) jdk_42_method_30_code (3 : Nat) (Option.some Jvm.ClassFile.FieldType.boolean)).before args0 about1 = true := code_word (m := ⟨7, 4⟩) (meth := k7m4) (c := k7c4) (by decide +kernel) rfl rfl rfl (by decide +kernel)
set_option maxRecDepth 65536 in
theorem w_c37 : (Jvm.Cond.code ({ cls := "java/lang/String", name := "decode3", desc := "(III)C" } : Jvm.MethodName) jdk_42_method_36_code (3 : Nat) (Option.some Jvm.ClassFile.FieldType.char)).before args0 about1 = true := code_word (m := ⟨7, 7⟩) (meth := k7m7) (c := k7c7) (by decide +kernel) rfl rfl rfl (by decide +kernel)
set_option maxRecDepth 65536 in
theorem w_c38 : (Jvm.Cond.code ({ cls := "java/lang/Character", name := "isSurrogate", desc := "(C)Z" } : Jvm.MethodName) jdk_89_method_16_code (1 : Nat) (Option.some Jvm.ClassFile.FieldType.boolean)).before args0 about1 = true := code_word (m := ⟨21, 1⟩) (meth := k21m1) (c := k21c1) (by decide +kernel) rfl rfl rfl (by decide +kernel)
set_option maxRecDepth 65536 in
theorem w_cw66 : (Jvm.Cond.codeWith ({ cls := "java/lang/String", name := "<init>", desc := "(Ljava/nio/charset/Charset;[BII)V" } : Jvm.MethodName) jdk_42_method_11_code (11 : Nat) (Option.none : Option Jvm.ClassFile.FieldType) [((800 : Nat), (813 : Nat), (816 : Nat), (202 : Nat))]).before args0 about1 = true := codeWith_word (m := ⟨7, 2⟩) (meth := k7m2) (c := k7c2) (by decide +kernel) rfl rfl rfl (by decide +kernel)
def codes1 : List Jvm.Cond := [Jvm.Cond.code x code maxLocals ret, Jvm.Cond.code ({ cls := "java/lang/String", name := "<init>", desc := "([C)V" } : Jvm.MethodName) jdk_42_method_3_code (2 : Nat) (Option.none : Option Jvm.ClassFile.FieldType), Jvm.Cond.code ({ cls := "java/lang/String", name := "<init>", desc := "([CIILjava/lang/Void;)V" } : Jvm.MethodName) jdk_42_method_149_code (6 : Nat) (Option.none : Option Jvm.ClassFile.FieldType), Jvm.Cond.code ({ cls := "java/lang/Object", name := "<init>", desc := "()V" } : Jvm.MethodName) object_method_1_code (1 : Nat) (Option.none : Option Jvm.ClassFile.FieldType), Jvm.Cond.code ({ cls := "java/lang/StringUTF16", name := "compress", desc := "([CII)[B" } : Jvm.MethodName) jdk_52_method_16_code (6 : Nat) (Option.some (Jvm.ClassFile.FieldType.array Jvm.ClassFile.FieldType.byte)), Jvm.Cond.code ({ cls := "java/lang/StringUTF16", name := "compress", desc := "([CI[BII)I" } : Jvm.MethodName) jdk_52_method_21_code (7 : Nat) (Option.some Jvm.ClassFile.FieldType.int), Jvm.Cond.code ({ cls := "java/lang/StringUTF16", name := "coderFromArrayLen", desc := "([BI)B" } : Jvm.MethodName) jdk_52_method_15_code (2 : Nat) (Option.some Jvm.ClassFile.FieldType.byte), Jvm.Cond.code ({ cls := "com/example/gradual_reply/gradualreply/EncodedBody", name := "<init>", desc := "(Ljava/lang/String;[B)V" } : Jvm.MethodName) prog_6_method_1_code (3 : Nat) (Option.none : Option Jvm.ClassFile.FieldType), Jvm.Cond.code ({ cls := "com/example/gradual_reply/gradualreply/EncodedBody", name := "text", desc := "()Ljava/lang/String;" } : Jvm.MethodName) prog_6_method_4_code (1 : Nat) (Option.some (Jvm.ClassFile.FieldType.object "java/lang/String")), Jvm.Cond.code ({ cls := "java/lang/String", name := "<init>", desc := "([BLjava/nio/charset/Charset;)V" } : Jvm.MethodName) jdk_42_method_49_code (3 : Nat) (Option.none : Option Jvm.ClassFile.FieldType), Jvm.Cond.code ({ cls := "java/util/Objects", name := "requireNonNull", desc := "(Ljava/lang/Object;)Ljava/lang/Object;" } : Jvm.MethodName) jdk_31_method_10_code (1 : Nat) (Option.some (Jvm.ClassFile.FieldType.object "java/lang/Object")), Jvm.Cond.codeWith ({ cls := "java/lang/String", name := "<init>", desc := "(Ljava/nio/charset/Charset;[BII)V" } : Jvm.MethodName) jdk_42_method_11_code (11 : Nat) (Option.none : Option Jvm.ClassFile.FieldType) [((800 : Nat), (813 : Nat), (816 : Nat), (202 : Nat))], Jvm.Cond.code ({ cls := "java/lang/StringCoding", name := "countPositives", desc := "([BII)I" } : Jvm.MethodName) jdk_123_method_3_code (5 : Nat) (Option.some Jvm.ClassFile.FieldType.int), Jvm.Cond.code ({ cls := "java/util/Arrays", name := "copyOfRange", desc := "([BII)[B" } : Jvm.MethodName) jdk_65_method_132_code (3 : Nat) (Option.some (Jvm.ClassFile.FieldType.array Jvm.ClassFile.FieldType.byte)), Jvm.Cond.code ({ cls := "java/lang/String", name := "equals", desc := "(Ljava/lang/Object;)Z" } : Jvm.MethodName) jdk_42_method_66_code (3 : Nat) (Option.some Jvm.ClassFile.FieldType.boolean), Jvm.Cond.code ({ cls := "java/lang/StringLatin1", name := "equals", desc := "([B[B)Z" } : Jvm.MethodName) jdk_43_method_13_code (3 : Nat) (Option.some Jvm.ClassFile.FieldType.boolean), Jvm.Cond.code ({ cls := "java/lang/StringUTF16", name := "toBytes", desc := "([CII)[B" } : Jvm.MethodName) jdk_52_method_14_code (5 : Nat) (Option.some (Jvm.ClassFile.FieldType.array Jvm.ClassFile.FieldType.byte)), Jvm.Cond.code ({ cls := "java/lang/StringUTF16", name := "newBytesFor", desc := "(I)[B" } : Jvm.MethodName) jdk_52_method_2_code (1 : Nat) (Option.some (Jvm.ClassFile.FieldType.array Jvm.ClassFile.FieldType.byte)), Jvm.Cond.code ({ cls := "java/lang/StringUTF16", name := "newBytesLength", desc := "(I)I" } : Jvm.MethodName) jdk_52_method_3_code (1 : Nat) (Option.some Jvm.ClassFile.FieldType.int), Jvm.Cond.code ({ cls := "java/lang/StringUTF16", name := "putChar", desc := "([BII)V" } : Jvm.MethodName) jdk_52_method_4_code (3 : Nat) (Option.none : Option Jvm.ClassFile.FieldType), Jvm.Cond.code ({ cls := "java/lang/StringUTF16", name := "getChar", desc := "([BI)C" } : Jvm.MethodName) jdk_52_method_5_code (2 : Nat) (Option.some Jvm.ClassFile.FieldType.char), Jvm.Cond.code ({ cls := "java/lang/StringLatin1", name := "inflate", desc := "([BI[BII)V" } : Jvm.MethodName) jdk_43_method_50_code (5 : Nat) (Option.none : Option Jvm.ClassFile.FieldType), Jvm.Cond.code ({ cls := "java/lang/StringUTF16", name := "inflate", desc := "([BI[BII)V" } : Jvm.MethodName) jdk_52_method_86_code (6 : Nat) (Option.none : Option Jvm.ClassFile.FieldType), Jvm.Cond.code ({ cls := "java/lang/StringUTF16", name := "checkBoundsOffCount", desc := "(II[B)V" } : Jvm.MethodName) jdk_52_method_94_code (3 : Nat) (Option.none : Option Jvm.ClassFile.FieldType), Jvm.Cond.code ({ cls := "java/lang/StringUTF16", name := "length", desc := "([B)I" } : Jvm.MethodName) jdk_52_method_6_code (1 : Nat) (Option.some Jvm.ClassFile.FieldType.int), Jvm.Cond.code ({ cls := "java/lang/String", name := "checkBoundsOffCount", desc := "(III)I" } : Jvm.MethodName) jdk_42_method_157_code (3 : Nat) (Option.some Jvm.ClassFile.FieldType.int), Jvm.Cond.code ({ cls := "jdk/internal/util/Preconditions", name := "checkFromIndexSize", desc := "(IIILjava/util/function/BiFunction;)I" } : Jvm.MethodName) jdk_41_method_13_code (4 : Nat) (Option.some Jvm.ClassFile.FieldType.int), Jvm.Cond.code ({ cls := "java/lang/String", name := "decodeUTF8_UTF16", desc := "([BII[BIZ)I" } : Jvm.MethodName) jdk_42_method_38_code (11 : Nat) (Option.some Jvm.ClassFile.FieldType.int), Jvm.Cond.code ({ cls := "java/lang/String", name := "decode4", desc := "(IIII)I" } : Jvm.MethodName) jdk_42_method_37_code (4 : Nat) (Option.some Jvm.ClassFile.FieldType.int), Jvm.Cond.code ({ cls := "java/lang/String", name := "isMalformed4", desc := "(III)Z" } : Jvm.MethodName) jdk_42_method_32_code (3 : Nat) (Option.some Jvm.ClassFile.FieldType.boolean), Jvm.Cond.code ({ cls := "java/lang/Character", name := "isSupplementaryCodePoint", desc := "(I)Z" } : Jvm.MethodName) jdk_89_method_13_code (1 : Nat) (Option.some Jvm.ClassFile.FieldType.boolean), Jvm.Cond.code ({ cls := "java/lang/Character", name := "highSurrogate", desc := "(I)C" } : Jvm.MethodName) jdk_89_method_28_code (1 : Nat) (Option.some Jvm.ClassFile.FieldType.char), Jvm.Cond.code ({ cls := "java/lang/Character", name := "lowSurrogate", desc := "(I)C" } : Jvm.MethodName) jdk_89_method_29_code (1 : Nat) (Option.some Jvm.ClassFile.FieldType.char), Jvm.Cond.code ({ cls := "java/util/Arrays", name := "copyOf", desc := "([BI)[B" } : Jvm.MethodName) jdk_65_method_121_code (3 : Nat) (Option.some (Jvm.ClassFile.FieldType.array Jvm.ClassFile.FieldType.byte)), Jvm.Cond.code ({ cls := "java/lang/Math", name := "min", desc := "(II)I" } : Jvm.MethodName) jdk_29_method_69_code (2 : Nat) (Option.some Jvm.ClassFile.FieldType.int), Jvm.Cond.code ({ cls := "java/lang/String", name := "isNotContinuation", desc := "(I)Z" } : Jvm.MethodName) jdk_42_method_29_code (1 : Nat) (Option.some Jvm.ClassFile.FieldType.boolean), Jvm.Cond.code ({ cls := "java/lang/String", name := "decode2", desc := "(II)C" } : Jvm.MethodName) jdk_42_method_35_code (2 : Nat) (Option.some Jvm.ClassFile.FieldType.char), Jvm.Cond.code ({ cls := "java/lang/String", name := "isMalformed3", desc := "(III)Z" } : Jvm.MethodName) jdk_42_method_30_code (3 : Nat) (Option.some Jvm.ClassFile.FieldType.boolean), Jvm.Cond.code ({ cls := "java/lang/String", name := "decode3", desc := "(III)C" } : Jvm.MethodName) jdk_42_method_36_code (3 : Nat) (Option.some Jvm.ClassFile.FieldType.char), Jvm.Cond.code ({ cls := "java/lang/Character", name := "isSurrogate", desc := "(C)Z" } : Jvm.MethodName) jdk_89_method_16_code (1 : Nat) (Option.some Jvm.ClassFile.FieldType.boolean)]
set_option maxRecDepth 65536 in
theorem codes_eq : words1.filter isCode = codes1 := rfl
theorem w_codes : ∀ c ∈ words1.filter isCode, c.before args0 about1 = true := by
  rw [codes_eq]
  intro c hc
  simp only [codes1, List.mem_cons, List.not_mem_nil, or_false] at hc
  rcases hc with rfl | rfl | rfl | rfl | rfl | rfl | rfl | rfl | rfl | rfl | rfl | rfl | rfl | rfl | rfl | rfl | rfl | rfl | rfl | rfl | rfl | rfl | rfl | rfl | rfl | rfl | rfl | rfl | rfl | rfl | rfl | rfl | rfl | rfl | rfl | rfl | rfl | rfl | rfl | rfl
  · exact w_c0
  · exact w_c1
  · exact w_c2
  · exact w_c3
  · exact w_c4
  · exact w_c5
  · exact w_c6
  · exact w_c7
  · exact w_c8
  · exact w_c9
  · exact w_c10
  · exact w_cw66
  · exact w_c11
  · exact w_c12
  · exact w_c13
  · exact w_c14
  · exact w_c15
  · exact w_c16
  · exact w_c17
  · exact w_c18
  · exact w_c19
  · exact w_c20
  · exact w_c21
  · exact w_c22
  · exact w_c23
  · exact w_c24
  · exact w_c25
  · exact w_c26
  · exact w_c27
  · exact w_c28
  · exact w_c29
  · exact w_c30
  · exact w_c31
  · exact w_c32
  · exact w_c33
  · exact w_c34
  · exact w_c35
  · exact w_c36
  · exact w_c37
  · exact w_c38
set_option maxRecDepth 65536 in
theorem w_t1 : (words1.take 24).all (fun c => isCode c || c.before args0 about1) = true := by decide +kernel
set_option maxRecDepth 65536 in
theorem w_t2 : ((words1.drop 24).take 24).all (fun c => isCode c || c.before args0 about1) = true := by decide +kernel
set_option maxRecDepth 65536 in
theorem w_t3 : (((words1.drop 24).drop 24).take 24).all (fun c => isCode c || c.before args0 about1) = true := by decide +kernel
set_option maxRecDepth 65536 in
theorem w_t4 : ((((words1.drop 24).drop 24).drop 24).take 24).all (fun c => isCode c || c.before args0 about1) = true := by decide +kernel
set_option maxRecDepth 65536 in
theorem w_t5 : (((((words1.drop 24).drop 24).drop 24).drop 24).take 24).all (fun c => isCode c || c.before args0 about1) = true := by decide +kernel
set_option maxRecDepth 65536 in
theorem w_t6 : ((((((words1.drop 24).drop 24).drop 24).drop 24).drop 24).take 24).all (fun c => isCode c || c.before args0 about1) = true := by decide +kernel
set_option maxRecDepth 65536 in
theorem w_t7 : (((((((words1.drop 24).drop 24).drop 24).drop 24).drop 24).drop 24).take 24).all (fun c => isCode c || c.before args0 about1) = true := by decide +kernel
set_option maxRecDepth 65536 in
theorem w_t8 : ((((((((words1.drop 24).drop 24).drop 24).drop 24).drop 24).drop 24).drop 24).take 24).all (fun c => isCode c || c.before args0 about1) = true := by decide +kernel
set_option maxRecDepth 65536 in
theorem w_t9 : ((((((((words1.drop 24).drop 24).drop 24).drop 24).drop 24).drop 24).drop 24).drop 24).all (fun c => isCode c || c.before args0 about1) = true := by decide +kernel
theorem w_tables : (allAtoms (Jvm.Cond.code x code maxLocals ret :: tables_1)).before args0 about1 = true := by
  rw [allAtoms_all]
  show words1.all (fun c => c.before args0 about1) = true
  refine all_split ?_ w_codes
  rw [← List.take_append_drop 24 words1, List.all_append, w_t1, ← List.take_append_drop 24 (words1.drop 24), List.all_append, w_t2, ← List.take_append_drop 24 ((words1.drop 24).drop 24), List.all_append, w_t3, ← List.take_append_drop 24 (((words1.drop 24).drop 24).drop 24), List.all_append, w_t4, ← List.take_append_drop 24 ((((words1.drop 24).drop 24).drop 24).drop 24), List.all_append, w_t5, ← List.take_append_drop 24 (((((words1.drop 24).drop 24).drop 24).drop 24).drop 24), List.all_append, w_t6, ← List.take_append_drop 24 ((((((words1.drop 24).drop 24).drop 24).drop 24).drop 24).drop 24), List.all_append, w_t7, ← List.take_append_drop 24 (((((((words1.drop 24).drop 24).drop 24).drop 24).drop 24).drop 24).drop 24), List.all_append, w_t8, w_t9]
  rfl
set_option maxRecDepth 65536 in
theorem w_rest : rest_1_c.before args0 about1 = true := by decide +kernel
set_option maxRecDepth 65536 in
theorem w_case : (Jvm.Cond.and given_1 narrow_1).before args0 about1 = true := by decide +kernel
theorem w_applies : (headSpec (Jvm.Cond.code x code maxLocals ret :: tables_1) room_1).applies x e0.platform about1 = true :=
  (Spec.applies_iff w_frames).mpr ⟨w_running, w_runnable, w_alone, w_named, w_hears, w_ripe, w_room, w_tables⟩
theorem atStart : AtStart classFile x code maxLocals ret World_1 tables_1 room_1 Calls_1 rest_1 Pre_1 launch0 p0 e0 about1 theMethod args0 below0 :=
  ⟨lists_1, trivial, launch0.admits_env _ _ _, launch0.least_env, fairChoices_fair.cas, fairChoices_fair.clock, w_frames, w_args, w_heap, w_applies, trivial, w_rest, w_case⟩
end start1
theorem witness_1 : WitnessClaimed_1 := ⟨start1.p0, start1.e0, start1.about1, start1.theMethod, start1.args0, start1.below0, start1.atStart⟩
end Jvm.Pilot.@@N@@
