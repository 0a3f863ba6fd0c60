import JvmDerived
import JvmDerived.Pilot.@@N@@Statement
import JvmDerived.Pilot.@@N@@Code
set_option linter.unusedVariables false
set_option linter.unusedSimpArgs false
namespace Jvm.RoadKit
open Sem ClassFile Op Lib Jvm.Stand Jvm.Free Jvm.LawKit
section New
variable {p : Program} {l : Launch} {e : Env} {R : Room} {s : State} {m : MethodId} {args : Array Value} {below : List Frame} {meth : Method} {c : Code} {T : State} {locs : List Loc} {cells slots : Nat}
theorem retI (X : Stand p l e R s m args below meth c T locs cells slots) (hx : p.tables.exec = Jvm.exec) {pc : Nat} {Ls : Array Slot} {z : Int32} {rest : List Value} (hret : meth.sig.returnType = some .int) (hd : decode c.code pc = .ok (.ireturn, 1)) {fs : List Frame}
    (hl : ∀ (f : JFrame) (acts : List Action), f.method = m → f.locked = none → f.entered = [] → (doReturn e (T.setTop f) acts (some (.int z))).1 = T.setFrames fs) : Steps p.tables e below (T.setTop (mkF m pc Ls (.int z :: rest))) (T.setFrames fs) := by
  have hm' : T.vm.method? m = some meth := X.method'
  have hn : narrow .int (.int z) = .int z := rfl
  show Steps p.tables e below (T.setTop { method := m, pc := pc, locals := Ls, stack := _ :: rest, locked := none }) _
  jvm_step X.here [X.here.top, hx, hd, hm', hret, hn]
  first | (intro acts; rw [hl _ acts rfl rfl rfl]) | rw [hl _ _ rfl rfl rfl]
  exact Steps.refl _
end New
end Jvm.RoadKit
/- laws to paste: Road.backV, Road.eqW, Road.codOf (cut by pick.py; bodies as the Statement names them) -/
namespace Jvm.Pilot.@@N@@
namespace StrChars
open Jvm Sem ClassFile Op Lib Jvm.Stand Jvm.Free.XT Jvm.Free.ALB Jvm.Free.JM Jvm.Free
open Jvm.Lib.Cold (StaticIs)
/-- a char array whose places are chars -/
def Ch (a : Addr) (A : Cell) (U : State) : Prop := Arr .char a A U ∧ Typed .char A
theorem Ch.mv {a : Addr} {A : Cell} {U U' : State} (h : Ch a A U) (hal : U.vm.Alike U'.vm) (hh : U'.heap = U.heap) : Ch a A U' := ⟨h.1.mv hal hh, h.2⟩
theorem Ch.keep {a : Addr} {A : Cell} {U U' : State} (h : Ch a A U) (hal : U.vm.Alike U'.vm) (hk : U'.heap[a]? = some A) : Ch a A U' := ⟨h.1.keep hal hk, h.2⟩
/-- what place i of a char[]'s cell holds -/
def cv (A : Cell) (i : Nat) : Int32 := match A.slots[i]? with | some (.int x) => x | _ => 0
theorem Ch.get {a : Addr} {A : Cell} {U : State} (h : Ch a A U) {i : Nat} (hi : i < A.slots.size) : A.slots[i]? = some (.int (cv A i)) := by
  have e := Array.getElem?_eq_getElem hi
  have f := h.2 i _ e
  unfold cv; rw [e]
  generalize A.slots[i] = v at f
  cases v <;> simp [fits] at f ⊢
/-- the byte that i2b leaves of a char -/
def lo8 (x : Int32) : Int32 := x.toInt8.toInt32
theorem fits_lo8 (y : Int32) : fits .byte (.int (lo8 y)) = true := by
  have h1 := y.toInt8.le_toInt
  have h2 := y.toInt8.toInt_lt
  simp only [lo8, fits, Bool.and_eq_true, decide_eq_true_eq, Int32.le_iff_toInt_le, Int8.toInt_toInt32, show (-128 : Int32).toInt = -128 from by decide, show (127 : Int32).toInt = 127 from by decide]
  omega
/-- A' is A but that each place j of lo .. hi - 1 holds f j -/
def Laid (A A' : Cell) (lo hi : Nat) (f : Nat → Value) : Prop := A'.cls = A.cls ∧ A'.vm = A.vm ∧ A'.slots.size = A.slots.size ∧ ∀ i, A'.slots[i]? = if lo ≤ i ∧ i < hi then some (f i) else A.slots[i]?
theorem Laid.zero (A : Cell) (lo : Nat) (f : Nat → Value) : Laid A A lo (lo + 0) f := ⟨rfl, rfl, rfl, fun i => by rw [if_neg (by omega)]⟩
theorem Laid.step {A Ak : Cell} {lo k : Nat} {f : Nat → Value} {v : Value} (h : Laid A Ak lo k f) (hlo : lo ≤ k) (hk : k < Ak.slots.size) (hv : v = f k) : Laid A (Ak.setSlot k v) lo (k + 1) f := by
  refine ⟨h.1, h.2.1, by simpa [Cell.setSlot] using h.2.2.1, fun i => ?_⟩
  by_cases e : k = i
  · subst e; rw [Cell.slots_setSlot_self v hk, if_pos (by omega), hv]
  · rw [Cell.slots_setSlot_ne v e, h.2.2.2 i]
    by_cases q : lo ≤ i ∧ i < k
    · rw [if_pos q, if_pos (by omega)]
    · rw [if_neg q, if_neg (by omega)]
def U16 : String := "java/lang/StringUTF16"
namespace Cmp5
def yN : MethodName := ⟨"java/lang/StringUTF16", "compress", "([CI[BII)I"⟩
abbrev yB : ByteArray := jdk_52_method_21_code
theorem d0 : decode yB 0 = .ok (.iconst 0, 1) := by decide +kernel
theorem d1 : decode yB 1 = .ok (.istore 5, 2) := by decide +kernel
theorem d3 : decode yB 3 = .ok (.iload 5, 2) := by decide +kernel
theorem d5 : decode yB 5 = .ok (.iload 4, 2) := by decide +kernel
theorem d7 : decode yB 7 = .ok (.if_icmp (.ge) 37, 3) := by decide +kernel
theorem d10 : decode yB 10 = .ok (.aload_n 0, 1) := by decide +kernel
theorem d11 : decode yB 11 = .ok (.iload_n 1, 1) := by decide +kernel
theorem d12 : decode yB 12 = .ok (.caload, 1) := by decide +kernel
theorem d13 : decode yB 13 = .ok (.istore 6, 2) := by decide +kernel
theorem d15 : decode yB 15 = .ok (.iload 6, 2) := by decide +kernel
theorem d17 : decode yB 17 = .ok (.sipush 255, 3) := by decide +kernel
theorem d20 : decode yB 20 = .ok (.if_icmp (.le) 6, 3) := by decide +kernel
theorem d26 : decode yB 26 = .ok (.aload_n 2, 1) := by decide +kernel
theorem d27 : decode yB 27 = .ok (.iload_n 3, 1) := by decide +kernel
theorem d28 : decode yB 28 = .ok (.iload 6, 2) := by decide +kernel
theorem d30 : decode yB 30 = .ok (.i2b, 1) := by decide +kernel
theorem d31 : decode yB 31 = .ok (.bastore, 1) := by decide +kernel
theorem d32 : decode yB 32 = .ok (.iinc 1 1, 3) := by decide +kernel
theorem d35 : decode yB 35 = .ok (.iinc 3 1, 3) := by decide +kernel
theorem d38 : decode yB 38 = .ok (.iinc 5 1, 3) := by decide +kernel
theorem d41 : decode yB 41 = .ok (.goto (-38), 3) := by decide +kernel
theorem d44 : decode yB 44 = .ok (.iload 4, 2) := by decide +kernel
theorem d46 : decode yB 46 = .ok (.ireturn, 1) := by decide +kernel
def site : List Cond := []
def tab : Cond := tabOf yN yB 7 (some .int) site
def P (b : Addr) (A : Cell) (d : Addr) (B : Cell) (o q len : Nat) (args : Array Value) (s : State) : Prop := args = #[.ref b, .int (Int32.ofNat o), .ref d, .int (Int32.ofNat q), .int (Int32.ofNat len)] ∧ Ch b A s ∧ Arr .byte d B s ∧ b ≠ d ∧ o + len ≤ A.slots.size ∧ q + len ≤ B.slots.size ∧ ∀ i, i < len → ¬ 255 < cv A (o + i)
def E (b : Addr) (A : Cell) (d : Addr) (B : Cell) (o q len : Nat) (r : Option Value) (s u : State) : Prop := r = some (.int (Int32.ofNat len)) ∧ ∃ B', Put d B' s u ∧ Laid B B' q (q + len) (fun j => Value.int (lo8 (cv A (o + (j - q)))))
/-- no char of the range above 255: len; the places written hold each char's low byte -/
theorem law (l : Launch) (b : Addr) (A : Cell) (d : Addr) (B : Cell) (o q len : Nat) : Law l yN 5 5 0 0 yB 7 (some .int) site (P b A d B o q len) (E b A d B o q len) (copyLocs d q len) 0 0 := by
  refine Law.of_walk (plainFor_of_name (by decide +kernel)) (by decide +kernel) (by decide +kernel) (by decide) (fun _ _ h => by rw [h.1]; rfl) (fun _ U U' hal hh h => ⟨h.1, h.2.1.mv hal hh, h.2.2.1.mv hal hh, h.2.2.2⟩) (fun r U U' V V' h1 hal h2 h => ⟨h.1, h.2.elim fun B' q => ⟨B', q.1.mv h1 h2, q.2⟩⟩) ?_
  intro p e s m args below meth c s₁ X0 hexec hbytes hml hret hlk hnm hown hh0 W hP
  obtain ⟨rfl, hA, hB, hne, l1, l2, hp⟩ := hP
  have c1 : Steps p.tables e below (s₁.setTop (entryFrame m #[.ref b, .int (Int32.ofNat o), .ref d, .int (Int32.ofNat q), .int (Int32.ofNat len)] 7)) (s₁.setTop (mkF m 0 #[.val (.ref b), .val (.int (Int32.ofNat o)), .val (.ref d), .val (.int (Int32.ofNat q)), .val (.int (Int32.ofNat len)), .unset, .unset] [])) := entry rfl
  have hA0 := hA.1.mv X0.warmed.alike hh0
  have hB0 := hB.mv X0.warmed.alike hh0
  have a31 := hA.1.2.2.2
  have c2 : Steps p.tables e below (s₁.setTop (entryFrame m #[.ref b, .int (Int32.ofNat o), .ref d, .int (Int32.ofNat q), .int (Int32.ofNat len)] 7)) (s₁.setTop (mkF m 3 #[.val (.ref b), .val (.int (Int32.ofNat o)), .val (.ref d), .val (.int (Int32.ofNat q)), .val (.int (Int32.ofNat len)), .val (.int 0), .unset] [])) := c1.trans (by
    refine iconstV X0.here hexec rfl 0 (hb hbytes d0) (by decide) ?_
    refine XS.istore X0.here hexec rfl (hb hbytes d1) rfl rfl ?_
    exact Steps.refl _)
  have loop : ∀ (r i : Nat), i + r = len → ∀ (z : Slot), (z = .unset ∨ ∃ w, z = .val w ∧ w.category = 1) → ∀ (Tl : State) (Bk : Cell), Stand p l e { frames := 0, locals := 0, cells := 0, slots := 0 } s m #[.ref b, .int (Int32.ofNat o), .ref d, .int (Int32.ofNat q), .int (Int32.ofNat len)] below meth c Tl ([] ++ copyLocs d q i) 0 0 → Put d Bk s₁ Tl → Laid B Bk q (q + i) (fun j => Value.int (lo8 (cv A (o + (j - q))))) →
      Steps p.tables e below (s₁.setTop (entryFrame m #[.ref b, .int (Int32.ofNat o), .ref d, .int (Int32.ofNat q), .int (Int32.ofNat len)] 7)) (Tl.setTop (mkF m 3 #[.val (.ref b), .val (.int (Int32.ofNat (o + i))), .val (.ref d), .val (.int (Int32.ofNat (q + i))), .val (.int (Int32.ofNat len)), .val (.int (Int32.ofNat i)), z] [])) → ∃ (T' : State) (B' : Cell) (z' : Slot), Stand p l e { frames := 0, locals := 0, cells := 0, slots := 0 } s m #[.ref b, .int (Int32.ofNat o), .ref d, .int (Int32.ofNat q), .int (Int32.ofNat len)] below meth c T' ([] ++ copyLocs d q len) 0 0 ∧ Put d B' s₁ T' ∧ Laid B B' q (q + len) (fun j => Value.int (lo8 (cv A (o + (j - q))))) ∧
      Steps p.tables e below (s₁.setTop (entryFrame m #[.ref b, .int (Int32.ofNat o), .ref d, .int (Int32.ofNat q), .int (Int32.ofNat len)] 7)) (T'.setTop (mkF m 3 #[.val (.ref b), .val (.int (Int32.ofNat (o + len))), .val (.ref d), .val (.int (Int32.ofNat (q + len))), .val (.int (Int32.ofNat len)), .val (.int (Int32.ofNat len)), z'] [])) := by
    intro r
    induction r with
    | zero =>
      intro i hi z hz Tl Bk Xl pl fl cl
      have hil : i = len := by omega
      rw [hil] at Xl fl cl
      exact ⟨Tl, Bk, z, Xl, pl, fl, cl⟩
    | succ r ih =>
      intro i hi z hz Tl Bk Xl pl fl cl
      have all := X0.warmed.alike.symm.trans Xl.warmed.alike
      have hAl := hA0.keep all (pl.other hne hA0.1)
      have hBk := hB0.like all pl.1 fl.1 fl.2.1 fl.2.2.1
      have hlt : q + i < Bk.slots.size := by rw [fl.2.2.1]; omega
      have c3 : Steps p.tables e below (s₁.setTop (entryFrame m #[.ref b, .int (Int32.ofNat o), .ref d, .int (Int32.ofNat q), .int (Int32.ofNat len)] 7)) (Tl.setTop (mkF m 12 #[.val (.ref b), .val (.int (Int32.ofNat (o + i))), .val (.ref d), .val (.int (Int32.ofNat (q + i))), .val (.int (Int32.ofNat len)), .val (.int (Int32.ofNat i)), z] [.int (Int32.ofNat (o + i)), .ref b])) := cl.trans (by
        refine XS.iload Xl.here hexec rfl (hb hbytes d3) rfl ?_
        refine XS.iload Xl.here hexec rfl (hb hbytes d5) rfl ?_
        refine XS.icmpNo Xl.here hexec rfl (hb hbytes d7) rfl (ii_ge_f (lt32 (by omega) (by omega))) ?_
        refine XS.aloadN Xl.here hexec rfl (hb hbytes d10) rfl rfl ?_
        refine XS.iloadN Xl.here hexec rfl (hb hbytes d11) rfl ?_
        exact Steps.refl _)
      have c4 : Steps p.tables e below (s₁.setTop (entryFrame m #[.ref b, .int (Int32.ofNat o), .ref d, .int (Int32.ofNat q), .int (Int32.ofNat len)] 7)) (Tl.setTop (mkF m 13 #[.val (.ref b), .val (.int (Int32.ofNat (o + i))), .val (.ref d), .val (.int (Int32.ofNat (q + i))), .val (.int (Int32.ofNat len)), .val (.int (Int32.ofNat i)), z] [.int (cv A (o + i))])) := c3.trans (by
        refine Xl.aget hexec hAl rfl (hA.get (i := o + i) (by omega)) rfl rfl (hb hbytes d12) ?_
        exact Steps.refl _)
      have c5 : Steps p.tables e below (s₁.setTop (entryFrame m #[.ref b, .int (Int32.ofNat o), .ref d, .int (Int32.ofNat q), .int (Int32.ofNat len)] 7)) (Tl.setTop (mkF m 15 #[.val (.ref b), .val (.int (Int32.ofNat (o + i))), .val (.ref d), .val (.int (Int32.ofNat (q + i))), .val (.int (Int32.ofNat len)), .val (.int (Int32.ofNat i)), .val (.int (cv A (o + i)))] [])) := c4.trans (by
        refine XS.istoreS Xl.here hexec rfl (hb hbytes d13) rfl rfl hz ?_
        exact Steps.refl _)
      have c6 : Steps p.tables e below (s₁.setTop (entryFrame m #[.ref b, .int (Int32.ofNat o), .ref d, .int (Int32.ofNat q), .int (Int32.ofNat len)] 7)) (Tl.setTop (mkF m 31 #[.val (.ref b), .val (.int (Int32.ofNat (o + i))), .val (.ref d), .val (.int (Int32.ofNat (q + i))), .val (.int (Int32.ofNat len)), .val (.int (Int32.ofNat i)), .val (.int (cv A (o + i)))] [.int (lo8 (cv A (o + i))), .int (Int32.ofNat (q + i)), .ref d])) := c5.trans (by
        refine XS.iload Xl.here hexec rfl (hb hbytes d15) rfl ?_
        refine sipushV Xl.here hexec rfl 255 (hb hbytes d17) (by decide) ?_
        refine XS.icmpYes Xl.here hexec rfl (pc0 := 20) rfl (hb hbytes d20) rfl (ii_le_t (hp i (by omega))) (by decide) rfl ?_
        refine XS.aloadN Xl.here hexec rfl (hb hbytes d26) rfl rfl ?_
        refine XS.iloadN Xl.here hexec rfl (hb hbytes d27) rfl ?_
        refine XS.iload Xl.here hexec rfl (hb hbytes d28) rfl ?_
        refine i2b Xl.here hexec rfl (hb hbytes d30) rfl ?_
        exact Steps.refl _)
      obtain ⟨T7, X7, p7, st7⟩ := Xl.aput hexec hBk rfl hlt rfl (fits_lo8 (cv A (o + i))) (g := (mkF m 31 #[.val (.ref b), .val (.int (Int32.ofNat (o + i))), .val (.ref d), .val (.int (Int32.ofNat (q + i))), .val (.int (Int32.ofNat len)), .val (.int (Int32.ofNat i)), .val (.int (cv A (o + i)))] [.int (lo8 (cv A (o + i))), .int (Int32.ofNat (q + i)), .ref d])) rfl (rest := []) rfl (hb hbytes d31)
      have c8 : Steps p.tables e below (s₁.setTop (entryFrame m #[.ref b, .int (Int32.ofNat o), .ref d, .int (Int32.ofNat q), .int (Int32.ofNat len)] 7)) (T7.setTop (mkF m 32 #[.val (.ref b), .val (.int (Int32.ofNat (o + i))), .val (.ref d), .val (.int (Int32.ofNat (q + i))), .val (.int (Int32.ofNat len)), .val (.int (Int32.ofNat i)), .val (.int (cv A (o + i)))] [])) := c6.trans (st7 _ (Steps.refl _))
      have c9 : Steps p.tables e below (s₁.setTop (entryFrame m #[.ref b, .int (Int32.ofNat o), .ref d, .int (Int32.ofNat q), .int (Int32.ofNat len)] 7)) (T7.setTop (mkF m 3 #[.val (.ref b), .val (.int (Int32.ofNat (o + i) + 1)), .val (.ref d), .val (.int (Int32.ofNat (q + i) + 1)), .val (.int (Int32.ofNat len)), .val (.int (Int32.ofNat i + 1)), .val (.int (cv A (o + i)))] [])) := c8.trans (by
        refine iincV X7.here hexec rfl 1 (hb hbytes d32) (by decide) rfl rfl ?_
        refine iincV X7.here hexec rfl 1 (hb hbytes d35) (by decide) rfl rfl ?_
        refine iincV X7.here hexec rfl 1 (hb hbytes d38) (by decide) rfl rfl ?_
        refine XS.goto X7.here hexec rfl (pc0 := 41) rfl (hb hbytes d41) (by decide) rfl ?_
        exact Steps.refl _)
      have c10 : Steps p.tables e below (s₁.setTop (entryFrame m #[.ref b, .int (Int32.ofNat o), .ref d, .int (Int32.ofNat q), .int (Int32.ofNat len)] 7)) (T7.setTop (mkF m 3 #[.val (.ref b), .val (.int (Int32.ofNat (o + (i + 1)))), .val (.ref d), .val (.int (Int32.ofNat (q + (i + 1)))), .val (.int (Int32.ofNat len)), .val (.int (Int32.ofNat (i + 1))), .val (.int (cv A (o + i)))] [])) := by
        have := c9
        rw [succ32, succ32, succ32] at this
        exact this
      exact ih (i + 1) (by omega) _ (Or.inr ⟨_, rfl, rfl⟩) T7 _ (by rw [copyLocs_step, ← List.append_assoc]; exact X7) (pl.trans p7) (fl.step (by omega) hlt (by simp)) c10
  obtain ⟨T9, B9, z9, X9, p9, f9, g9⟩ := loop len 0 (by omega) .unset (Or.inl rfl) s₁ B (by simpa [copyLocs] using X0) ⟨hB0.1, fun _ _ => rfl, rfl⟩ (Laid.zero _ _ _) c2
  have c11 : Steps p.tables e below (s₁.setTop (entryFrame m #[.ref b, .int (Int32.ofNat o), .ref d, .int (Int32.ofNat q), .int (Int32.ofNat len)] 7)) (T9.setTop (mkF m 46 #[.val (.ref b), .val (.int (Int32.ofNat (o + len))), .val (.ref d), .val (.int (Int32.ofNat (q + len))), .val (.int (Int32.ofNat len)), .val (.int (Int32.ofNat len)), z9] [.int (Int32.ofNat len)])) := g9.trans (by
    refine XS.iload X9.here hexec rfl (hb hbytes d3) rfl ?_
    refine XS.iload X9.here hexec rfl (hb hbytes d5) rfl ?_
    refine XS.icmpYes X9.here hexec rfl (pc0 := 7) rfl (hb hbytes d7) rfl (ii_ge_t (nlt32 (by omega) (Nat.le_refl _))) (by decide) rfl ?_
    refine XS.iload X9.here hexec rfl (hb hbytes d44) rfl ?_
    exact Steps.refl _)
  exact ⟨T9, some (.int (Int32.ofNat len)), _, _, _, X9, by simp, rfl, rfl, (fun h => by cases h), ⟨rfl, B9, p9.from hh0, f9⟩, fun fs hl => c11.trans (X9.ireturnOut hexec hret rfl (Or.inl rfl) (hb hbytes d46) hl)⟩
end Cmp5
namespace Cmp3
def yN : MethodName := ⟨"java/lang/StringUTF16", "compress", "([CII)[B"⟩
abbrev yB : ByteArray := jdk_52_method_16_code
theorem d0 : decode yB 0 = .ok (.iload_n 2, 1) := by decide +kernel
theorem d1 : decode yB 1 = .ok (.newarray .byte, 2) := by decide +kernel
theorem d3 : decode yB 3 = .ok (.astore_n 3, 1) := by decide +kernel
theorem d4 : decode yB 4 = .ok (.aload_n 0, 1) := by decide +kernel
theorem d5 : decode yB 5 = .ok (.iload_n 1, 1) := by decide +kernel
theorem d6 : decode yB 6 = .ok (.aload_n 3, 1) := by decide +kernel
theorem d7 : decode yB 7 = .ok (.iconst 0, 1) := by decide +kernel
theorem d8 : decode yB 8 = .ok (.iload_n 2, 1) := by decide +kernel
theorem d9 : decode yB 9 = .ok (.invokestatic 115, 3) := by decide +kernel
theorem d12 : decode yB 12 = .ok (.istore 4, 2) := by decide +kernel
theorem d14 : decode yB 14 = .ok (.iload 4, 2) := by decide +kernel
theorem d16 : decode yB 16 = .ok (.iload_n 2, 1) := by decide +kernel
theorem d17 : decode yB 17 = .ok (.if_icmp (.eq) 40, 3) := by decide +kernel
theorem d57 : decode yB 57 = .ok (.aload_n 3, 1) := by decide +kernel
theorem d58 : decode yB 58 = .ok (.areturn, 1) := by decide +kernel
def site : List Cond := [.arrayClass .byte, Cmp5.tab] ++ staticW U16 115 Cmp5.yN
def tab : Cond := tabOf yN yB 6 (some (.array .byte)) site
def P (b : Addr) (A : Cell) (o len : Nat) (args : Array Value) (s : State) : Prop := args = #[.ref b, .int (Int32.ofNat o), .int (Int32.ofNat len)] ∧ Ch b A s ∧ o + len ≤ A.slots.size ∧ len ≤ 536870912 ∧ ∀ i, i < len → ¬ 255 < cv A (o + i)
def E (b : Addr) (A : Cell) (o len : Nat) (r : Option Value) (s u : State) : Prop := NewArr .byte "[B" len (fun j => .int (lo8 (cv A (o + j)))) r s u ∧ u.heap.size = s.heap.size + 1
/-- no char of the range above 255: a new byte[] of their low bytes -/
theorem law (l : Launch) (b : Addr) (A : Cell) (o len : Nat) : Law l yN 3 3 1 18 yB 6 (some (.array .byte)) site (P b A o len) (E b A o len) [] 1 len := by
  refine Law.of_walk (plainFor_of_name (by decide +kernel)) (by decide +kernel) (by decide +kernel) (by decide) (fun _ _ h => by rw [h.1]; rfl) (fun _ U U' hal hh h => ⟨h.1, h.2.1.mv hal hh, h.2.2⟩) (fun r U U' V V' h1 hal h2 h => ⟨NewArr.mv r U U' V V' h1 hal h2 h.1, by rw [h1, h2]; exact h.2⟩) ?_
  intro p e s m args below meth c s₁ X0 hexec hbytes hml hret hlk hnm hown hh0 W hP
  obtain ⟨rfl, hA, l1, l2, hp⟩ := hP
  have a31 := hA.1.2.2.2
  have c1 : Steps p.tables e below (s₁.setTop (entryFrame m #[.ref b, .int (Int32.ofNat o), .int (Int32.ofNat len)] 6)) (s₁.setTop (mkF m 0 #[.val (.ref b), .val (.int (Int32.ofNat o)), .val (.int (Int32.ofNat len)), .unset, .unset, .unset] [])) := entry rfl
  have c2 : Steps p.tables e below (s₁.setTop (entryFrame m #[.ref b, .int (Int32.ofNat o), .int (Int32.ofNat len)] 6)) (s₁.setTop (mkF m 1 #[.val (.ref b), .val (.int (Int32.ofNat o)), .val (.int (Int32.ofNat len)), .unset, .unset, .unset] [.int (Int32.ofNat len)])) := c1.trans (by
    refine XS.iloadN X0.here hexec rfl (hb hbytes d0) rfl ?_
    exact Steps.refl _)
  obtain ⟨T3, B3, X3, ba3, bs3, bv3, bh3, bf3, st3⟩ := X0.anew hexec (atype := .byte) (wk W (.arrayClass .byte)) rfl (by show len * 1 ≤ _; omega) (by omega) (g := (mkF m 1 #[.val (.ref b), .val (.int (Int32.ofNat o)), .val (.int (Int32.ofNat len)), .unset, .unset, .unset] [.int (Int32.ofNat len)])) rfl (hb hbytes d1) (rest := []) rfl (Nat.le_refl _) (by show 0 + len ≤ len; omega)
  rw [hh0] at ba3 st3
  have kp3 : XT.Kept s T3 := (XT.Kept.of_eq hh0).push bh3
  have hA3 := hA.keep X3.warmed.alike (kp3 _ _ hA.1.1)
  have hne : b ≠ s.heap.size := hA.1.ne
  have c4 : Steps p.tables e below (s₁.setTop (entryFrame m #[.ref b, .int (Int32.ofNat o), .int (Int32.ofNat len)] 6)) (T3.setTop (mkF m 3 #[.val (.ref b), .val (.int (Int32.ofNat o)), .val (.int (Int32.ofNat len)), .unset, .unset, .unset] [.ref s.heap.size])) := c2.trans (st3 _ (Steps.refl _))
  have c5 : Steps p.tables e below (s₁.setTop (entryFrame m #[.ref b, .int (Int32.ofNat o), .int (Int32.ofNat len)] 6)) (T3.setTop (mkF m 9 #[.val (.ref b), .val (.int (Int32.ofNat o)), .val (.int (Int32.ofNat len)), .val (.ref s.heap.size), .unset, .unset] [.int (Int32.ofNat len), .int 0, .ref s.heap.size, .int (Int32.ofNat o), .ref b])) := c4.trans (by
    refine XS.astoreN X3.here hexec rfl (hb hbytes d3) rfl rfl rfl ?_
    refine XS.aloadN X3.here hexec rfl (hb hbytes d4) rfl rfl ?_
    refine XS.iloadN X3.here hexec rfl (hb hbytes d5) rfl ?_
    refine XS.aloadN X3.here hexec rfl (hb hbytes d6) rfl rfl ?_
    refine iconstV X3.here hexec rfl 0 (hb hbytes d7) (by decide) ?_
    refine XS.iloadN X3.here hexec rfl (hb hbytes d8) rfl ?_
    exact Steps.refl _)
  obtain ⟨v6, T6, X6, E6, g6⟩ := X3.callS hexec (Cmp5.law l b A s.heap.size B3 o 0 len) hown (wks W (staticW U16 115 Cmp5.yN)) (wk W Cmp5.tab) (W := 0) (Nat.le_of_ble_eq_true rfl) (Nat.le_of_ble_eq_true rfl) (Nat.le_refl _) (by show 0 + len + 0 ≤ len; omega) (g := (mkF m 9 #[.val (.ref b), .val (.int (Int32.ofNat o)), .val (.int (Int32.ofNat len)), .val (.ref s.heap.size), .unset, .unset] [.int (Int32.ofNat len), .int (Int32.ofNat 0), .ref s.heap.size, .int (Int32.ofNat o), .ref b])) rfl (by rw [hml]; rfl) c5 (argsL := [.ref b, .int (Int32.ofNat o), .ref s.heap.size, .int (Int32.ofNat 0), .int (Int32.ofNat len)]) (rest := []) rfl rfl (by show 2 * 0 + 0 ≤ _; decide) (hb hbytes d9) (⟨rfl, hA3, ba3, hne, l1, by rw [bs3]; simp, hp⟩)
  obtain ⟨rfl, B6, p6, f6⟩ := E6
  have c7 : Steps p.tables e below (s₁.setTop (entryFrame m #[.ref b, .int (Int32.ofNat o), .int (Int32.ofNat len)] 6)) (T6.setTop (mkF m 12 #[.val (.ref b), .val (.int (Int32.ofNat o)), .val (.int (Int32.ofNat len)), .val (.ref s.heap.size), .unset, .unset] [.int (Int32.ofNat len)])) := g6
  have c8 : Steps p.tables e below (s₁.setTop (entryFrame m #[.ref b, .int (Int32.ofNat o), .int (Int32.ofNat len)] 6)) (T6.setTop (mkF m 58 #[.val (.ref b), .val (.int (Int32.ofNat o)), .val (.int (Int32.ofNat len)), .val (.ref s.heap.size), .val (.int (Int32.ofNat len)), .unset] [.ref s.heap.size])) := c7.trans (by
    refine XS.istore X6.here hexec rfl (hb hbytes d12) rfl rfl ?_
    refine XS.iload X6.here hexec rfl (hb hbytes d14) rfl ?_
    refine XS.iloadN X6.here hexec rfl (hb hbytes d16) rfl ?_
    refine XS.icmpYes X6.here hexec rfl (pc0 := 17) rfl (hb hbytes d17) rfl (ii_eq_t rfl) (by decide) rfl ?_
    refine XS.aloadN X6.here hexec rfl (hb hbytes d57) rfl rfl ?_
    exact Steps.refl _)
  have X8 := X6.wide (L' := []) (cells' := 1) (slots' := len) (fun x hx hlt => by
    simp only [List.nil_append, copyLocs, List.mem_map, List.mem_range] at hx
    obtain ⟨i, -, rfl⟩ := hx
    exact absurd hlt (Nat.lt_irrefl _)) (Nat.le_refl _) (by omega)
  exact ⟨T6, some (.ref s.heap.size), _, _, _, X8, rfl, rfl, rfl, (fun h => by cases h), ⟨⟨rfl, B6, ba3.like (X3.warmed.alike.symm.trans X6.warmed.alike) p6.1 f6.1 f6.2.1 f6.2.2.1, f6.2.1.trans bv3, by rw [X6.warmed.alike.findClass, f6.1]; exact bf3, by rw [f6.2.2.1, bs3]; simp, fun j hj => by rw [f6.2.2.2 j, if_pos (by omega)]; rfl, kp3.put p6 (Nat.le_refl _)⟩, by rw [p6.2.2, bh3, hh0]; simp⟩, fun fs hl => c8.trans (X8.areturnOut hexec rfl hret rfl (hb hbytes d58) hl)⟩
end Cmp3
namespace CodL
def yN : MethodName := ⟨"java/lang/StringUTF16", "coderFromArrayLen", "([BI)B"⟩
abbrev yB : ByteArray := jdk_52_method_15_code
theorem d0 : decode yB 0 = .ok (.iload_n 1, 1) := by decide +kernel
theorem d1 : decode yB 1 = .ok (.aload_n 0, 1) := by decide +kernel
theorem d2 : decode yB 2 = .ok (.arraylength, 1) := by decide +kernel
theorem d3 : decode yB 3 = .ok (.isub, 1) := by decide +kernel
theorem d4 : decode yB 4 = .ok (.bipush 31, 2) := by decide +kernel
theorem d6 : decode yB 6 = .ok (.iushr, 1) := by decide +kernel
theorem d7 : decode yB 7 = .ok (.i2b, 1) := by decide +kernel
theorem d8 : decode yB 8 = .ok (.ireturn, 1) := by decide +kernel
def site : List Cond := []
def tab : Cond := tabOf yN yB 2 (some .byte) site
def P (d : Addr) (B : Cell) (args : Array Value) (s : State) : Prop := args = #[.ref d, .int (Int32.ofNat B.slots.size)] ∧ Arr .byte d B s
def E (r : Option Value) (s u : State) : Prop := XT.PureE (some (.int 0)) r s u
/-- an array as long as the number of chars: LATIN1 -/
theorem law (l : Launch) (d : Addr) (B : Cell) : Law l yN 2 2 0 0 yB 2 (some .byte) site (P d B) E [] 0 0 := by
  refine Law.of_walk (plainFor_of_name (by decide +kernel)) (by decide +kernel) (by decide +kernel) (by decide) (fun _ _ h => by rw [h.1]; rfl) (fun _ U U' hal hh h => ⟨h.1, h.2.mv hal hh⟩) (fun r U U' V V' h1 hal h2 h => XT.PureE.mv r U U' V V' h1 hal h2 h) ?_
  intro p e s m args below meth c s₁ X0 hexec hbytes hml hret hlk hnm hown hh0 W hP
  obtain ⟨rfl, hB⟩ := hP
  have hB0 := hB.mv X0.warmed.alike hh0
  have c1 : Steps p.tables e below (s₁.setTop (entryFrame m #[.ref d, .int (Int32.ofNat B.slots.size)] 2)) (s₁.setTop (mkF m 0 #[.val (.ref d), .val (.int (Int32.ofNat B.slots.size))] [])) := entry rfl
  have c2 : Steps p.tables e below (s₁.setTop (entryFrame m #[.ref d, .int (Int32.ofNat B.slots.size)] 2)) (s₁.setTop (mkF m 2 #[.val (.ref d), .val (.int (Int32.ofNat B.slots.size))] [.ref d, .int (Int32.ofNat B.slots.size)])) := c1.trans (by
    refine XS.iloadN X0.here hexec rfl (hb hbytes d0) rfl ?_
    refine XS.aloadN X0.here hexec rfl (hb hbytes d1) rfl rfl ?_
    exact Steps.refl _)
  have c3 : Steps p.tables e below (s₁.setTop (entryFrame m #[.ref d, .int (Int32.ofNat B.slots.size)] 2)) (s₁.setTop (mkF m 8 #[.val (.ref d), .val (.int (Int32.ofNat B.slots.size))] [.int (lo8 (ushr (Int32.ofNat B.slots.size - Int32.ofNat B.slots.size) 31))])) := c2.trans (by
    refine X0.alen hexec hB0 rfl rfl (hb hbytes d2) ?_
    refine XS.isub X0.here hexec rfl (hb hbytes d3) rfl ?_
    refine bipushV X0.here hexec rfl 31 (hb hbytes d4) (by decide) ?_
    refine iushr X0.here hexec rfl (hb hbytes d6) rfl ?_
    refine i2b X0.here hexec rfl (hb hbytes d7) rfl ?_
    exact Steps.refl _)
  have e0 : lo8 (ushr (Int32.ofNat B.slots.size - Int32.ofNat B.slots.size) 31) = 0 := by rw [Int32.sub_self]; decide
  rw [e0] at c3
  exact ⟨s₁, some (.int 0), _, _, _, X0, rfl, rfl, rfl, (fun h => by cases h), ⟨rfl, hh0⟩, fun fs hl => c3.trans (X0.ireturnOut hexec hret rfl (Or.inr (Or.inr (Or.inl rfl))) (hb hbytes d8) hl)⟩
end CodL
/-- the String at a is Latin-1 over a new byte[] (the heap's one new cell): the low bytes of the len chars of A from o on; every cell but a is kept -/
def Got (a : Addr) (D : Cell) (fV fC : Field) (A : Cell) (o len : Nat) (r : Option Value) (s u : State) : Prop := r = none ∧ ∃ D' V : Cell, Blank "java/lang/String" a D' u ∧ Same D D' [fV.slot, fC.slot] ∧ D'.slots[fV.slot]? = some (.ref s.heap.size) ∧ D'.slots[fC.slot]? = some (.int 0) ∧ Arr .byte s.heap.size V u ∧ V.vm = .none ∧ u.vm.findClass "[B" = some V.cls ∧ V.slots.size = len ∧ (∀ j, j < len → V.slots[j]? = some (.int (lo8 (cv A (o + j))))) ∧ (∀ (y : Addr) (c : Cell), y ≠ a → s.heap[y]? = some c → u.heap[y]? = some c) ∧ u.heap.size = s.heap.size + 1
theorem Got.mv {a : Addr} {D A : Cell} {fV fC : Field} {o len : Nat} : ∀ r (U U' V V' : State), U'.heap = U.heap → V.vm.Alike V'.vm → V'.heap = V.heap → Got a D fV fC A o len r U V → Got a D fV fC A o len r U' V' :=
  fun r U U' V V' h1 hal h2 ⟨e0, D', X, a1, a2, a3, a4, a5, a6, a7, a8, a9, a10, a11⟩ => ⟨e0, D', X, a1.mv hal h2, a2, by rw [h1]; exact a3, a4, by rw [h1]; exact a5.mv hal h2, a6, by rw [hal.findClass]; exact a7, a8, a9, by rw [h1, h2]; exact a10, by rw [h1, h2]; exact a11⟩
namespace New4
def yN : MethodName := ⟨"java/lang/String", "<init>", "([CIILjava/lang/Void;)V"⟩
abbrev yB : ByteArray := jdk_42_method_149_code
theorem d0 : decode yB 0 = .ok (.aload_n 0, 1) := by decide +kernel
theorem d1 : decode yB 1 = .ok (.invokespecial 1, 3) := by decide +kernel
theorem d4 : decode yB 4 = .ok (.iload_n 3, 1) := by decide +kernel
theorem d5 : decode yB 5 = .ok (.ifCond (.ne) 22, 3) := by decide +kernel
theorem d27 : decode yB 27 = .ok (.getstatic 38, 3) := by decide +kernel
theorem d30 : decode yB 30 = .ok (.ifCond (.eq) 28, 3) := by decide +kernel
theorem d33 : decode yB 33 = .ok (.aload_n 1, 1) := by decide +kernel
theorem d34 : decode yB 34 = .ok (.iload_n 2, 1) := by decide +kernel
theorem d35 : decode yB 35 = .ok (.iload_n 3, 1) := by decide +kernel
theorem d36 : decode yB 36 = .ok (.invokestatic 177, 3) := by decide +kernel
theorem d39 : decode yB 39 = .ok (.astore 5, 2) := by decide +kernel
theorem d41 : decode yB 41 = .ok (.aload_n 0, 1) := by decide +kernel
theorem d42 : decode yB 42 = .ok (.aload 5, 2) := by decide +kernel
theorem d44 : decode yB 44 = .ok (.iload_n 3, 1) := by decide +kernel
theorem d45 : decode yB 45 = .ok (.invokestatic 47, 3) := by decide +kernel
theorem d48 : decode yB 48 = .ok (.putfield 15, 3) := by decide +kernel
theorem d51 : decode yB 51 = .ok (.aload_n 0, 1) := by decide +kernel
theorem d52 : decode yB 52 = .ok (.aload 5, 2) := by decide +kernel
theorem d54 : decode yB 54 = .ok (.putfield 9, 3) := by decide +kernel
theorem d57 : decode yB 57 = .ok (.return_, 1) := by decide +kernel
def site : List Cond := [.fieldLink "java/lang/String" 38 "java/lang/String" "COMPACT_STRINGS" "Z", Cmp3.tab, CodL.tab, .laysFinal "java/lang/String" "java/lang/String" "value" "[B", .fieldLink "java/lang/String" 9 "java/lang/String" "value" "[B", .laysFinal "java/lang/String" "java/lang/String" "coder" "B", .fieldLink "java/lang/String" 15 "java/lang/String" "coder" "B"] ++ objW "java/lang/String" 1 ++ staticW "java/lang/String" 177 Cmp3.yN ++ staticW "java/lang/String" 47 CodL.yN
def tab : Cond := tabOf yN yB 6 none site
def P (a : Addr) (D : Cell) (fV fC : Field) (b : Addr) (A : Cell) (z : Int32) (o len : Nat) (args : Array Value) (s : State) : Prop := args = #[.ref a, .ref b, .int (Int32.ofNat o), .int (Int32.ofNat len), .null] ∧ Blank "java/lang/String" a D s ∧ Found "java/lang/String" "value" "[B" fV s ∧ Found "java/lang/String" "coder" "B" fC s ∧ Ch b A s ∧ StaticIs s "java/lang/String" "COMPACT_STRINGS" "Z" (.int z) ∧ ¬ z = 0 ∧ 0 < len ∧ o + len ≤ A.slots.size ∧ len ≤ 536870912 ∧ ∀ i, i < len → ¬ 255 < cv A (o + i)
def E (a : Addr) (D : Cell) (fV fC : Field) (A : Cell) (o len : Nat) (r : Option Value) (s u : State) : Prop := Got a D fV fC A o len r s u
/-- len > 0, no char of the range above 255: a Latin-1 String of their low bytes -/
theorem law (l : Launch) (a : Addr) (D : Cell) (fV fC : Field) (b : Addr) (A : Cell) (z : Int32) (o len : Nat) : Law l yN 5 4 2 35 yB 6 none site (P a D fV fC b A z o len) (E a D fV fC A o len) [⟨a, fC.slot⟩, ⟨a, fV.slot⟩] 1 len := by
  refine Law.of_walk (plainFor_of_name (by decide +kernel)) (by decide +kernel) (by decide +kernel) (by decide) (fun _ _ h => by rw [h.1]; rfl) (fun _ U U' hal hh h => ⟨h.1, h.2.1.mv hal hh, h.2.2.1.al hal, h.2.2.2.1.al hal, h.2.2.2.2.1.mv hal hh, h.2.2.2.2.2.1.there hal hh, h.2.2.2.2.2.2⟩) (fun r U U' V V' h1 hal h2 h => Got.mv r U U' V V' h1 hal h2 h) ?_
  intro p e s m args below meth c s₁ X0 hexec hbytes hml hret hlk hnm hown hh0 W hP
  obtain ⟨rfl, hB, f1, f2, hA, s1, hz, l0, l1, l2, hp⟩ := hP
  have a31 := hA.1.2.2.2
  have c1 : Steps p.tables e below (s₁.setTop (entryFrame m #[.ref a, .ref b, .int (Int32.ofNat o), .int (Int32.ofNat len), .null] 6)) (s₁.setTop (mkF m 0 #[.val (.ref a), .val (.ref b), .val (.int (Int32.ofNat o)), .val (.int (Int32.ofNat len)), .val .null, .unset] [])) := entry rfl
  have c2 : Steps p.tables e below (s₁.setTop (entryFrame m #[.ref a, .ref b, .int (Int32.ofNat o), .int (Int32.ofNat len), .null] 6)) (s₁.setTop (mkF m 1 #[.val (.ref a), .val (.ref b), .val (.int (Int32.ofNat o)), .val (.int (Int32.ofNat len)), .val .null, .unset] [.ref a])) := c1.trans (by
    refine XS.aloadN X0.here hexec rfl (hb hbytes d0) rfl rfl ?_
    exact Steps.refl _)
  obtain ⟨T3, X3, q3, st3⟩ := X0.oinit hexec hown (wks W (objW "java/lang/String" 1)) (g := (mkF m 1 #[.val (.ref a), .val (.ref b), .val (.int (Int32.ofNat o)), .val (.int (Int32.ofNat len)), .val .null, .unset] [.ref a])) rfl (by rw [hml]; rfl) (rest := []) rfl (hb hbytes d1) (W := 0) (by show 2 * 0 + 0 ≤ _; decide) (Nat.le_of_ble_eq_true rfl) (Nat.le_of_ble_eq_true rfl)
  have hh3 := q3.trans hh0
  have c4 : Steps p.tables e below (s₁.setTop (entryFrame m #[.ref a, .ref b, .int (Int32.ofNat o), .int (Int32.ofNat len), .null] 6)) (T3.setTop (mkF m 27 #[.val (.ref a), .val (.ref b), .val (.int (Int32.ofNat o)), .val (.int (Int32.ofNat len)), .val .null, .unset] [])) := (c2.trans (st3 _ (Steps.refl _))).trans (by
    refine XS.iloadN X3.here hexec rfl (hb hbytes d4) rfl ?_
    refine XS.ifYes X3.here hexec rfl (pc0 := 5) rfl (hb hbytes d5) rfl (i0_ne_t (nz32 (by omega) l0)) (by decide) rfl ?_
    exact Steps.refl _)
  obtain ⟨T5, X5, q5, st5⟩ := X3.sget hexec hown (wk W (.fieldLink "java/lang/String" 38 "java/lang/String" "COMPACT_STRINGS" "Z")) s1 (fun _ _ h => by rw [hh3]; exact h) (g := (mkF m 27 #[.val (.ref a), .val (.ref b), .val (.int (Int32.ofNat o)), .val (.int (Int32.ofNat len)), .val .null, .unset] [])) rfl (hb hbytes d27)
  have hh5 := q5.trans hh3
  have c6 : Steps p.tables e below (s₁.setTop (entryFrame m #[.ref a, .ref b, .int (Int32.ofNat o), .int (Int32.ofNat len), .null] 6)) (T5.setTop (mkF m 30 #[.val (.ref a), .val (.ref b), .val (.int (Int32.ofNat o)), .val (.int (Int32.ofNat len)), .val .null, .unset] [.int z])) := c4.trans (st5 _ (Steps.refl _))
  have c7 : Steps p.tables e below (s₁.setTop (entryFrame m #[.ref a, .ref b, .int (Int32.ofNat o), .int (Int32.ofNat len), .null] 6)) (T5.setTop (mkF m 36 #[.val (.ref a), .val (.ref b), .val (.int (Int32.ofNat o)), .val (.int (Int32.ofNat len)), .val .null, .unset] [.int (Int32.ofNat len), .int (Int32.ofNat o), .ref b])) := c6.trans (by
    refine XS.ifNo X5.here hexec rfl (hb hbytes d30) rfl (i0_eq_f hz) ?_
    refine XS.aloadN X5.here hexec rfl (hb hbytes d33) rfl rfl ?_
    refine XS.iloadN X5.here hexec rfl (hb hbytes d34) rfl ?_
    refine XS.iloadN X5.here hexec rfl (hb hbytes d35) rfl ?_
    exact Steps.refl _)
  obtain ⟨v8, T8, X8, E8, g8⟩ := X5.callS hexec (Cmp3.law l b A o len) hown (wks W (staticW "java/lang/String" 177 Cmp3.yN)) (wk W Cmp3.tab) (W := 0) (Nat.le_of_ble_eq_true rfl) (Nat.le_of_ble_eq_true rfl) (Nat.le_refl _) (by show 0 + len ≤ len; omega) (g := (mkF m 36 #[.val (.ref a), .val (.ref b), .val (.int (Int32.ofNat o)), .val (.int (Int32.ofNat len)), .val .null, .unset] [.int (Int32.ofNat len), .int (Int32.ofNat o), .ref b])) rfl (by rw [hml]; rfl) c7 (argsL := [.ref b, .int (Int32.ofNat o), .int (Int32.ofNat len)]) (rest := []) rfl rfl (by show 2 * 0 + 0 ≤ _; decide) (hb hbytes d36) (⟨rfl, hA.mv X5.warmed.alike hh5, l1, l2, hp⟩)
  obtain ⟨e8, z8⟩ := E8
  obtain ⟨rfl, N, n1, n2, n3, n4, n5, n6⟩ := NewArr.mv _ T5 s _ _ hh5.symm (Vm.Alike.refl _) rfl e8
  rw [hh5] at z8
  have hB1 := hB.keep X8.warmed.alike (n6 _ _ hB.1)
  have hne : s.heap.size ≠ a := (Nat.ne_of_lt (Array.getElem?_eq_some_iff.mp hB.1).1).symm
  have c9 : Steps p.tables e below (s₁.setTop (entryFrame m #[.ref a, .ref b, .int (Int32.ofNat o), .int (Int32.ofNat len), .null] 6)) (T8.setTop (mkF m 39 #[.val (.ref a), .val (.ref b), .val (.int (Int32.ofNat o)), .val (.int (Int32.ofNat len)), .val .null, .unset] [.ref s.heap.size])) := g8
  have c10 : Steps p.tables e below (s₁.setTop (entryFrame m #[.ref a, .ref b, .int (Int32.ofNat o), .int (Int32.ofNat len), .null] 6)) (T8.setTop (mkF m 45 #[.val (.ref a), .val (.ref b), .val (.int (Int32.ofNat o)), .val (.int (Int32.ofNat len)), .val .null, .val (.ref s.heap.size)] [.int (Int32.ofNat N.slots.size), .ref s.heap.size, .ref a])) := by
    have hc : Steps p.tables e below (s₁.setTop (entryFrame m #[.ref a, .ref b, .int (Int32.ofNat o), .int (Int32.ofNat len), .null] 6)) (T8.setTop (mkF m 45 #[.val (.ref a), .val (.ref b), .val (.int (Int32.ofNat o)), .val (.int (Int32.ofNat len)), .val .null, .val (.ref s.heap.size)] [.int (Int32.ofNat len), .ref s.heap.size, .ref a])) := c9.trans (by
      refine XS.astore X8.here hexec rfl (hb hbytes d39) rfl rfl rfl ?_
      refine XS.aloadN X8.here hexec rfl (hb hbytes d41) rfl rfl ?_
      refine XS.aload X8.here hexec rfl (hb hbytes d42) rfl rfl ?_
      refine XS.iloadN X8.here hexec rfl (hb hbytes d44) rfl ?_
      exact Steps.refl _)
    rw [n4]; exact hc
  obtain ⟨v11, T11, X11, E11, g11⟩ := X8.callS hexec (CodL.law l s.heap.size N) hown (wks W (staticW "java/lang/String" 47 CodL.yN)) (wk W CodL.tab) (W := 1) (Nat.le_of_ble_eq_true rfl) (Nat.le_of_ble_eq_true rfl) (Nat.le_refl _) (by show 0 + len + 0 ≤ len; omega) (g := (mkF m 45 #[.val (.ref a), .val (.ref b), .val (.int (Int32.ofNat o)), .val (.int (Int32.ofNat len)), .val .null, .val (.ref s.heap.size)] [.int (Int32.ofNat N.slots.size), .ref s.heap.size, .ref a])) rfl (by rw [hml]; rfl) c10 (argsL := [.ref s.heap.size, .int (Int32.ofNat N.slots.size)]) (rest := [.ref a]) rfl rfl (by show 2 * 0 + (1 + 0) ≤ _; decide) (hb hbytes d45) (⟨rfl, n1⟩)
  obtain ⟨rfl, q11⟩ := E11
  have hB11 := hB1.mv (X8.warmed.alike.symm.trans X11.warmed.alike) q11
  have c12 : Steps p.tables e below (s₁.setTop (entryFrame m #[.ref a, .ref b, .int (Int32.ofNat o), .int (Int32.ofNat len), .null] 6)) (T11.setTop (mkF m 48 #[.val (.ref a), .val (.ref b), .val (.int (Int32.ofNat o)), .val (.int (Int32.ofNat len)), .val .null, .val (.ref s.heap.size)] [.int 0, .ref a])) := g11
  obtain ⟨T13, X13, p13, bl13, sl13, st13⟩ := X11.finit hexec hown (wk W (.fieldLink "java/lang/String" 15 "java/lang/String" "coder" "B")) (Or.inr ⟨_, (wk W (.laysFinal "java/lang/String" "java/lang/String" "coder" "B"))⟩) (Or.inl ⟨rfl, hnm⟩) f2 (Or.inl rfl) hB11 (t := .byte) (by decide +kernel) rfl (g := (mkF m 48 #[.val (.ref a), .val (.ref b), .val (.int (Int32.ofNat o)), .val (.int (Int32.ofNat len)), .val .null, .val (.ref s.heap.size)] [.int 0, .ref a])) rfl (rest := []) rfl (hb hbytes d48)
  have c14 : Steps p.tables e below (s₁.setTop (entryFrame m #[.ref a, .ref b, .int (Int32.ofNat o), .int (Int32.ofNat len), .null] 6)) (T13.setTop (mkF m 54 #[.val (.ref a), .val (.ref b), .val (.int (Int32.ofNat o)), .val (.int (Int32.ofNat len)), .val .null, .val (.ref s.heap.size)] [.ref s.heap.size, .ref a])) := (c12.trans (st13 _ (Steps.refl _))).trans (by
    refine XS.aloadN X13.here hexec rfl (hb hbytes d51) rfl rfl ?_
    refine XS.aload X13.here hexec rfl (hb hbytes d52) rfl rfl ?_
    exact Steps.refl _)
  obtain ⟨T15, X15, p15, bl15, sl15, st15⟩ := X13.finit hexec hown (wk W (.fieldLink "java/lang/String" 9 "java/lang/String" "value" "[B")) (Or.inr ⟨_, (wk W (.laysFinal "java/lang/String" "java/lang/String" "value" "[B"))⟩) (Or.inl ⟨rfl, hnm⟩) f1 (Or.inl rfl) bl13 (t := (.array .byte)) (by decide +kernel) rfl (g := (mkF m 54 #[.val (.ref a), .val (.ref b), .val (.int (Int32.ofNat o)), .val (.int (Int32.ofNat len)), .val .null, .val (.ref s.heap.size)] [.ref s.heap.size, .ref a])) rfl (rest := []) rfl (hb hbytes d54)
  have c16 : Steps p.tables e below (s₁.setTop (entryFrame m #[.ref a, .ref b, .int (Int32.ofNat o), .int (Int32.ofNat len), .null] 6)) (T15.setTop (mkF m 57 #[.val (.ref a), .val (.ref b), .val (.int (Int32.ofNat o)), .val (.int (Int32.ofNat len)), .val .null, .val (.ref s.heap.size)] [])) := c14.trans (st15 _ (Steps.refl _))
  have ap := apart (Or.inr ⟨_, (wk W (.laysFinal "java/lang/String" "java/lang/String" "value" "[B"))⟩) (Or.inr ⟨_, (wk W (.laysFinal "java/lang/String" "java/lang/String" "coder" "B"))⟩) f1 f2 (t₁ := .array .byte) (t₂ := .byte) (by decide +kernel) (by decide +kernel) (by decide)
  have al := X8.warmed.alike.symm.trans X15.warmed.alike
  have n7 : T11.heap[s.heap.size]? = some N := by rw [q11]; exact n1.1
  exact ⟨T15, none, _, _, _, X15, by simp, rfl, by omega, (fun _ => rfl), ⟨rfl, _, N, bl15, ((Same.refl D _).set _ (by simp)).set _ (by simp), sl15, (Cell.slots_setSlot_ne _ ap).trans sl13, n1.keep al (p15.other hne (p13.other hne n7)), n2, by rw [al.findClass]; exact n3, n4, n5, fun y c h1 h2 => p15.other h1 (p13.other h1 (by rw [q11]; exact n6 y c h2)), by rw [p15.2.2, p13.2.2, q11]; exact z8⟩, fun fs hl => c16.trans (X15.returnOut hexec hret (hb hbytes d57) hl)⟩
end New4
namespace New1
def yN : MethodName := ⟨"java/lang/String", "<init>", "([C)V"⟩
abbrev yB : ByteArray := jdk_42_method_3_code
theorem d0 : decode yB 0 = .ok (.aload_n 0, 1) := by decide +kernel
theorem d1 : decode yB 1 = .ok (.aload_n 1, 1) := by decide +kernel
theorem d2 : decode yB 2 = .ok (.iconst 0, 1) := by decide +kernel
theorem d3 : decode yB 3 = .ok (.aload_n 1, 1) := by decide +kernel
theorem d4 : decode yB 4 = .ok (.arraylength, 1) := by decide +kernel
theorem d5 : decode yB 5 = .ok (.aconst_null, 1) := by decide +kernel
theorem d6 : decode yB 6 = .ok (.invokespecial 27, 3) := by decide +kernel
theorem d9 : decode yB 9 = .ok (.return_, 1) := by decide +kernel
def site : List Cond := [New4.tab] ++ initW "java/lang/String" 27 New4.yN
def tab : Cond := tabOf yN yB 2 none site
def P (a : Addr) (D : Cell) (fV fC : Field) (b : Addr) (A : Cell) (z : Int32) (args : Array Value) (s : State) : Prop := args = #[.ref a, .ref b] ∧ Blank "java/lang/String" a D s ∧ Found "java/lang/String" "value" "[B" fV s ∧ Found "java/lang/String" "coder" "B" fC s ∧ Ch b A s ∧ StaticIs s "java/lang/String" "COMPACT_STRINGS" "Z" (.int z) ∧ ¬ z = 0 ∧ 0 < A.slots.size ∧ A.slots.size ≤ 536870912 ∧ ∀ i, i < A.slots.size → ¬ 255 < cv A i
def E (a : Addr) (D : Cell) (fV fC : Field) (A : Cell) (r : Option Value) (s u : State) : Prop := Got a D fV fC A 0 A.slots.size r s u
/-- new String(chars), not empty, no char above 255: a Latin-1 String of their low bytes -/
theorem law (l : Launch) (a : Addr) (D : Cell) (fV fC : Field) (b : Addr) (A : Cell) (z : Int32) : Law l yN 2 1 3 52 yB 2 none site (P a D fV fC b A z) (E a D fV fC A) [⟨a, fC.slot⟩, ⟨a, fV.slot⟩] 1 A.slots.size := by
  refine Law.of_walk (plainFor_of_name (by decide +kernel)) (by decide +kernel) (by decide +kernel) (by decide) (fun _ _ h => by rw [h.1]; rfl) (fun _ U U' hal hh h => ⟨h.1, h.2.1.mv hal hh, h.2.2.1.al hal, h.2.2.2.1.al hal, h.2.2.2.2.1.mv hal hh, h.2.2.2.2.2.1.there hal hh, h.2.2.2.2.2.2⟩) (fun r U U' V V' h1 hal h2 h => Got.mv r U U' V V' h1 hal h2 h) ?_
  intro p e s m args below meth c s₁ X0 hexec hbytes hml hret hlk hnm hown hh0 W hP
  obtain ⟨rfl, hB, f1, f2, hA, s1, hz, l0, l2, hp⟩ := hP
  have c1 : Steps p.tables e below (s₁.setTop (entryFrame m #[.ref a, .ref b] 2)) (s₁.setTop (mkF m 0 #[.val (.ref a), .val (.ref b)] [])) := entry rfl
  have c2 : Steps p.tables e below (s₁.setTop (entryFrame m #[.ref a, .ref b] 2)) (s₁.setTop (mkF m 6 #[.val (.ref a), .val (.ref b)] [.null, .int (Int32.ofNat A.slots.size), .int 0, .ref b, .ref a])) := c1.trans (by
    refine XS.aloadN X0.here hexec rfl (hb hbytes d0) rfl rfl ?_
    refine XS.aloadN X0.here hexec rfl (hb hbytes d1) rfl rfl ?_
    refine iconstV X0.here hexec rfl 0 (hb hbytes d2) (by decide) ?_
    refine XS.aloadN X0.here hexec rfl (hb hbytes d3) rfl rfl ?_
    refine X0.alen hexec (hA.1.mv X0.warmed.alike hh0) rfl rfl (hb hbytes d4) ?_
    refine XS.aconstNull X0.here hexec rfl (hb hbytes d5) ?_
    exact Steps.refl _)
  obtain ⟨v3, T3, X3, E3, g3⟩ := X0.callN hexec (New4.law l a D fV fC b A z 0 A.slots.size) rfl hown (wks W (initW "java/lang/String" 27 New4.yN)) (W New4.tab (by simp only [site, List.mem_cons, List.mem_append, true_or, or_true])) (W := 0) (Nat.le_of_ble_eq_true rfl) (Nat.le_of_ble_eq_true rfl) (Nat.le_refl _) (by show 0 + A.slots.size ≤ A.slots.size; omega) (g := (mkF m 6 #[.val (.ref a), .val (.ref b)] [.null, .int (Int32.ofNat A.slots.size), .int (Int32.ofNat 0), .ref b, .ref a])) rfl (by rw [hml]; rfl) c2 (argsL := [.ref b, .int (Int32.ofNat 0), .int (Int32.ofNat A.slots.size), .null]) (rest := []) rfl rfl (by show 2 * 0 + 0 ≤ _; decide) (hb hbytes d6) (⟨rfl, hB.mv X0.warmed.alike hh0, f1.al X0.warmed.alike, f2.al X0.warmed.alike, hA.mv X0.warmed.alike hh0, s1.there X0.warmed.alike hh0, hz, l0, by omega, l2, fun i hi => by rw [Nat.zero_add]; exact hp i hi⟩)
  have e0 := Got.mv _ s₁ s _ _ hh0.symm (Vm.Alike.refl _) rfl E3
  obtain rfl := e0.1
  have c4 : Steps p.tables e below (s₁.setTop (entryFrame m #[.ref a, .ref b] 2)) (T3.setTop (mkF m 9 #[.val (.ref a), .val (.ref b)] [])) := g3
  exact ⟨T3, none, _, _, _, X3, by simp, rfl, by omega, (fun _ => rfl), e0, fun fs hl => c4.trans (X3.returnOut hexec hret (hb hbytes d9) hl)⟩
theorem pays {l : Launch} {R : Room} {p : Program} {e : Env} {below : List Frame} {s : State} {sargs : Array Value} {len W : Nat} (a : Addr) (D : Cell) (fV fC : Field) (b : Addr) (A : Cell) (z : Int32) (htab : tab.before sargs s = true) (hfr : 4 ≤ R.frames) (hlo : W + 65 ≤ R.locals) :
    Back l R p e below s sargs yN len W (fun A₁ a₁ => A₁.cells + 1 ≤ R.cells ∧ A₁.slots + A.slots.size ≤ R.slots ∧ P a D fV fC b A z a₁ A₁.U) (fun A₁ _ v₁ B₁ => E a D fV fC A v₁ A₁.U B₁.U ∧ B₁.locs = A₁.locs ++ [⟨a, fC.slot⟩, ⟨a, fV.slot⟩] ∧ B₁.cells = A₁.cells + 1 ∧ B₁.slots = A₁.slots + A.slots.size) :=
  (law l a D fV fC b A z).pays htab hfr (by omega)
end New1
/-- the byte, read back as charAt reads it, is the char -/
theorem lo8_mask {x : Int32} (h0 : ¬ x < 0) (h1 : ¬ 255 < x) : lo8 x &&& 255 = x := by
  have t : ∀ k : Fin 256, lo8 (Int32.ofNat k.val) &&& 255 = Int32.ofNat k.val := by decide +kernel
  rw [Int32.lt_iff_toInt_lt] at h0 h1
  have e0 : (0 : Int32).toInt = 0 := rfl
  have e1 : (255 : Int32).toInt = 255 := rfl
  obtain ⟨k, hk⟩ : ∃ k : Nat, x.toInt = k := ⟨x.toInt.toNat, by omega⟩
  have hx : x = Int32.ofNat k := Int32.toInt_inj.mp (by rw [hk, Int32.toInt_ofNat_small (by omega)])
  rw [hx]
  exact t ⟨k, by omega⟩
end StrChars
namespace StrChars.Road
open Jvm Sem ClassFile Op Lib Jvm.Stand Jvm.Free Jvm.Free.XT
open Jvm.Lib.Cold (StaticIs)
abbrev ST : String := "java/lang/String"
/-- every table word that New1's law asks, flat -/
abbrev words : List Jvm.Cond := [.code New1.yN New1.yB 2 none, .initialized ST, .methodLink ST 27 New4.yN, .instanceMethod New4.yN,
  .code New4.yN New4.yB 6 none, .fieldLink ST 38 ST "COMPACT_STRINGS" "Z", .laysFinal ST ST "value" "[B", .fieldLink ST 9 ST "value" "[B", .laysFinal ST ST "coder" "B", .fieldLink ST 15 ST "coder" "B",
  .methodLink ST 1 Lib.objectInit, .instanceMethod Lib.objectInit, .code Lib.objectInit ⟨#[0xb1]⟩ 1 none, .methodLink ST 177 Cmp3.yN, .static Cmp3.yN, .methodLink ST 47 CodL.yN, .static CodL.yN,
  .code Cmp3.yN Cmp3.yB 6 (some (.array .byte)), .initialized U16, .arrayClass .byte, .methodLink U16 115 Cmp5.yN, .static Cmp5.yN, .code Cmp5.yN Cmp5.yB 7 (some .int), .code CodL.yN CodL.yB 2 (some .byte)]
theorem tab_of {a : Array Value} {s : State} (h : ∀ w ∈ words, w.before a s = true) : New1.tab.before a s = true := by
  have h5 : Cmp5.tab.before a s = true := unparts (wk h (.code Cmp5.yN Cmp5.yB 7 (some .int))) (wks h (.initialized Cmp5.yN.cls :: Cmp5.site))
  have hc : CodL.tab.before a s = true := unparts (wk h (.code CodL.yN CodL.yB 2 (some .byte))) (wks h (.initialized CodL.yN.cls :: CodL.site))
  have q5 : ∀ w ∈ Cmp5.tab :: words, w.before a s = true := fun w hw => (List.mem_cons.mp hw).elim (fun e => e ▸ h5) (h w)
  have h3 : Cmp3.tab.before a s = true := unparts (wk q5 (.code Cmp3.yN Cmp3.yB 6 (some (.array .byte)))) (wks q5 (.initialized Cmp3.yN.cls :: Cmp3.site))
  have q3 : ∀ w ∈ Cmp3.tab :: CodL.tab :: words, w.before a s = true := fun w hw => (List.mem_cons.mp hw).elim (fun e => e ▸ h3) fun hw => (List.mem_cons.mp hw).elim (fun e => e ▸ hc) (h w)
  have h4 : New4.tab.before a s = true := unparts (wk q3 (.code New4.yN New4.yB 6 none)) (wks q3 (.initialized New4.yN.cls :: New4.site))
  have q4 : ∀ w ∈ New4.tab :: words, w.before a s = true := fun w hw => (List.mem_cons.mp hw).elim (fun e => e ▸ h4) (h w)
  exact unparts (wk q4 (.code New1.yN New1.yB 2 none)) (wks q4 (.initialized New1.yN.cls :: New1.site))
/-- the words ride from the start Z to the walk's own state -/
theorem moved {Z s : State} {a0 args : Array Value} (hZ : Z.Warmed39 s.vm) (hw : ∀ d ∈ words, d.before a0 Z = true) : ∀ d ∈ words, d.before args s = true := fun d hd => by
  have q := hw d hd
  have t : ∀ d ∈ words, d = .arrayClass .byte ∨ (d.onTables && d.keepsFace) = true := by decide +kernel
  rcases t d hd with rfl | t
  · exact RoadKit.mvA hZ q
  · exact RoadKit.mv hZ q t
/-- WHAT COMES BACK, over the tables of the start Z: h the heap at the call, h' behind it -/
def Q (Z : State) (x : Addr) (A : Cell) (h : Heap) (v : Option Value) (h' : Heap) (L : List Loc) : Prop := v = none ∧ (∀ y ∈ L, y.base = x) ∧ RoadKit.Keep h h' [x] ∧ h'.size = h.size + 1 ∧ RoadKit.Exa Z h' x ST ∧ RoadKit.Fld Z h' x ST "value" "[B" (.ref h.size) ∧ RoadKit.Fld Z h' x ST "coder" "B" (.int 0) ∧
  (∃ V : Cell, RoadKit.Arr Z h' h.size V .byte ∧ V.vm = .none ∧ Z.vm.findClass "[B" = some V.cls ∧ V.slots.size = A.slots.size ∧ ∀ j, j < A.slots.size → V.slots[j]? = some (.int (lo8 (cv A j)))) ∧
  ∀ (O n d : String) (w : Value), RoadKit.Fld Z h x O n d w → RoadKit.slotOf Z O n d ≠ RoadKit.slotOf Z ST "value" "[B" → RoadKit.slotOf Z O n d ≠ RoadKit.slotOf Z ST "coder" "B" → RoadKit.Fld Z h' x O n d w
/-- **new String(chars) AT A CALL, IN THE ROAD'S FORM**: for specialBack behind newO: x the fresh String, b the char[] with the cell A -/
theorem back {p : Program} {l : Launch} {e : Env} {R : Room} {s : State} {args : Array Value} {below : List Frame} {len W : Nat} {Z : State} {a0 : Array Value} {h : Heap} (hZ : Z.Warmed39 s.vm) (hw : ∀ d ∈ words, d.before a0 Z = true) {kI : Nat} (wi : (Jvm.Cond.instantiable ST kI).before a0 Z = true)
    {x b : Addr} {A : Cell} {z : Int32} {v0 c0 : Value} (E : RoadKit.Exa Z h x ST) (V : RoadKit.Fld Z h x ST "value" "[B" v0) (C : RoadKit.Fld Z h x ST "coder" "B" c0) (K : RoadKit.Arr Z h b A .char) (hty : Typed .char A) (S : RoadKit.Sta Z h ST "COMPACT_STRINGS" "Z" (.int z)) (hz : ¬ z = 0)
    (l0 : 0 < A.slots.size) (l2 : A.slots.size ≤ 536870912) (hp : ∀ i, i < A.slots.size → ¬ 255 < cv A i) (hfr : 4 ≤ R.frames) (hlo : W + 65 ≤ R.locals) :
    Back l R p e below s args New1.yN len W (fun P a => a = #[.ref x, .ref b] ∧ P.U.heap = h ∧ P.cells + 1 ≤ R.cells ∧ P.slots + A.slots.size ≤ R.slots)
      (fun P _ v B => ∃ L, Q Z x A h v B.U.heap L ∧ B.locs = P.locs ++ L ∧ B.cells = P.cells + 1 ∧ B.slots = P.slots + A.slots.size) := by
  intro m meth c P g ig mk a X hg hsize hdg hW hn hp'
  obtain ⟨rfl, rfl, r1, r2⟩ := hp'
  have al : Z.vm.Alike P.U.vm := hZ.alike.trans X.warmed.alike
  obtain ⟨D, cfV, kV, iV, fV, hD, gV, stV, knV, obV, asV, slV⟩ := id V
  obtain ⟨D', cfC, kC, iC, fC, hD', gC, stC, -, -, asC, slC⟩ := id C
  cases hD.symm.trans hD'
  obtain ⟨D2, kD, e1, e2, e3, e4, e5⟩ := id E
  cases hD.symm.trans e1
  obtain ⟨c2, k2, i1, i2, i3, -⟩ := Cond.instantiable_spec wi
  cases e2.symm.trans i1
  cases e3.symm.trans i2
  obtain ⟨kU, u1, u2⟩ := al.2.2 _ _ e3
  have hB : Blank ST x D P.U := ⟨hD, ⟨knV, fun q hq => by rw [hq] at obV; cases obV⟩, by rw [al.findClass]; exact e2, kU, u1, by rw [u2]; exact i3, by rw [u2]; exact e5 i3⟩
  have F1 : Found ST "value" "[B" fV P.U := ⟨SBG.found_only al ⟨cfV, kV, iV, gV⟩, stV⟩
  have F2 : Found ST "coder" "B" fC P.U := ⟨SBG.found_only al ⟨cfC, kC, iC, gC⟩, stC⟩
  have hA : Ch b A P.U := ⟨⟨K.1, State.isArrayOf_alike al K.2.1, K.2.2, by omega⟩, hty⟩
  have hS : StaticIs P.U ST "COMPACT_STRINGS" "Z" (.int z) := by
    obtain ⟨cfS, iS, kS, fS, st, cS, t1, t2, t3, t4, t5, t6, t7⟩ := S
    exact StaticIs.there (s := { Z with heap := P.U.heap }) ⟨cfS, iS, kS, fS, st, cS, t1, t2, t3, t4, t5, (fun q => by rw [q] at t6; cases t6), t7⟩ al rfl
  obtain ⟨v, B, X', ⟨⟨hv, E', V', q1, q2, q3, q4, q5, q6, q7, q8, q9, q10, q11⟩, hl, hc, hs⟩, st⟩ := New1.pays x D fV fC b A z (tab_of (moved hZ hw)) hfr hlo m meth c P g ig mk _ X hg hsize hdg hW hn ⟨r1, r2, rfl, hB, F1, F2, hA, hS, hz, l0, l2, hp⟩
  have al' : Z.vm.Alike B.U.vm := hZ.alike.trans X'.warmed.alike
  have hsz : E'.slots.size = D.slots.size := by
    obtain ⟨-, -, -, kB, w1, w2, w3⟩ := q1
    obtain ⟨kB', y1, y2⟩ := al'.2.2 _ _ e3
    rw [q2.2.1] at w1
    cases w1.symm.trans y1
    rw [w3, e5 i3, y2]
  refine ⟨v, B, X', ⟨_, ⟨hv, ?_, ⟨by omega, fun y cy hy hn' => q10 y cy (by simpa using hn') hy, fun y cy hy => ?_⟩, q11, ⟨E', _, q1.1, by rw [q2.2.1]; exact e2, by rw [q2.2.1]; exact e3, by rw [q2.1]; exact obV, fun _ => by rw [hsz]; exact e5 i3⟩,
    ⟨E', cfV, kV, iV, fV, q1.1, gV, stV, by rw [q2.1]; exact knV, by rw [q2.1]; exact obV, by rw [q2.2.1]; exact asV, q3⟩, ⟨E', cfC, kC, iC, fC, q1.1, gC, stC, by rw [q2.1]; exact knV, by rw [q2.1]; exact obV, by rw [q2.2.1]; exact asC, q4⟩,
    ⟨V', ⟨q5.1, State.isArrayOf_alike al'.symm q5.2.1, q5.2.2.1⟩, q6, by rw [← al'.findClass]; exact q7, q8, fun j hj => by have := q9 j hj; rwa [Nat.zero_add] at this⟩, fun O n d w F n1 n2 => ?_⟩, hl, hc, hs⟩, st⟩
  · intro y hy
    simp only [List.mem_cons, List.not_mem_nil, or_false] at hy
    rcases hy with rfl | rfl <;> rfl
  · by_cases q : y = x
    · subst q
      cases hD.symm.trans hy
      exact ⟨E', q1.1, q2.2.1, q2.1, hsz⟩
    · exact ⟨cy, q10 y cy q hy, rfl, rfl, rfl⟩
  · obtain ⟨D3, cf, k, i, f, g1, g2, g3, g4, g5, g6, g7⟩ := F
    cases hD.symm.trans g1
    simp only [RoadKit.slotOf, g2, gV, gC, Option.map_some, Option.getD_some] at n1 n2
    exact ⟨E', cf, k, i, f, q1.1, g2, g3, by rw [q2.1]; exact g4, by rw [q2.1]; exact g5, by rw [q2.2.1]; exact g6, by rw [q2.2.2 f.slot (by simp [n1, n2])]; exact g7⟩
end StrChars.Road
namespace StrChars.Road
open Jvm Sem ClassFile Op Lib Jvm.Stand Jvm.Free Jvm.Free.XT
/-- WHAT COMES BACK, the byte[] as a list of values -/
def QA (Z : State) (x : Addr) (zn : Int32) (cs : List Int32) (h : Heap) (v : Option Value) (h' : Heap) (L : List Loc) : Prop := v = none ∧ (∀ y ∈ L, y.base = x) ∧ RoadKit.Keep h h' [x] ∧ h'.size = h.size + 1 ∧ RoadKit.Exa Z h' x ST ∧ RoadKit.Fld Z h' x ST "value" "[B" (.ref h.size) ∧ RoadKit.Fld Z h' x ST "coder" "B" (.int 0) ∧
  (∃ kb, Z.vm.findClass "[B" = some kb ∧ RoadKit.Arv Z h' h.size kb .byte zn (cs.map fun c => .int (lo8 c)) (.int 0)) ∧
  ∀ (O n d : String) (w : Value), RoadKit.Fld Z h x O n d w → RoadKit.slotOf Z O n d ≠ RoadKit.slotOf Z ST "value" "[B" → RoadKit.slotOf Z O n d ≠ RoadKit.slotOf Z ST "coder" "B" → RoadKit.Fld Z h' x O n d w
/-- **new String(chars) AT A CALL, THE ARRAYS AS LISTS**: the char[] at b holds cs, not empty, no char above 255 -/
theorem backArv {p : Program} {l : Launch} {e : Env} {R : Room} {s : State} {args : Array Value} {below : List Frame} {len W : Nat} {Z : State} {a0 : Array Value} {h : Heap} (hZ : Z.Warmed39 s.vm) (hw : ∀ d ∈ words, d.before a0 Z = true) {kI : Nat} (wi : (Jvm.Cond.instantiable ST kI).before a0 Z = true)
    {x b : Addr} {k : ClassId} {zn z : Int32} {cs : List Int32} {dv v0 c0 : Value} (E : RoadKit.Exa Z h x ST) (V : RoadKit.Fld Z h x ST "value" "[B" v0) (C : RoadKit.Fld Z h x ST "coder" "B" c0) (K : RoadKit.Arv Z h b k .char zn (cs.map Value.int) dv) (S : RoadKit.Sta Z h ST "COMPACT_STRINGS" "Z" (.int z)) (hz : ¬ z = 0)
    (hlen : zn.toNatClampNeg = cs.length) (h0 : 0 < cs.length) (hbig : cs.length ≤ 536870912) (hall : ∀ c ∈ cs, ¬ 255 < c) (hfr : 4 ≤ R.frames) (hlo : W + 65 ≤ R.locals) :
    Back l R p e below s args New1.yN len W (fun P a => a = #[.ref x, .ref b] ∧ P.U.heap = h ∧ P.cells + 1 ≤ R.cells ∧ P.slots + cs.length ≤ R.slots)
      (fun P _ v B => ∃ L, QA Z x zn cs h v B.U.heap L ∧ B.locs = P.locs ++ L ∧ B.cells = P.cells + 1 ∧ B.slots = P.slots + cs.length) := by
  obtain ⟨A, K1, K2, K3, K4, K5, K6⟩ := K
  have e : A.slots.size = cs.length := K3.trans hlen
  have hat : ∀ (i : Nat) (hi : i < cs.length), A.slots[i]? = some (.int cs[i]) := fun i hi => by rw [K5 i (by omega)]; simp [List.getD_eq_getElem?_getD, hi]
  have hcv : ∀ (i : Nat) (hi : i < cs.length), cv A i = cs[i] := fun i hi => by unfold cv; rw [hat i hi]
  have hty : Typed .char A := fun i v hv => by
    have hi : i < A.slots.size := (Array.getElem?_eq_some_iff.mp hv).1
    have q := K5 i hi
    rw [hv] at q
    rw [Option.some.inj q]
    exact K6 i hi
  refine Back.mono (back hZ hw wi E V C K1 hty S hz (by omega) (by omega) (fun i hi => by rw [hcv i (by omega)]; exact hall _ (List.getElem_mem _)) hfr hlo) (fun P a hp => ⟨hp.1, hp.2.1, hp.2.2.1, by rw [e]; exact hp.2.2.2⟩) (fun P a v B hp hq => ?_)
  obtain ⟨L, ⟨q1, q2, q3, q4, q5, q6, q7, ⟨V', v1, v2, v3, v4, v5⟩, q9⟩, hl, hc, hs⟩ := hq
  refine ⟨L, ⟨q1, q2, q3, q4, q5, q6, q7, ⟨V'.cls, v3, V', v1, rfl, by rw [v4, e, hlen], K4, fun i hi => ?_, fun i hi => ?_⟩, q9⟩, hl, hc, by rw [hs, e]⟩
  · have hi' : i < cs.length := by omega
    rw [v5 i (by omega), hcv i hi']; simp [List.getD_eq_getElem?_getD, hi']
  · have hi' : i < cs.length := by omega
    simp only [List.getD_eq_getElem?_getD, List.getElem?_map, List.getElem?_eq_getElem hi', Option.map_some, Option.getD_some]
    exact fits_lo8 _
end StrChars.Road
namespace StrChars.Road
open Jvm Sem ClassFile Op Lib Jvm.Stand Jvm.Free Jvm.Free.XT
/-- WHAT COMES BACK, in the writer's own shape -/
def QV (Z : State) (x : Addr) (N : Int32) (bs : List Int32) (h : Heap) (n0 : Nat) (v : Option Value) (h' : Heap) (L : List Loc) : Prop := v = none ∧ RoadKit.Fr n0 L ∧ RoadKit.Keep h h' [x] ∧ RoadKit.Exa Z h' x ST ∧ RoadKit.Fld Z h' x ST "coder" "B" (.int 0) ∧
  ∃ (t : Addr) (kb : ClassId), n0 ≤ t ∧ h.size ≤ t ∧ ¬ t = x ∧ RoadKit.Fld Z h' x ST "value" "[B" (.ref t) ∧ RoadKit.Arv Z h' t kb .byte N (bs.map Value.int) (.int 0)
/-- **new String(chars) AT A CALL, FOR THE WRITER**: a char[] of n known ints, each 0 to 255 -/
theorem backV {p : Program} {l : Launch} {e : Env} {R : Room} {s : State} {args : Array Value} {below : List Frame} {len W : Nat} {Z : State} {a0 : Array Value} {h : Heap} (hZ : Z.Warmed39 s.vm) (hw : ∀ d ∈ words, d.before a0 Z = true) {kI : Nat} (wi : (Jvm.Cond.instantiable ST kI).before a0 Z = true)
    {x b : Addr} {kC : ClassId} {cs bs : List Int32} {d v0 c0 : Value} {z N : Int32} {n n0 : Nat} (hx0 : n0 ≤ x) (hh0 : n0 ≤ h.size) (E : RoadKit.Exa Z h x ST) (V : RoadKit.Fld Z h x ST "value" "[B" v0) (C : RoadKit.Fld Z h x ST "coder" "B" c0) (K : RoadKit.Arv Z h b kC .char N (cs.map Value.int) d) (S : RoadKit.Sta Z h ST "COMPACT_STRINGS" "Z" (.int z)) (hz : ¬ z = 0)
    (hn : cs.length = n) (hN : N = Int32.ofNat n) (l0 : 0 < n) (l2 : n ≤ 4000) (hp : ∀ c ∈ cs, ¬ c < 0 ∧ ¬ (255 : Int32) < c) (hb : bs = cs.map (fun c => c.toInt8.toInt32)) (hfr : 4 ≤ R.frames) (hlo : W + 65 ≤ R.locals) :
    Back l R p e below s args (⟨"java/lang/String", "<init>", "([C)V"⟩ : MethodName) len W (fun P a => a = #[.ref x, .ref b] ∧ P.U.heap = h ∧ P.cells + 1 ≤ R.cells ∧ P.slots + n ≤ R.slots)
      (fun P _ v B => ∃ L, QV Z x N bs h n0 v B.U.heap L ∧ B.locs = P.locs ++ L ∧ B.cells = P.cells + 1 ∧ B.slots = P.slots + n) := by
  subst hn hN hb
  refine Back.mono (backArv hZ hw wi E V C K S hz (n32 (by omega)) l0 (by omega) (fun c hc => (hp c hc).2) hfr hlo) (fun P a hp => hp) (fun P a v B hp hq => ?_)
  obtain ⟨L, ⟨q1, q2, q3, q4, q5, q6, q7, ⟨kb, v1, v2⟩, q9⟩, hl, hc, hs⟩ := hq
  exact ⟨L, ⟨q1, fun y hy => by rw [q2 y hy]; exact hx0, q3, q5, q7, h.size, kb, hh0, Nat.le_refl _, Nat.ne_of_gt E.lt, q6, by rw [List.map_map]; exact v2⟩, hl, hc, hs⟩
end StrChars.Road
namespace StrChars
open Jvm Sem ClassFile Op Lib Jvm.Stand Jvm.Free.XT Jvm.Free.ALB Jvm.Free.JM Jvm.Free
open Jvm.Lib.Cold (StaticIs)
def hi8 (x : Int32) : Int32 := lo8 (x >>> ((8 : Int32) &&& 31))
/-- what StringUTF16.getChar makes of two bytes -/
def pairCh (u v : Int32) : Int32 := (((u &&& 255) <<< ((0 : Int32) &&& 31)) ||| ((v &&& 255) <<< ((8 : Int32) &&& 31))).toUInt32.toUInt16.toUInt32.toInt32
theorem lo8_and (x : Int32) : (lo8 x &&& 255).toBitVec.toNat = x.toBitVec.toNat % 256 := by
  have h : (lo8 x).toBitVec = (x.toBitVec.signExtend 8).signExtend 32 := by rw [lo8, Int8.toBitVec_toInt32, Int32.toBitVec_toInt8]
  rw [Int32.toBitVec_and, BitVec.toNat_and, h]
  have e : ((x.toBitVec.signExtend 8).signExtend 32).toNat % 256 = x.toBitVec.toNat % 256 := by
    rw [BitVec.toNat_signExtend]
    have hlt := x.toBitVec.isLt
    simp only [BitVec.toNat_setWidth, BitVec.toNat_signExtend]
    split <;> split <;> omega
  rw [← e]
  exact Nat.and_two_pow_sub_one_eq_mod _ 8
theorem pair_says {c : Int32} (h0 : ¬ c < 0) (h1 : ¬ 65535 < c) : pairCh (lo8 c) (hi8 c) = c := by
  rw [Int32.lt_iff_toInt_lt] at h0 h1
  have e0 : (0 : Int32).toInt = 0 := rfl
  have e1 : (65535 : Int32).toInt = 65535 := rfl
  have hc : c.toInt = c.toBitVec.toNat := by
    have := c.toBitVec.isLt
    have e : c.toInt = c.toBitVec.toInt := rfl
    rw [e] at h0 h1
    rw [e]
    rw [BitVec.toInt_eq_toNat_cond] at h0 h1 ⊢
    split at h0 <;> split <;> omega
  have hn : c.toBitVec.toNat < 65536 := by omega
  have a1 := lo8_and c
  have a2 : (hi8 c &&& 255).toBitVec.toNat = c.toBitVec.toNat / 256 := by
    rw [hi8, lo8_and]
    have e : ((8 : Int32) &&& 31) = 8 := by decide
    rw [e, Int32.toBitVec_shiftRight]
    have e2 : ((8 : Int32).toBitVec.smod 32) = 8#32 := by decide
    rw [e2, BitVec.sshiftRight_eq', BitVec.toNat_sshiftRight_of_msb_false (by rw [BitVec.msb_eq_false_iff_two_mul_lt]; omega)]
    show c.toBitVec.toNat >>> 8 % 256 = _
    rw [Nat.shiftRight_eq_div_pow]
    omega
  unfold pairCh
  apply Int32.toBitVec_inj.mp
  apply BitVec.eq_of_toNat_eq
  have f0 : ((0 : Int32) &&& 31) = 0 := by decide
  have f8 : ((8 : Int32) &&& 31) = 8 := by decide
  rw [f0, f8]
  have g : (((lo8 c &&& 255) <<< (0 : Int32)) ||| ((hi8 c &&& 255) <<< (8 : Int32))).toBitVec.toNat = c.toBitVec.toNat := by
    rw [Int32.toBitVec_or, Int32.toBitVec_shiftLeft, Int32.toBitVec_shiftLeft]
    have s0 : ((0 : Int32).toBitVec.smod 32) = 0#32 := by decide
    have s8 : ((8 : Int32).toBitVec.smod 32) = 8#32 := by decide
    rw [s0, s8, BitVec.toNat_or]
    simp only [BitVec.shiftLeft_eq', BitVec.toNat_shiftLeft, a1, a2]
    show (c.toBitVec.toNat % 256) <<< 0 % 2 ^ 32 ||| (c.toBitVec.toNat / 256) <<< 8 % 2 ^ 32 = _
    rw [Nat.shiftLeft_zero, Nat.mod_eq_of_lt (show c.toBitVec.toNat % 256 < 2 ^ 32 by omega), Nat.mod_eq_of_lt (show (c.toBitVec.toNat / 256) <<< 8 < 2 ^ 32 by rw [Nat.shiftLeft_eq]; omega), Nat.or_comm, ← Nat.shiftLeft_add_eq_or_of_lt (by omega), Nat.shiftLeft_eq]
    omega
  show BitVec.toNat (((((lo8 c &&& 255) <<< (0 : Int32)) ||| ((hi8 c &&& 255) <<< (8 : Int32))).toBitVec.setWidth 16).setWidth 32) = _
  rw [BitVec.toNat_setWidth, BitVec.toNat_setWidth, g]
  omega
end StrChars
namespace StrChars
open Jvm Sem ClassFile Op Lib Jvm.Stand Jvm.Free.XT Jvm.Free.ALB Jvm.Free.JM Jvm.Free
open Jvm.Lib.Cold (StaticIs)
/-- the array's cell V codes the n chars f 0 .. f (n - 1) by the coder cd, as the JDK does: coder 1 just where some char is above 255 -/
def Cod (cd : Int32) (n : Nat) (f : Nat → Int32) (V : Cell) : Prop := (cd = 0 ∧ V.slots.size = n ∧ ∀ j, j < n → V.slots[j]? = some (.int (lo8 (f j))) ∧ ¬ 255 < f j) ∨ (cd = 1 ∧ V.slots.size = 2 * n ∧ (∀ j, j < n → V.slots[2 * j]? = some (.int (lo8 (f j))) ∧ V.slots[2 * j + 1]? = some (.int (hi8 (f j)))) ∧ ∃ j, j < n ∧ 255 < f j)
/-- **x is a String of the n chars f 0 .. f (n - 1)**, Latin-1 or UTF-16; its array at t has the cell V -/
def Txt (x t : Addr) (V : Cell) (cd : Int32) (n : Nat) (f : Nat → Int32) (U : State) : Prop := Exact "java/lang/String" x U ∧ Has x "java/lang/String" "value" "[B" (.ref t) U ∧ Has x "java/lang/String" "coder" "B" (.int cd) U ∧ XT.Arr .byte t V U ∧ Cod cd n f V ∧ ∀ j, j < n → ¬ f j < 0 ∧ ¬ 65535 < f j
theorem Txt.mv {x t : Addr} {V : Cell} {cd : Int32} {n : Nat} {f : Nat → Int32} {U U' : State} (h : Txt x t V cd n f U) (hal : U.vm.Alike U'.vm) (hh : U'.heap = U.heap) : Txt x t V cd n f U' := ⟨h.1.mv hal hh, h.2.1.mv hal hh, h.2.2.1.mv hal hh, h.2.2.2.1.mv hal hh, h.2.2.2.2⟩
end StrChars
namespace StrChars.Road
open Jvm Sem ClassFile Op Lib Jvm.Stand Jvm.Free Jvm.Free.XT
open Jvm.Lib.Cold (StaticIs)
theorem consq {a : Array Value} {s : State} {c : Jvm.Cond} {L : List Jvm.Cond} (h0 : c.before a s = true) (h : ∀ w ∈ L, w.before a s = true) : ∀ w ∈ c :: L, w.before a s = true := fun w hw => (List.mem_cons.mp hw).elim (fun e => e ▸ h0) (h w)
/-- the bytes of the chars cs, low before high -/
def wideBytes : List Int32 → List Value
  | [] => []
  | c :: cs => .int (lo8 c) :: .int (hi8 c) :: wideBytes cs
theorem wide_lo (d : Value) : ∀ (cs : List Int32) (j : Nat), j < cs.length → (wideBytes cs).getD (2 * j) d = .int (lo8 (cs.getD j 0))
  | [], j, h => absurd h (Nat.not_lt_zero j)
  | c :: cs, 0, _ => rfl
  | c :: cs, j + 1, h => by
    have q := wide_lo d cs j (by simpa using h)
    rw [show 2 * (j + 1) = 2 * j + 1 + 1 from by omega]
    simpa [wideBytes] using q
theorem wide_hi (d : Value) : ∀ (cs : List Int32) (j : Nat), j < cs.length → (wideBytes cs).getD (2 * j + 1) d = .int (hi8 (cs.getD j 0))
  | [], j, h => absurd h (Nat.not_lt_zero j)
  | c :: cs, 0, _ => rfl
  | c :: cs, j + 1, h => by
    have q := wide_hi d cs j (by simpa using h)
    rw [show 2 * (j + 1) + 1 = 2 * j + 1 + 1 + 1 from by omega]
    simpa [wideBytes] using q
theorem low_at (d : Value) (cs : List Int32) (j : Nat) (h : j < cs.length) : (cs.map fun c => Value.int (lo8 c)).getD j d = .int (lo8 (cs.getD j 0)) := by
  simp [List.getD_eq_getElem?_getD, h]
/-- an array of N2 bytes vs codes the chars cs by the coder cd -/
def CodA (cs : List Int32) (cd N2 : Int32) (vs : List Value) : Prop := (cd = 0 ∧ N2 = Int32.ofNat cs.length ∧ vs = (cs.map fun c => Value.int (lo8 c)) ∧ ∀ c ∈ cs, ¬ 255 < c) ∨ (cd = 1 ∧ N2 = Int32.ofNat (2 * cs.length) ∧ vs = wideBytes cs ∧ ∃ c ∈ cs, 255 < c)
theorem CodA.cod {cs : List Int32} {cd N2 : Int32} {vs : List Value} {V : Cell} (h : CodA cs cd N2 vs) (hn : 2 * cs.length < 2 ^ 31) (hs : V.slots.size = N2.toNatClampNeg) (hv : RoadKit.Has V vs (.int 0)) : Cod cd cs.length (fun j => cs.getD j 0) V := by
  rcases h with ⟨rfl, rfl, rfl, h⟩ | ⟨rfl, rfl, rfl, c, hc, hw⟩
  · rw [n32 (by omega)] at hs
    exact Or.inl ⟨rfl, hs, fun j hj => ⟨by rw [hv j (by omega), low_at _ _ _ hj], by
      have e : cs.getD j 0 = cs[j] := by simp [List.getD_eq_getElem?_getD, hj]
      show ¬ 255 < cs.getD j 0
      rw [e]; exact h _ (List.getElem_mem _)⟩⟩
  · rw [n32 (by omega)] at hs
    obtain ⟨j, hj, rfl⟩ := List.getElem_of_mem hc
    exact Or.inr ⟨rfl, hs, fun j hj => ⟨by rw [hv _ (by omega), wide_lo _ _ _ hj], by rw [hv _ (by omega), wide_hi _ _ _ hj]⟩, j, hj, by
      have e : cs.getD j 0 = cs[j] := by simp [List.getD_eq_getElem?_getD, hj]
      show 255 < cs.getD j 0
      rw [e]; exact hw⟩
/-- an object of exactly java/lang/String, its two fields found: as the laws ask it -/
theorem strObj {Z U : State} {a0 : Array Value} {kI : Nat} (wi : (Jvm.Cond.instantiable ST kI).before a0 Z = true) (al : Z.vm.Alike U.vm) {x : Addr} {v0 c0 : Value} (E : RoadKit.Exa Z U.heap x ST) (V : RoadKit.Fld Z U.heap x ST "value" "[B" v0) (C : RoadKit.Fld Z U.heap x ST "coder" "B" c0) :
    ∃ (D : Cell) (fV fC : Field), Blank ST x D U ∧ Found ST "value" "[B" fV U ∧ Found ST "coder" "B" fC U ∧ D.slots[fV.slot]? = some v0 ∧ D.slots[fC.slot]? = some c0 ∧ RoadKit.slotOf Z ST "value" "[B" = fV.slot ∧ RoadKit.slotOf Z ST "coder" "B" = fC.slot := by
  obtain ⟨D, cfV, kV, iV, fV, hD, gV, stV, knV, obV, asV, slV⟩ := V
  obtain ⟨D', cfC, kC, iC, fC, hD', gC, stC, -, -, asC, slC⟩ := C
  cases hD.symm.trans hD'
  obtain ⟨D2, kD, e1, e2, e3, e4, e5⟩ := E
  cases hD.symm.trans e1
  obtain ⟨c2, k2, i1, i2, i3, -⟩ := Cond.instantiable_spec wi
  cases e2.symm.trans i1
  cases e3.symm.trans i2
  obtain ⟨kU, u1, u2⟩ := al.2.2 _ _ e3
  exact ⟨D, fV, fC, ⟨hD, ⟨knV, fun q hq => by rw [hq] at obV; cases obV⟩, by rw [al.findClass]; exact e2, kU, u1, by rw [u2]; exact i3, by rw [u2]; exact e5 i3⟩, ⟨SBG.found_only al ⟨cfV, kV, iV, gV⟩, stV⟩, ⟨SBG.found_only al ⟨cfC, kC, iC, gC⟩, stC⟩, slV, slC, by simp [RoadKit.slotOf, gV], by simp [RoadKit.slotOf, gC]⟩
theorem sta_is {Z U : State} (al : Z.vm.Alike U.vm) {C n d : String} {v : Value} (S : RoadKit.Sta Z U.heap C n d v) : StaticIs U C n d v := by
  obtain ⟨cfS, iS, kS, fS, st, cS, t1, t2, t3, t4, t5, t6, t7⟩ := S
  exact StaticIs.there (s := { Z with heap := U.heap }) ⟨cfS, iS, kS, fS, st, cS, t1, t2, t3, t4, t5, (fun q => by rw [q] at t6; cases t6), t7⟩ al rfl
end StrChars.Road
namespace StrChars
open Jvm Sem ClassFile Op Lib Jvm.Stand Jvm.Free.XT Jvm.Free.ALB Jvm.Free.JM Jvm.Free
open Jvm.Lib.Cold (StaticIs)
/-- what place i of a byte[]'s cell holds -/
def yv (A : Cell) (i : Nat) : Int32 := match A.slots[i]? with | some (.int x) => x | _ => 0
theorem yv_get {a : Addr} {A : Cell} {U : State} (h : XT.Arr .byte a A U) (ht : Typed .byte A) {i : Nat} (hi : i < A.slots.size) : A.slots[i]? = some (.int (yv A i)) := by
  have e := Array.getElem?_eq_getElem hi
  have f := ht i _ e
  unfold yv; rw [e]
  generalize A.slots[i] = v at f
  cases v <;> simp [fits] at f ⊢
/-- the two arrays are equal, place for place -/
def EqC (A B : Cell) : Prop := A.slots.size = B.slots.size ∧ ∀ i, i < A.slots.size → yv A i = yv B i
/-- a boolean that says whether p -/
def Says01 (q : Prop) (r : Option Value) (s u : State) : Prop := ∃ v : Int32, r = some (.int v) ∧ u.heap = s.heap ∧ ((v = 1 ∧ q) ∨ (v = 0 ∧ ¬ q))
theorem Says01.mv {q : Prop} : ∀ r (U U' V V' : State), U'.heap = U.heap → V.vm.Alike V'.vm → V'.heap = V.heap → Says01 q r U V → Says01 q r U' V' :=
  fun r U U' V V' h1 _ h2 ⟨v, a, b, c⟩ => ⟨v, a, by rw [h1, h2]; exact b, c⟩
namespace LEq
def yN : MethodName := ⟨"java/lang/StringLatin1", "equals", "([B[B)Z"⟩
abbrev yB : ByteArray := jdk_43_method_13_code
theorem d0 : decode yB 0 = .ok (.aload_n 0, 1) := by decide +kernel
theorem d1 : decode yB 1 = .ok (.arraylength, 1) := by decide +kernel
theorem d2 : decode yB 2 = .ok (.aload_n 1, 1) := by decide +kernel
theorem d3 : decode yB 3 = .ok (.arraylength, 1) := by decide +kernel
theorem d4 : decode yB 4 = .ok (.if_icmp (.ne) 30, 3) := by decide +kernel
theorem d7 : decode yB 7 = .ok (.iconst 0, 1) := by decide +kernel
theorem d8 : decode yB 8 = .ok (.istore_n 2, 1) := by decide +kernel
theorem d9 : decode yB 9 = .ok (.iload_n 2, 1) := by decide +kernel
theorem d10 : decode yB 10 = .ok (.aload_n 0, 1) := by decide +kernel
theorem d11 : decode yB 11 = .ok (.arraylength, 1) := by decide +kernel
theorem d12 : decode yB 12 = .ok (.if_icmp (.ge) 20, 3) := by decide +kernel
theorem d15 : decode yB 15 = .ok (.aload_n 0, 1) := by decide +kernel
theorem d16 : decode yB 16 = .ok (.iload_n 2, 1) := by decide +kernel
theorem d17 : decode yB 17 = .ok (.baload, 1) := by decide +kernel
theorem d18 : decode yB 18 = .ok (.aload_n 1, 1) := by decide +kernel
theorem d19 : decode yB 19 = .ok (.iload_n 2, 1) := by decide +kernel
theorem d20 : decode yB 20 = .ok (.baload, 1) := by decide +kernel
theorem d21 : decode yB 21 = .ok (.if_icmp (.eq) 5, 3) := by decide +kernel
theorem d24 : decode yB 24 = .ok (.iconst 0, 1) := by decide +kernel
theorem d25 : decode yB 25 = .ok (.ireturn, 1) := by decide +kernel
theorem d26 : decode yB 26 = .ok (.iinc 2 1, 3) := by decide +kernel
theorem d29 : decode yB 29 = .ok (.goto (-20), 3) := by decide +kernel
theorem d32 : decode yB 32 = .ok (.iconst 1, 1) := by decide +kernel
theorem d33 : decode yB 33 = .ok (.ireturn, 1) := by decide +kernel
theorem d34 : decode yB 34 = .ok (.iconst 0, 1) := by decide +kernel
theorem d35 : decode yB 35 = .ok (.ireturn, 1) := by decide +kernel
def site : List Cond := []
def tab : Cond := tabOf yN yB 3 (some .boolean) site
def P (a : Addr) (A : Cell) (b : Addr) (B : Cell) (args : Array Value) (s : State) : Prop := args = #[.ref a, .ref b] ∧ XT.Arr .byte a A s ∧ Typed .byte A ∧ XT.Arr .byte b B s ∧ Typed .byte B
/-- whether two byte[] are equal, place for place -/
theorem law (l : Launch) (a : Addr) (A : Cell) (b : Addr) (B : Cell) : Law l yN 2 2 0 0 yB 3 (some .boolean) site (P a A b B) (Says01 (EqC A B)) [] 0 0 := by
  refine Law.of_walk (plainFor_of_name (by decide +kernel)) (by decide +kernel) (by decide +kernel) (by decide) (fun _ _ h => by rw [h.1]; rfl) (fun _ U U' hal hh h => ⟨h.1, h.2.1.mv hal hh, h.2.2.1, h.2.2.2.1.mv hal hh, h.2.2.2.2⟩) (fun r U U' V V' h1 hal h2 h => Says01.mv r U U' V V' h1 hal h2 h) ?_
  intro p e s m args below meth c s₁ X0 hexec hbytes hml hret hlk hnm hown hh0 W hP
  obtain ⟨rfl, hA, tA, hB, tB⟩ := hP
  have a31 := hA.2.2.2
  have b31 := hB.2.2.2
  have hA0 := hA.mv X0.warmed.alike hh0
  have hB0 := hB.mv X0.warmed.alike hh0
  have c1 : Steps p.tables e below (s₁.setTop (entryFrame m #[.ref a, .ref b] 3)) (s₁.setTop (mkF m 0 #[.val (.ref a), .val (.ref b), .unset] [])) := entry rfl
  have c2 : Steps p.tables e below (s₁.setTop (entryFrame m #[.ref a, .ref b] 3)) (s₁.setTop (mkF m 4 #[.val (.ref a), .val (.ref b), .unset] [.int (Int32.ofNat B.slots.size), .int (Int32.ofNat A.slots.size)])) := c1.trans (by
    refine XS.aloadN X0.here hexec rfl (hb hbytes d0) rfl rfl ?_
    refine X0.alen hexec hA0 rfl rfl (hb hbytes d1) ?_
    refine XS.aloadN X0.here hexec rfl (hb hbytes d2) rfl rfl ?_
    refine X0.alen hexec hB0 rfl rfl (hb hbytes d3) ?_
    exact Steps.refl _)
  by_cases hs : A.slots.size = B.slots.size
  · have c3 : Steps p.tables e below (s₁.setTop (entryFrame m #[.ref a, .ref b] 3)) (s₁.setTop (mkF m 9 #[.val (.ref a), .val (.ref b), .val (.int 0)] [])) := c2.trans (by
      refine XS.icmpNo X0.here hexec rfl (hb hbytes d4) rfl (ii_ne_f (by rw [hs])) ?_
      refine iconstV X0.here hexec rfl 0 (hb hbytes d7) (by decide) ?_
      refine XS.istoreN X0.here hexec rfl (hb hbytes d8) rfl rfl ?_
      exact Steps.refl _)
    have loop : ∀ (r i : Nat), i + r = A.slots.size → (∀ j, j < i → yv A j = yv B j) → Steps p.tables e below (s₁.setTop (entryFrame m #[.ref a, .ref b] 3)) (s₁.setTop (mkF m 9 #[.val (.ref a), .val (.ref b), .val (.int (Int32.ofNat i))] [])) → ∃ (pc : Nat) (Ls : Array Slot) (v : Int32), (pc = 25 ∨ pc = 33) ∧ ((v = 1 ∧ EqC A B) ∨ (v = 0 ∧ ¬ EqC A B)) ∧ Steps p.tables e below (s₁.setTop (entryFrame m #[.ref a, .ref b] 3)) (s₁.setTop (mkF m pc Ls [.int v])) := by
      intro r
      induction r with
      | zero =>
        intro i hi he cl
        exact ⟨33, _, 1, Or.inr rfl, Or.inl ⟨rfl, hs, fun j hj => he j (by omega)⟩, cl.trans (by
          refine XS.iloadN X0.here hexec rfl (hb hbytes d9) rfl ?_
          refine XS.aloadN X0.here hexec rfl (hb hbytes d10) rfl rfl ?_
          refine X0.alen hexec hA0 rfl rfl (hb hbytes d11) ?_
          refine XS.icmpYes X0.here hexec rfl (pc0 := 12) rfl (hb hbytes d12) rfl (ii_ge_t (nlt32 (by omega) (by omega))) (by decide) rfl ?_
          refine iconstV X0.here hexec rfl 1 (hb hbytes d32) (by decide) ?_
          exact Steps.refl _)⟩
      | succ r ih =>
        intro i hi he cl
        have c4 : Steps p.tables e below (s₁.setTop (entryFrame m #[.ref a, .ref b] 3)) (s₁.setTop (mkF m 21 #[.val (.ref a), .val (.ref b), .val (.int (Int32.ofNat i))] [.int (yv B i), .int (yv A i)])) := cl.trans (by
          refine XS.iloadN X0.here hexec rfl (hb hbytes d9) rfl ?_
          refine XS.aloadN X0.here hexec rfl (hb hbytes d10) rfl rfl ?_
          refine X0.alen hexec hA0 rfl rfl (hb hbytes d11) ?_
          refine XS.icmpNo X0.here hexec rfl (hb hbytes d12) rfl (ii_ge_f (lt32 (by omega) (by omega))) ?_
          refine XS.aloadN X0.here hexec rfl (hb hbytes d15) rfl rfl ?_
          refine XS.iloadN X0.here hexec rfl (hb hbytes d16) rfl ?_
          refine X0.aget hexec hA0 rfl (yv_get hA tA (i := i) (by omega)) rfl rfl (hb hbytes d17) ?_
          refine XS.aloadN X0.here hexec rfl (hb hbytes d18) rfl rfl ?_
          refine XS.iloadN X0.here hexec rfl (hb hbytes d19) rfl ?_
          refine X0.aget hexec hB0 rfl (yv_get hB tB (i := i) (by omega)) rfl rfl (hb hbytes d20) ?_
          exact Steps.refl _)
        by_cases hv : yv A i = yv B i
        · have c5 : Steps p.tables e below (s₁.setTop (entryFrame m #[.ref a, .ref b] 3)) (s₁.setTop (mkF m 9 #[.val (.ref a), .val (.ref b), .val (.int (Int32.ofNat i + 1))] [])) := c4.trans (by
            refine XS.icmpYes X0.here hexec rfl (pc0 := 21) rfl (hb hbytes d21) rfl (ii_eq_t hv) (by decide) rfl ?_
            refine iincV X0.here hexec rfl 1 (hb hbytes d26) (by decide) rfl rfl ?_
            refine XS.goto X0.here hexec rfl (pc0 := 29) rfl (hb hbytes d29) (by decide) rfl ?_
            exact Steps.refl _)
          rw [succ32] at c5
          exact ih (i + 1) (by omega) (fun j hj => by
            by_cases e : j = i
            · rw [e]; exact hv
            · exact he j (by omega)) c5
        · exact ⟨25, _, 0, Or.inl rfl, Or.inr ⟨rfl, fun q => hv (q.2 i (by omega))⟩, c4.trans (by
            refine XS.icmpNo X0.here hexec rfl (hb hbytes d21) rfl (ii_eq_f hv) ?_
            refine iconstV X0.here hexec rfl 0 (hb hbytes d24) (by decide) ?_
            exact Steps.refl _)⟩
    obtain ⟨pc, Ls, v, hpc, hv, cz⟩ := loop A.slots.size 0 (by omega) (fun j hj => absurd hj (Nat.not_lt_zero j)) c3
    have nv : narrow .boolean (.int v) = .int v := by rcases hv with ⟨rfl, -⟩ | ⟨rfl, -⟩ <;> rfl
    rcases hpc with rfl | rfl
    · exact ⟨s₁, some (.int v), _, _, _, X0, rfl, rfl, rfl, (fun h => by cases h), ⟨v, rfl, hh0, hv⟩, fun fs hl => cz.trans (X0.ireturnOut hexec hret nv (Or.inr (Or.inl rfl)) (hb hbytes d25) hl)⟩
    · exact ⟨s₁, some (.int v), _, _, _, X0, rfl, rfl, rfl, (fun h => by cases h), ⟨v, rfl, hh0, hv⟩, fun fs hl => cz.trans (X0.ireturnOut hexec hret nv (Or.inr (Or.inl rfl)) (hb hbytes d33) hl)⟩
  · have c3 : Steps p.tables e below (s₁.setTop (entryFrame m #[.ref a, .ref b] 3)) (s₁.setTop (mkF m 35 #[.val (.ref a), .val (.ref b), .unset] [.int 0])) := c2.trans (by
      refine XS.icmpYes X0.here hexec rfl (pc0 := 4) rfl (hb hbytes d4) rfl (ii_ne_t (ne32 a31 b31 hs)) (by decide) rfl ?_
      refine iconstV X0.here hexec rfl 0 (hb hbytes d34) (by decide) ?_
      exact Steps.refl _)
    exact ⟨s₁, some (.int 0), _, _, _, X0, rfl, rfl, rfl, (fun h => by cases h), ⟨0, rfl, hh0, Or.inr ⟨rfl, fun q => hs q.1⟩⟩, fun fs hl => c3.trans (X0.ireturnOut hexec hret rfl (Or.inr (Or.inl rfl)) (hb hbytes d35) hl)⟩
end LEq
theorem Cod.ty {cd : Int32} {n : Nat} {f : Nat → Int32} {V : Cell} (h : Cod cd n f V) : Typed .byte V := fun i v hv => by
  have hi : i < V.slots.size := (Array.getElem?_eq_some_iff.mp hv).1
  rcases h with ⟨-, k1, k2⟩ | ⟨-, k1, k2, -⟩
  · rw [(k2 i (by omega)).1] at hv; cases hv; exact fits_lo8 _
  · rcases Nat.mod_two_eq_zero_or_one i with e | e
    · obtain ⟨j, rfl⟩ : ∃ j, i = 2 * j := ⟨i / 2, by omega⟩
      rw [(k2 j (by omega)).1] at hv; cases hv; exact fits_lo8 _
    · obtain ⟨j, rfl⟩ : ∃ j, i = 2 * j + 1 := ⟨i / 2, by omega⟩
      rw [(k2 j (by omega)).2] at hv; cases hv; exact fits_lo8 _
/-- the same text -/
def SameT (n : Nat) (f : Nat → Int32) (k : Nat) (g : Nat → Int32) : Prop := n = k ∧ ∀ j, j < n → f j = g j
theorem lo8_inj {x y : Int32} (h0 : ¬ x < 0) (h1 : ¬ 255 < x) (k0 : ¬ y < 0) (k1 : ¬ 255 < y) (h : lo8 x = lo8 y) : x = y := by
  rw [← lo8_mask h0 h1, ← lo8_mask k0 k1, h]
/-- arrays coded by one coder are equal just where the texts are -/
theorem Cod.eqv {cd : Int32} {n k : Nat} {f g : Nat → Int32} {V V' : Cell} (h : Cod cd n f V) (h' : Cod cd k g V') (hf : ∀ j, j < n → ¬ f j < 0 ∧ ¬ 65535 < f j) (hg : ∀ j, j < k → ¬ g j < 0 ∧ ¬ 65535 < g j) : EqC V V' ↔ SameT n f k g := by
  have yvv : ∀ {W : Cell} {i : Nat} {x : Int32}, W.slots[i]? = some (.int x) → yv W i = x := fun q => by unfold yv; rw [q]
  rcases h with ⟨rfl, k1, k2⟩ | ⟨rfl, k1, k2, -⟩
  · rcases h' with ⟨-, m1, m2⟩ | ⟨e, -⟩
    · constructor
      · rintro ⟨e1, e2⟩
        refine ⟨by omega, fun j hj => ?_⟩
        have q := e2 j (by omega)
        rw [yvv (k2 j hj).1, yvv (m2 j (by omega)).1] at q
        exact lo8_inj (hf j hj).1 (k2 j hj).2 (hg j (by omega)).1 (m2 j (by omega)).2 q
      · rintro ⟨rfl, e2⟩
        refine ⟨by omega, fun j hj => ?_⟩
        rw [yvv (k2 j (by omega)).1, yvv (m2 j (by omega)).1, e2 j (by omega)]
    · exact absurd e (by decide)
  · rcases h' with ⟨e, -⟩ | ⟨-, m1, m2, -⟩
    · exact absurd e (by decide)
    · constructor
      · rintro ⟨e1, e2⟩
        refine ⟨by omega, fun j hj => ?_⟩
        have q1 := e2 (2 * j) (by omega)
        have q2 := e2 (2 * j + 1) (by omega)
        rw [yvv (k2 j hj).1, yvv (m2 j (by omega)).1] at q1
        rw [yvv (k2 j hj).2, yvv (m2 j (by omega)).2] at q2
        rw [← pair_says (hf j hj).1 (hf j hj).2, ← pair_says (hg j (by omega)).1 (hg j (by omega)).2, q1, q2]
      · rintro ⟨rfl, e2⟩
        refine ⟨by omega, fun i hi => ?_⟩
        rcases Nat.mod_two_eq_zero_or_one i with e | e
        · obtain ⟨j, rfl⟩ : ∃ j, i = 2 * j := ⟨i / 2, by omega⟩
          rw [yvv (k2 j (by omega)).1, yvv (m2 j (by omega)).1, e2 j (by omega)]
        · obtain ⟨j, rfl⟩ : ∃ j, i = 2 * j + 1 := ⟨i / 2, by omega⟩
          rw [yvv (k2 j (by omega)).2, yvv (m2 j (by omega)).2, e2 j (by omega)]
/-- two codings differ: so do the texts -/
theorem Cod.dif {cd cd' : Int32} {n k : Nat} {f g : Nat → Int32} {V V' : Cell} (h : Cod cd n f V) (h' : Cod cd' k g V') (hne : ¬ cd = cd') : ¬ SameT n f k g := by
  rintro ⟨rfl, e⟩
  rcases h with ⟨rfl, -, k2⟩ | ⟨rfl, -, -, j, hj, hw⟩
  · rcases h' with ⟨rfl, -⟩ | ⟨-, -, -, j, hj, hw⟩
    · exact hne rfl
    · exact (k2 j hj).2 (by rw [e j hj]; exact hw)
  · rcases h' with ⟨-, -, m2⟩ | ⟨rfl, -⟩
    · exact (m2 j hj).2 (by rw [← e j hj]; exact hw)
    · exact hne rfl
/-- an object of exactly C is an instance of C -/
theorem cinst {p : Program} {l : Launch} {e : Env} {R : Room} {s : State} {m : MethodId} {args : Array Value} {below : List Frame} {meth : Method} {c : Code} {T : State} {locs : List Loc} {cells slots : Nat} (X : Stand p l e R s m args below meth c T locs cells slots) (hexec : p.tables.exec = Jvm.exec) {own C : String} {index : Nat} (hown : s.vm.findClass own = some m.cls) (hlink : (Cond.classLink own index C).before args s = true) {a : Addr} (hE : Exact C a T)
    {g : JFrame} (hg : g.method = m) {rest : List Value} (hstack : g.stack = .ref a :: rest) (hdg : decode c.code g.pc = .ok (.instanceof index, 3)) :
    ∃ T', Stand p l e R s m args below meth c T' locs cells slots ∧ T'.heap = T.heap ∧ ∀ target, Steps p.tables e below (T'.setTop { g with pc := g.pc + 3, stack := .int 1 :: rest }) target → Steps p.tables e below (T.setTop g) target := by
  obtain ⟨cB, h1, D, h2, h3, h4⟩ := hE
  have h1' : s.vm.findClass C = some cB := by rw [← X.warmed.alike.findClass]; exact h1
  obtain ⟨vm', X', st⟩ := X.instanceofYes hexec hown hlink h2 h4 h1' (by rw [h3]; exact Jvm.Free.SB.assignable_self _ _) hg hstack hdg
  exact ⟨_, X', rfl, st⟩
theorem cself {p : Program} {l : Launch} {e : Env} {R : Room} {s : State} {m : MethodId} {args : Array Value} {below : List Frame} {meth : Method} {c : Code} {T : State} {locs : List Loc} {cells slots : Nat} (X : Stand p l e R s m args below meth c T locs cells slots) (hexec : p.tables.exec = Jvm.exec) {own C : String} {index : Nat} (hown : s.vm.findClass own = some m.cls) (hlink : (Cond.classLink own index C).before args s = true) {a : Addr} (hE : Exact C a T)
    {g : JFrame} (hg : g.method = m) {rest : List Value} (hstack : g.stack = .ref a :: rest) (hdg : decode c.code g.pc = .ok (.checkcast index, 3)) :
    ∃ T', Stand p l e R s m args below meth c T' locs cells slots ∧ T'.heap = T.heap ∧ ∀ target, Steps p.tables e below (T'.setTop { g with pc := g.pc + 3, stack := .ref a :: rest }) target → Steps p.tables e below (T.setTop g) target := by
  obtain ⟨cB, h1, D, h2, h3, h4⟩ := hE
  have h1' : s.vm.findClass C = some cB := by rw [← X.warmed.alike.findClass]; exact h1
  obtain ⟨vm', X', st⟩ := X.checkcastYes hexec hown hlink h2 h4 h1' (by rw [h3]; exact Jvm.Free.SB.assignable_self _ _) hg hstack hdg
  exact ⟨_, X', rfl, fun t h => st t (by rw [← hstack] at h; exact h)⟩
namespace SEq
def yN : MethodName := ⟨"java/lang/String", "equals", "(Ljava/lang/Object;)Z"⟩
abbrev yB : ByteArray := jdk_42_method_66_code
theorem d0 : decode yB 0 = .ok (.aload_n 0, 1) := by decide +kernel
theorem d1 : decode yB 1 = .ok (.aload_n 1, 1) := by decide +kernel
theorem d2 : decode yB 2 = .ok (.if_acmp (.ne) 5, 3) := by decide +kernel
theorem d5 : decode yB 5 = .ok (.iconst 1, 1) := by decide +kernel
theorem d6 : decode yB 6 = .ok (.ireturn, 1) := by decide +kernel
theorem d7 : decode yB 7 = .ok (.aload_n 1, 1) := by decide +kernel
theorem d8 : decode yB 8 = .ok (.instanceof 10, 3) := by decide +kernel
theorem d11 : decode yB 11 = .ok (.ifCond (.eq) 43, 3) := by decide +kernel
theorem d14 : decode yB 14 = .ok (.aload_n 1, 1) := by decide +kernel
theorem d15 : decode yB 15 = .ok (.checkcast 10, 3) := by decide +kernel
theorem d18 : decode yB 18 = .ok (.astore_n 2, 1) := by decide +kernel
theorem d19 : decode yB 19 = .ok (.getstatic 38, 3) := by decide +kernel
theorem d22 : decode yB 22 = .ok (.ifCond (.eq) 14, 3) := by decide +kernel
theorem d25 : decode yB 25 = .ok (.aload_n 0, 1) := by decide +kernel
theorem d26 : decode yB 26 = .ok (.getfield 15, 3) := by decide +kernel
theorem d29 : decode yB 29 = .ok (.aload_n 2, 1) := by decide +kernel
theorem d30 : decode yB 30 = .ok (.getfield 15, 3) := by decide +kernel
theorem d33 : decode yB 33 = .ok (.if_icmp (.ne) 21, 3) := by decide +kernel
theorem d36 : decode yB 36 = .ok (.aload_n 0, 1) := by decide +kernel
theorem d37 : decode yB 37 = .ok (.getfield 9, 3) := by decide +kernel
theorem d40 : decode yB 40 = .ok (.aload_n 2, 1) := by decide +kernel
theorem d41 : decode yB 41 = .ok (.getfield 9, 3) := by decide +kernel
theorem d44 : decode yB 44 = .ok (.invokestatic 541, 3) := by decide +kernel
theorem d47 : decode yB 47 = .ok (.ifCond (.eq) 7, 3) := by decide +kernel
theorem d50 : decode yB 50 = .ok (.iconst 1, 1) := by decide +kernel
theorem d51 : decode yB 51 = .ok (.goto 4, 3) := by decide +kernel
theorem d54 : decode yB 54 = .ok (.iconst 0, 1) := by decide +kernel
theorem d55 : decode yB 55 = .ok (.ireturn, 1) := by decide +kernel
def site : List Cond := [.classLink "java/lang/String" 10 "java/lang/String", .fieldLink "java/lang/String" 38 "java/lang/String" "COMPACT_STRINGS" "Z", .fieldLink "java/lang/String" 15 "java/lang/String" "coder" "B", .fieldLink "java/lang/String" 9 "java/lang/String" "value" "[B", LEq.tab] ++ staticW "java/lang/String" 541 LEq.yN
def tab : Cond := tabOf yN yB 3 (some .boolean) site
def P (x t : Addr) (V : Cell) (cd : Int32) (n : Nat) (f : Nat → Int32) (y t' : Addr) (V' : Cell) (cd' : Int32) (k : Nat) (g : Nat → Int32) (z : Int32) (args : Array Value) (s : State) : Prop := args = #[.ref x, .ref y] ∧ Txt x t V cd n f s ∧ Txt y t' V' cd' k g s ∧ StaticIs s "java/lang/String" "COMPACT_STRINGS" "Z" (.int z) ∧ ¬ z = 0
/-- equals(Object) of two Strings: whether the texts are the same -/
theorem law (l : Launch) (x t : Addr) (V : Cell) (cd : Int32) (n : Nat) (f : Nat → Int32) (y t' : Addr) (V' : Cell) (cd' : Int32) (k : Nat) (g : Nat → Int32) (z : Int32) : Law l yN 2 1 1 14 yB 3 (some .boolean) site (P x t V cd n f y t' V' cd' k g z) (Says01 (SameT n f k g)) [] 0 0 := by
  refine Law.of_walk (plainFor_of_name (by decide +kernel)) (by decide +kernel) (by decide +kernel) (by decide) (fun _ _ h => by rw [h.1]; rfl) (fun _ U U' hal hh h => ⟨h.1, h.2.1.mv hal hh, h.2.2.1.mv hal hh, h.2.2.2.1.there hal hh, h.2.2.2.2⟩) (fun r U U' V V' h1 hal h2 h => Says01.mv r U U' V V' h1 hal h2 h) ?_
  intro p e s m args below meth c s₁ X0 hexec hbytes hml hret hlk hnm hown hh0 W hP
  obtain ⟨rfl, hx, hy, s1, hz⟩ := hP
  have c1 : Steps p.tables e below (s₁.setTop (entryFrame m #[.ref x, .ref y] 3)) (s₁.setTop (mkF m 2 #[.val (.ref x), .val (.ref y), .unset] [.ref y, .ref x])) := Steps.trans (entry rfl) (by
    show Steps p.tables e below (s₁.setTop (mkF m 0 #[.val (.ref x), .val (.ref y), .unset] [])) _
    refine XS.aloadN X0.here hexec rfl (hb hbytes d0) rfl rfl ?_
    refine XS.aloadN X0.here hexec rfl (hb hbytes d1) rfl rfl ?_
    exact Steps.refl _)
  by_cases hxy : x = y
  · have c2 : Steps p.tables e below (s₁.setTop (entryFrame m #[.ref x, .ref y] 3)) (s₁.setTop (mkF m 6 #[.val (.ref x), .val (.ref y), .unset] [.int 1])) := c1.trans (by
      refine acmpNo X0.here hexec rfl (hb hbytes d2) rfl rfl rfl (by simp [acmp, hxy]) ?_
      refine iconstV X0.here hexec rfl 1 (hb hbytes d5) (by decide) ?_
      exact Steps.refl _)
    subst hxy
    have ec : cd = cd' := by
      obtain ⟨D, fd, a1, a2, a3⟩ := hx.2.2.1
      obtain ⟨D', fd', b1, b2, b3⟩ := hy.2.2.1
      cases a1.symm.trans b1
      obtain ⟨q1, q2, q3, q4⟩ := a2.1
      obtain ⟨r1, r2, r3, r4⟩ := b2.1
      cases q4.symm.trans r4
      cases a3.symm.trans b3; rfl
    have et : t = t' := by
      obtain ⟨D, fd, a1, a2, a3⟩ := hx.2.1
      obtain ⟨D', fd', b1, b2, b3⟩ := hy.2.1
      cases a1.symm.trans b1
      obtain ⟨q1, q2, q3, q4⟩ := a2.1
      obtain ⟨r1, r2, r3, r4⟩ := b2.1
      cases q4.symm.trans r4
      cases a3.symm.trans b3; rfl
    subst ec et
    have ev : V = V' := by cases hx.2.2.2.1.1.symm.trans hy.2.2.2.1.1; rfl
    subst ev
    have hs : SameT n f k g := (Cod.eqv hx.2.2.2.2.1 hy.2.2.2.2.1 hx.2.2.2.2.2 hy.2.2.2.2.2).mp ⟨rfl, fun _ _ => rfl⟩
    exact ⟨s₁, some (.int 1), _, _, _, X0, rfl, rfl, rfl, (fun h => by cases h), ⟨1, rfl, hh0, Or.inl ⟨rfl, hs⟩⟩, fun fs hl => c2.trans (X0.ireturnOut hexec hret rfl (Or.inr (Or.inl rfl)) (hb hbytes d6) hl)⟩
  · have c2 : Steps p.tables e below (s₁.setTop (entryFrame m #[.ref x, .ref y] 3)) (s₁.setTop (mkF m 8 #[.val (.ref x), .val (.ref y), .unset] [.ref y])) := c1.trans (by
      refine acmpYes X0.here hexec rfl (pc0 := 2) rfl (hb hbytes d2) rfl rfl rfl (by simp [acmp, hxy]) (by decide) rfl ?_
      refine XS.aloadN X0.here hexec rfl (hb hbytes d7) rfl rfl ?_
      exact Steps.refl _)
    obtain ⟨T3, X3, q3, st3⟩ := cinst X0 hexec hown (wk W (.classLink "java/lang/String" 10 "java/lang/String")) (hy.mv X0.warmed.alike hh0).1 (g := (mkF m 8 #[.val (.ref x), .val (.ref y), .unset] [.ref y])) rfl (rest := []) rfl (hb hbytes d8)
    have hh3 := q3.trans hh0
    have c4 : Steps p.tables e below (s₁.setTop (entryFrame m #[.ref x, .ref y] 3)) (T3.setTop (mkF m 15 #[.val (.ref x), .val (.ref y), .unset] [.ref y])) := (c2.trans (st3 _ (Steps.refl _))).trans (by
      refine XS.ifNo X3.here hexec rfl (hb hbytes d11) rfl (i0_eq_f (by decide)) ?_
      refine XS.aloadN X3.here hexec rfl (hb hbytes d14) rfl rfl ?_
      exact Steps.refl _)
    obtain ⟨T5, X5, q5, st5⟩ := cself X3 hexec hown (wk W (.classLink "java/lang/String" 10 "java/lang/String")) (hy.mv X3.warmed.alike hh3).1 (g := (mkF m 15 #[.val (.ref x), .val (.ref y), .unset] [.ref y])) rfl (rest := []) rfl (hb hbytes d15)
    have hh5 := q5.trans hh3
    have c6 : Steps p.tables e below (s₁.setTop (entryFrame m #[.ref x, .ref y] 3)) (T5.setTop (mkF m 19 #[.val (.ref x), .val (.ref y), .val (.ref y)] [])) := (c4.trans (st5 _ (Steps.refl _))).trans (by
      refine XS.astoreN X5.here hexec rfl (hb hbytes d18) rfl rfl rfl ?_
      exact Steps.refl _)
    obtain ⟨T7, X7, q7, st7⟩ := X5.sget hexec hown (wk W (.fieldLink "java/lang/String" 38 "java/lang/String" "COMPACT_STRINGS" "Z")) s1 (fun _ _ h => by rw [hh5]; exact h) (g := (mkF m 19 #[.val (.ref x), .val (.ref y), .val (.ref y)] [])) rfl (hb hbytes d19)
    have hh7 := q7.trans hh5
    have c8 : Steps p.tables e below (s₁.setTop (entryFrame m #[.ref x, .ref y] 3)) (T7.setTop (mkF m 26 #[.val (.ref x), .val (.ref y), .val (.ref y)] [.ref x])) := (c6.trans (st7 _ (Steps.refl _))).trans (by
      refine XS.ifNo X7.here hexec rfl (hb hbytes d22) rfl (i0_eq_f hz) ?_
      refine XS.aloadN X7.here hexec rfl (hb hbytes d25) rfl rfl ?_
      exact Steps.refl _)
    obtain ⟨T9, X9, q9, st9⟩ := X7.hget hexec hown (wk W (.fieldLink "java/lang/String" 15 "java/lang/String" "coder" "B")) (hx.mv X7.warmed.alike hh7).2.2.1 (g := (mkF m 26 #[.val (.ref x), .val (.ref y), .val (.ref y)] [.ref x])) rfl (rest := []) rfl (hb hbytes d26)
    have hh9 := q9.trans hh7
    have c10 : Steps p.tables e below (s₁.setTop (entryFrame m #[.ref x, .ref y] 3)) (T9.setTop (mkF m 30 #[.val (.ref x), .val (.ref y), .val (.ref y)] [.ref y, .int cd])) := (c8.trans (st9 _ (Steps.refl _))).trans (by
      refine XS.aloadN X9.here hexec rfl (hb hbytes d29) rfl rfl ?_
      exact Steps.refl _)
    obtain ⟨T11, X11, q11, st11⟩ := X9.hget hexec hown (wk W (.fieldLink "java/lang/String" 15 "java/lang/String" "coder" "B")) (hy.mv X9.warmed.alike hh9).2.2.1 (g := (mkF m 30 #[.val (.ref x), .val (.ref y), .val (.ref y)] [.ref y, .int cd])) rfl (rest := [.int cd]) rfl (hb hbytes d30)
    have hh11 := q11.trans hh9
    have c12 : Steps p.tables e below (s₁.setTop (entryFrame m #[.ref x, .ref y] 3)) (T11.setTop (mkF m 33 #[.val (.ref x), .val (.ref y), .val (.ref y)] [.int cd', .int cd])) := c10.trans (st11 _ (Steps.refl _))
    by_cases hcd : cd = cd'
    · subst hcd
      have c13 : Steps p.tables e below (s₁.setTop (entryFrame m #[.ref x, .ref y] 3)) (T11.setTop (mkF m 37 #[.val (.ref x), .val (.ref y), .val (.ref y)] [.ref x])) := c12.trans (by
        refine XS.icmpNo X11.here hexec rfl (hb hbytes d33) rfl (ii_ne_f rfl) ?_
        refine XS.aloadN X11.here hexec rfl (hb hbytes d36) rfl rfl ?_
        exact Steps.refl _)
      obtain ⟨T14, X14, q14, st14⟩ := X11.hget hexec hown (wk W (.fieldLink "java/lang/String" 9 "java/lang/String" "value" "[B")) (hx.mv X11.warmed.alike hh11).2.1 (g := (mkF m 37 #[.val (.ref x), .val (.ref y), .val (.ref y)] [.ref x])) rfl (rest := []) rfl (hb hbytes d37)
      have hh14 := q14.trans hh11
      have c15 : Steps p.tables e below (s₁.setTop (entryFrame m #[.ref x, .ref y] 3)) (T14.setTop (mkF m 41 #[.val (.ref x), .val (.ref y), .val (.ref y)] [.ref y, .ref t])) := (c13.trans (st14 _ (Steps.refl _))).trans (by
        refine XS.aloadN X14.here hexec rfl (hb hbytes d40) rfl rfl ?_
        exact Steps.refl _)
      obtain ⟨T16, X16, q16, st16⟩ := X14.hget hexec hown (wk W (.fieldLink "java/lang/String" 9 "java/lang/String" "value" "[B")) (hy.mv X14.warmed.alike hh14).2.1 (g := (mkF m 41 #[.val (.ref x), .val (.ref y), .val (.ref y)] [.ref y, .ref t])) rfl (rest := [.ref t]) rfl (hb hbytes d41)
      have hh16 := q16.trans hh14
      have c17 : Steps p.tables e below (s₁.setTop (entryFrame m #[.ref x, .ref y] 3)) (T16.setTop (mkF m 44 #[.val (.ref x), .val (.ref y), .val (.ref y)] [.ref t', .ref t])) := c15.trans (st16 _ (Steps.refl _))
      obtain ⟨v18, T18, X18, E18, g18⟩ := X16.callS hexec (LEq.law l t V t' V') hown (wks W (staticW "java/lang/String" 541 LEq.yN)) (wk W LEq.tab) (W := 0) (Nat.le_of_ble_eq_true rfl) (Nat.le_of_ble_eq_true rfl) (Nat.le_refl _) (Nat.le_refl _) (g := (mkF m 44 #[.val (.ref x), .val (.ref y), .val (.ref y)] [.ref t', .ref t])) rfl (by rw [hml]; rfl) c17 (argsL := [.ref t, .ref t']) (rest := []) rfl rfl (by show 2 * 0 + 0 ≤ _; decide) (hb hbytes d44) (⟨rfl, hx.2.2.2.1.mv X16.warmed.alike hh16, hx.2.2.2.2.1.ty, hy.2.2.2.1.mv X16.warmed.alike hh16, hy.2.2.2.2.1.ty⟩)
      obtain ⟨v, rfl, q18, hv⟩ := E18
      have iff := Cod.eqv hx.2.2.2.2.1 hy.2.2.2.2.1 hx.2.2.2.2.2 hy.2.2.2.2.2
      rcases hv with ⟨rfl, he⟩ | ⟨rfl, he⟩
      · have c19 : Steps p.tables e below (s₁.setTop (entryFrame m #[.ref x, .ref y] 3)) (T18.setTop (mkF m 55 #[.val (.ref x), .val (.ref y), .val (.ref y)] [.int 1])) := Steps.trans g18 (by
          refine XS.ifNo X18.here hexec rfl (hb hbytes d47) rfl (i0_eq_f (by decide)) ?_
          refine iconstV X18.here hexec rfl 1 (hb hbytes d50) (by decide) ?_
          refine XS.goto X18.here hexec rfl (pc0 := 51) rfl (hb hbytes d51) (by decide) rfl ?_
          exact Steps.refl _)
        exact ⟨T18, some (.int 1), _, _, _, X18, rfl, rfl, rfl, (fun h => by cases h), ⟨1, rfl, q18.trans hh16, Or.inl ⟨rfl, iff.mp he⟩⟩, fun fs hl => c19.trans (X18.ireturnOut hexec hret rfl (Or.inr (Or.inl rfl)) (hb hbytes d55) hl)⟩
      · have c19 : Steps p.tables e below (s₁.setTop (entryFrame m #[.ref x, .ref y] 3)) (T18.setTop (mkF m 55 #[.val (.ref x), .val (.ref y), .val (.ref y)] [.int 0])) := Steps.trans g18 (by
          refine XS.ifYes X18.here hexec rfl (pc0 := 47) rfl (hb hbytes d47) rfl (i0_eq_t rfl) (by decide) rfl ?_
          refine iconstV X18.here hexec rfl 0 (hb hbytes d54) (by decide) ?_
          exact Steps.refl _)
        exact ⟨T18, some (.int 0), _, _, _, X18, rfl, rfl, rfl, (fun h => by cases h), ⟨0, rfl, q18.trans hh16, Or.inr ⟨rfl, fun q => he (iff.mpr q)⟩⟩, fun fs hl => c19.trans (X18.ireturnOut hexec hret rfl (Or.inr (Or.inl rfl)) (hb hbytes d55) hl)⟩
    · have c13 : Steps p.tables e below (s₁.setTop (entryFrame m #[.ref x, .ref y] 3)) (T11.setTop (mkF m 55 #[.val (.ref x), .val (.ref y), .val (.ref y)] [.int 0])) := c12.trans (by
        refine XS.icmpYes X11.here hexec rfl (pc0 := 33) rfl (hb hbytes d33) rfl (ii_ne_t hcd) (by decide) rfl ?_
        refine iconstV X11.here hexec rfl 0 (hb hbytes d54) (by decide) ?_
        exact Steps.refl _)
      exact ⟨T11, some (.int 0), _, _, _, X11, rfl, rfl, rfl, (fun h => by cases h), ⟨0, rfl, hh11, Or.inr ⟨rfl, Cod.dif hx.2.2.2.2.1 hy.2.2.2.2.1 hcd⟩⟩, fun fs hl => c13.trans (X11.ireturnOut hexec hret rfl (Or.inr (Or.inl rfl)) (hb hbytes d55) hl)⟩
theorem pays {l : Launch} {R : Room} {p : Program} {e : Env} {below : List Frame} {s : State} {sargs : Array Value} {len W : Nat} (x t : Addr) (V : Cell) (cd : Int32) (n : Nat) (f : Nat → Int32) (y t' : Addr) (V' : Cell) (cd' : Int32) (k : Nat) (g : Nat → Int32) (z : Int32) (htab : tab.before sargs s = true) (hfr : 2 ≤ R.frames) (hlo : W + 28 ≤ R.locals) :
    Back l R p e below s sargs yN len W (fun A₁ a₁ => A₁.cells + 0 ≤ R.cells ∧ A₁.slots + 0 ≤ R.slots ∧ P x t V cd n f y t' V' cd' k g z a₁ A₁.U) (fun A₁ _ v₁ B₁ => Says01 (SameT n f k g) v₁ A₁.U B₁.U ∧ B₁.locs = A₁.locs ++ [] ∧ B₁.cells = A₁.cells + 0 ∧ B₁.slots = A₁.slots + 0) :=
  (law l x t V cd n f y t' V' cd' k g z).pays htab hfr (by omega)
end SEq
end StrChars
namespace StrChars.Road
open Jvm Sem ClassFile Op Lib Jvm.Stand Jvm.Free Jvm.Free.XT
open Jvm.Lib.Cold (StaticIs)
/-- the words of String.equals(Object) -/
abbrev wordsEq : List Jvm.Cond := [.code SEq.yN SEq.yB 3 (some .boolean), .initialized ST, .classLink ST 10 ST, .fieldLink ST 38 ST "COMPACT_STRINGS" "Z", .fieldLink ST 15 ST "coder" "B", .fieldLink ST 9 ST "value" "[B", .methodLink ST 541 LEq.yN, .static LEq.yN, .code LEq.yN LEq.yB 3 (some .boolean), .initialized "java/lang/StringLatin1"]
theorem tabEq_of {a : Array Value} {s : State} (h : ∀ w ∈ wordsEq, w.before a s = true) : SEq.tab.before a s = true := by
  have hl : LEq.tab.before a s = true := unparts (wk h (.code LEq.yN LEq.yB 3 (some .boolean))) (wks h (.initialized LEq.yN.cls :: LEq.site))
  have q := consq hl h
  exact unparts (wk q (.code SEq.yN SEq.yB 3 (some .boolean))) (wks q (.initialized SEq.yN.cls :: SEq.site))
theorem movedEq {Z s : State} {a0 args : Array Value} (hZ : Z.Warmed39 s.vm) (hw : ∀ d ∈ wordsEq, d.before a0 Z = true) : ∀ d ∈ wordsEq, d.before args s = true := fun d hd => by
  have t : ∀ d ∈ wordsEq, (d.onTables && d.keepsFace) = true := by decide +kernel
  exact RoadKit.mv hZ (hw d hd) (t d hd)
/-- the road's facts of a String, as the laws ask it -/
theorem txt_of {Z U : State} {a0 : Array Value} {kI : Nat} (wi : (Jvm.Cond.instantiable ST kI).before a0 Z = true) (al : Z.vm.Alike U.vm) {x t : Addr} {kb : ClassId} {cs : List Int32} {cd N2 : Int32} {vs : List Value} (E : RoadKit.Exa Z U.heap x ST) (V : RoadKit.Fld Z U.heap x ST "value" "[B" (.ref t)) (C : RoadKit.Fld Z U.heap x ST "coder" "B" (.int cd)) (K : RoadKit.Arv Z U.heap t kb .byte N2 vs (.int 0)) (hc : CodA cs cd N2 vs) (hb : ∀ c ∈ cs, ¬ c < 0 ∧ ¬ (65535 : Int32) < c) (l2 : cs.length ≤ 4000) :
    ∃ A, Txt x t A cd cs.length (fun j => cs.getD j 0) U := by
  obtain ⟨A, K1, K2, K3, K4, K5, K6⟩ := K
  have hcod := hc.cod (by omega) K3 K5
  obtain ⟨D, fV, fC, hB, F1, F2, g1, g2, -, -⟩ := strObj wi al E V C
  exact ⟨A, ⟨_, hB.2.2.1, D, hB.1, rfl, by cases q : D.vm <;> first | rfl | exact absurd q (hB.2.1.2 _)⟩, Has.of hB F1 g1, Has.of hB F2 g2, ⟨K1.1, State.isArrayOf_alike al K1.2.1, K1.2.2, by rcases hcod with ⟨-, q, -⟩ | ⟨-, q, -⟩ <;> omega⟩, hcod, fun j hj => by
    have e : cs.getD j 0 = cs[j] := by simp [List.getD_eq_getElem?_getD, hj]
    show ¬ cs.getD j 0 < 0 ∧ ¬ 65535 < cs.getD j 0
    rw [e]; exact hb _ (List.getElem_mem _)⟩
theorem same_list (cs ds : List Int32) : SameT cs.length (fun j => cs.getD j 0) ds.length (fun j => ds.getD j 0) ↔ cs = ds := by
  constructor
  · rintro ⟨e, q⟩
    refine List.ext_getElem e fun j h1 h2 => ?_
    have := q j h1
    simpa [List.getD_eq_getElem?_getD, h1, h2] using this
  · rintro rfl
    exact ⟨rfl, fun _ _ => rfl⟩
/-- **equals(Object) OF TWO SUCH STRINGS**: 1 just where the chars are the same -/
theorem eqW {p : Program} {l : Launch} {e : Env} {R : Room} {s : State} {args : Array Value} {below : List Frame} {len W : Nat} {Z : State} {a0 : Array Value} {h : Heap} (hZ : Z.Warmed39 s.vm) (hw : ∀ d ∈ wordsEq, d.before a0 Z = true) {kI : Nat} (wi : (Jvm.Cond.instantiable ST kI).before a0 Z = true)
    {x t : Addr} {kb : ClassId} {cs : List Int32} {cd N2 : Int32} {vs : List Value} (E : RoadKit.Exa Z h x ST) (V : RoadKit.Fld Z h x ST "value" "[B" (.ref t)) (C : RoadKit.Fld Z h x ST "coder" "B" (.int cd)) (K : RoadKit.Arv Z h t kb .byte N2 vs (.int 0)) (hc : CodA cs cd N2 vs) (hb : ∀ c ∈ cs, ¬ c < 0 ∧ ¬ (65535 : Int32) < c) (l2 : cs.length ≤ 4000)
    {y t' : Addr} {kb' : ClassId} {ds : List Int32} {cd' N2' : Int32} {vs' : List Value} (E' : RoadKit.Exa Z h y ST) (V' : RoadKit.Fld Z h y ST "value" "[B" (.ref t')) (C' : RoadKit.Fld Z h y ST "coder" "B" (.int cd')) (K' : RoadKit.Arv Z h t' kb' .byte N2' vs' (.int 0)) (hc' : CodA ds cd' N2' vs') (hb' : ∀ c ∈ ds, ¬ c < 0 ∧ ¬ (65535 : Int32) < c) (l2' : ds.length ≤ 4000)
    {z : Int32} (S : RoadKit.Sta Z h ST "COMPACT_STRINGS" "Z" (.int z)) (hz : ¬ z = 0) (hfr : 2 ≤ R.frames) (hlo : W + 28 ≤ R.locals) :
    Back l R p e below s args (⟨"java/lang/String", "equals", "(Ljava/lang/Object;)Z"⟩ : MethodName) len W (fun P a => a = #[.ref x, .ref y] ∧ P.U.heap = h ∧ P.cells + 0 ≤ R.cells ∧ P.slots + 0 ≤ R.slots)
      (fun P _ v B => ∃ L, (((v = some (.int 1) ∧ cs = ds) ∨ (v = some (.int 0) ∧ ¬ cs = ds)) ∧ L = [] ∧ B.U.heap = h) ∧ B.locs = P.locs ++ L ∧ B.cells = P.cells + 0 ∧ B.slots = P.slots + 0) := by
  intro m meth c P g ig mk a X hg hsize hdg hW hn hp'
  obtain ⟨rfl, rfl, r1, r2⟩ := hp'
  have al : Z.vm.Alike P.U.vm := hZ.alike.trans X.warmed.alike
  obtain ⟨A, hx⟩ := txt_of wi al E V C K hc hb l2
  obtain ⟨A', hy⟩ := txt_of wi al E' V' C' K' hc' hb' l2'
  obtain ⟨v, B, X', ⟨⟨w, hv, hh, hq⟩, hl, hk, hs⟩, st⟩ := SEq.pays x t A cd cs.length (fun j => cs.getD j 0) y t' A' cd' ds.length (fun j => ds.getD j 0) z (tabEq_of (movedEq hZ hw)) hfr hlo m meth c P g ig mk _ X hg hsize hdg hW hn ⟨r1, r2, rfl, hx, hy, sta_is al S, hz⟩
  refine ⟨v, B, X', ⟨[], ⟨?_, rfl, hh⟩, hl, hk, hs⟩, st⟩
  rcases hq with ⟨rfl, q⟩ | ⟨rfl, q⟩
  · exact Or.inl ⟨hv, (same_list cs ds).mp q⟩
  · exact Or.inr ⟨hv, fun e => q ((same_list cs ds).mpr e)⟩
end StrChars.Road
namespace StrChars.Road
open Jvm Sem ClassFile Op Lib Jvm.Stand Jvm.Free Jvm.Free.XT
open Jvm.Lib.Cold (StaticIs)
/-- what backV says of its String, as the contracts of this text ask it: cs's low bytes, coder 0 -/
theorem codOf {cs : List Int32} {n : Nat} (hn : cs.length = n) (hb : ∀ c ∈ cs, ¬ 255 < c) : CodA cs 0 (Int32.ofNat n) ((cs.map lo8).map Value.int) := Or.inl ⟨rfl, by rw [hn], by simp [List.map_map, Function.comp_def], hb⟩
end StrChars.Road
end Jvm.Pilot.@@N@@

namespace Jvm.Pilot.@@N@@
open Jvm Jvm.ClassFile Sem Op Lib Jvm.Free Jvm.Stand Jvm.LawKit Jvm.RoadKit Bundle Jvm.Pilot.@@N@@.Jvm.D
theorem own_safeN {Z : State} {EL : List (String × Nat)} {vm : Vm} {h h' : Heap} {x : Addr} (H : CHv Z EL vm h) (E : Ext h h') (hx : h.size ≤ x) : Safe Z EL vm h' x := fun B => Safe.new hx ((H.step fun _ _ _ q => E.2 _ _ q).2 _ B)
theorem own_since (s : State) (n : Nat) : s.Since s.vm n := (State.WarmedH.refl s).since n
theorem own_mono {s t : State} {o : Outcome} {L : List Loc} {k n k' n' : Nat} (h : ReturnedEndW s o t L k n) (hk : k ≤ k') (hn : n ≤ n') : ReturnedEndW s o t L k' n' := ⟨h.1, h.2.1, h.2.2.1, h.2.2.2.mono hk hn⟩
theorem own_EW {Z : State} {a0 : Array Value} (hw : ∀ d ∈ tables_1, d.before a0 Z = true) : EW Z a0 consts_1 := (EW.cons (hw _ (List.mem_of_getElem? (i := 18) rfl)) (by decide +kernel) EW.nil)
theorem own_wS {Z : State} {a0 : Array Value} (hw : ∀ d ∈ tables_1, d.before a0 Z = true) : ∀ a ∈ Bundle.stringAtoms, a.before a0 Z = true := fun d hd => by
  simp only [Bundle.stringAtoms, List.mem_cons, List.not_mem_nil, or_false] at hd
  rcases hd with rfl | rfl | rfl | rfl | rfl | rfl | rfl
  · exact (hw _ (List.mem_of_getElem? (i := 7) rfl))
  · exact (hw _ (List.mem_of_getElem? (i := 6) rfl))
  · exact (hw _ (List.mem_of_getElem? (i := 19) rfl))
  · exact (hw _ (List.mem_of_getElem? (i := 20) rfl))
  · exact (hw _ (List.mem_of_getElem? (i := 21) rfl))
  · exact (hw _ (List.mem_of_getElem? (i := 22) rfl))
  · exact (hw _ (List.mem_of_getElem? (i := 23) rfl))
theorem own_wNew {Z : State} {a0 : Array Value} (hw : ∀ d ∈ tables_1, d.before a0 Z = true) : ∀ d ∈ StrChars.Road.words, d.before a0 Z = true := fun d hd => hw d ((by decide +kernel : ∀ d ∈ StrChars.Road.words, d ∈ tables_1) d hd)
theorem own_wEq {Z : State} {a0 : Array Value} (hw : ∀ d ∈ tables_1, d.before a0 Z = true) : ∀ d ∈ StrChars.Road.wordsEq, d.before a0 Z = true := fun d hd => hw d ((by decide +kernel : ∀ d ∈ StrChars.Road.wordsEq, d ∈ tables_1) d hd)
theorem own_up {cs : List Int32} (h : ∀ c ∈ cs, ¬ c < 0 ∧ ¬ (255 : Int32) < c) : ∀ c ∈ cs, ¬ c < 0 ∧ ¬ (65535 : Int32) < c := fun c hc => ⟨(h c hc).1, fun q => (h c hc).2 (by rw [Int32.lt_iff_toInt_lt] at q ⊢; have e1 : (65535 : Int32).toInt = 65535 := rfl; have e2 : (255 : Int32).toInt = 255 := rfl; omega)⟩
def own_eqs (cs ds : List Int32) : Int32 := if cs = ds then 1 else 0
theorem own_nsroot {Z : State} {a0 : Array Value} {O K : String} {n : Nat} (w : (Jvm.Cond.noSuperclass O).before a0 Z = true) (wk : (Jvm.Cond.instantiable K n).before a0 Z = true) (hn : O ≠ K) : NS Z O K := by
  obtain ⟨c, k, h1, h2, h3, -, -⟩ := Cond.noSuperclass_spec w
  obtain ⟨t, k', g1, g2, -⟩ := Cond.instantiable_spec wk
  have ne := ids_ne h1 g1 hn
  refine ⟨c, t, h1, g1, fun fuel => ?_⟩
  cases fuel with
  | zero => rfl
  | succ f => simp [Vm.isSubclassAux, ne, h2, h3]
theorem own_nsno {Z : State} {a0 : Array Value} {C S K : String} {n : Nat} (w : (Jvm.Cond.superclass C S).before a0 Z = true) (wk : (Jvm.Cond.instantiable K n).before a0 Z = true) (N : NS Z C K) (hn : C ≠ K) : ∃ c t, Z.vm.findClass C = some c ∧ Z.vm.findClass K = some t ∧ Z.vm.assignable c t = false := by
  obtain ⟨c, t, h0, g0, n3⟩ := N
  obtain ⟨p, k, kp, h1, h2, h3, h4, h5, -, h7⟩ := Cond.superclass_spec h0 w
  obtain ⟨t', k', g1, g2, g3, g4, -⟩ := Cond.instantiable_spec wk
  cases g0.symm.trans g1
  have ne := ids_ne h0 g0 hn
  have g5 : k'.isInterface = false := by simp only [Bool.or_eq_false_iff] at g4; exact g4.1
  refine ⟨c, t, h0, g0, ?_⟩
  show Z.vm.assignableAux (255 + 1) c t = false
  simp [Vm.assignableAux, ne, h2, g2, h5, g3, g5, Vm.isSubclass, n3]
theorem own_ey {cs ds : List Int32} (h : cs = ds) : ¬ own_eqs cs ds = 0 := by
  unfold own_eqs
  rw [if_pos h]; decide
theorem own_en {cs ds : List Int32} (h : ¬ cs = ds) : own_eqs cs ds = 0 := by
  unfold own_eqs
  rw [if_neg h]
theorem own_safe0 {Z : State} {a0 : Array Value} {EL : List (String × Nat)} {vm : Vm} {h : Heap} {x : Addr} (hZ : Z.Warmed39 vm) (wi : (Jvm.Cond.instantiable "java/lang/String" 4).before a0 Z = true) (E : Exa Z h x "java/lang/String") (F : Fld Z h x "java/lang/String" "value" "[B" .null) : Safe Z EL vm h x := fun B => by
  obtain ⟨p, -, u, a, -, q, hqa, G, hx⟩ := B
  obtain ⟨cS, ⟨⟨s1, s2, s3, ⟨cv, kv, iv, s4, s4'⟩, ⟨cc, kc, ic, s5, s5'⟩, s6, s7, s8, s9, s10, s11, s12, s13, s14, s15, s16⟩, hfS, hcS⟩, ⟨kS, k1, k2, k3⟩, hB, hbyt⟩ := G
  rcases hx with hx | hx
  · obtain ⟨cell, cf, k, i, f, e1, e2, e3, e4, e5, e6, e7⟩ := F
    obtain ⟨kv', z4⟩ := ff_back (U := Wst Z vm h) hZ.alike s4
    cases e2.symm.trans z4
    have s1' : h[q.sa]? = some q.sC := s1
    rw [← hx, e1] at s1'
    cases s1'
    rw [e7] at s8
    cases s8
  · obtain ⟨cell, k, e1, e2, e3, e4, e5⟩ := E
    have s10' : h[q.sd]? = some q.SA := s10
    rw [← hx, e1] at s10'
    cases s10'
    obtain ⟨-, k9, hk9, comp, hkind9⟩ := s11
    obtain ⟨c1, kk, f1, f2, f3, -⟩ := Cond.instantiable_spec wi
    cases e2.symm.trans f1
    obtain ⟨k', q1, q2⟩ := hZ.alike.2.2 _ _ f2
    have hk9' : vm.classes[q.SA.cls]? = some k9 := hk9
    have e9 : k9 = k' := Option.some.inj (hk9'.symm.trans q1)
    rw [e9, q2, f3] at hkind9
    cases hkind9
theorem own_c (x : Int32) : 0 ≤ (x.toUInt32.toUInt16.toUInt32.toInt32).toInt ∧ (x.toUInt32.toUInt16.toUInt32.toInt32).toInt < 65536 ∧ (0 ≤ x.toInt → x.toInt < 65536 → (x.toUInt32.toUInt16.toUInt32.toInt32).toInt = x.toInt) := by
  have := c_i2c x
  omega
theorem own_b {x : Int32} (h : 0 ≤ x.toInt ∧ x.toInt < 256) : ¬ x < 0 ∧ ¬ (255 : Int32) < x := by
  rw [Int32.lt_iff_toInt_lt, Int32.lt_iff_toInt_lt, show (0 : Int32).toInt = 0 from rfl, show (255 : Int32).toInt = 255 from rfl]
  omega
theorem own_bI (x : Int32) : ¬ ((x &&& (255 : Int32)).toUInt32.toUInt16.toUInt32.toInt32).toUInt32.toUInt16.toUInt32.toInt32 < 0 ∧ ¬ (255 : Int32) < ((x &&& (255 : Int32)).toUInt32.toUInt16.toUInt32.toInt32).toUInt32.toUInt16.toUInt32.toInt32 := by
  have e := c_mask x 255 8 (by decide) (by decide)
  have f := own_c (x &&& 255)
  have g := own_c ((x &&& (255 : Int32)).toUInt32.toUInt16.toUInt32.toInt32)
  exact own_b (by omega)
theorem own_m3 (y : Int32) : (y &&& (3 : Int32)) - (y &&& (3 : Int32)) / (3 : Int32) * (3 : Int32) = 0 ∨ (y &&& (3 : Int32)) - (y &&& (3 : Int32)) / (3 : Int32) * (3 : Int32) = 1 ∨ (y &&& (3 : Int32)) - (y &&& (3 : Int32)) / (3 : Int32) * (3 : Int32) = 2 := by
  have e := c_mask y 3 2 (by decide) (by decide)
  have h : (y &&& (3 : Int32)) = 0 ∨ (y &&& (3 : Int32)) = 1 ∨ (y &&& (3 : Int32)) = 2 ∨ (y &&& (3 : Int32)) = 3 := by
    simp only [← Int32.toInt_inj, show (0 : Int32).toInt = 0 from rfl, show (1 : Int32).toInt = 1 from rfl, show (2 : Int32).toInt = 2 from rfl, show (3 : Int32).toInt = 3 from rfl]
    omega
  rcases h with h | h | h | h <;> rw [h] <;> decide
def own_e (i j v w : Int32) (cs ds : List Int32) : Int32 := if i = j then (if v = w then (if own_eqs cs ds = 0 then 0 else 1) else 0) else 0
theorem own_e1 (i j v w : Int32) {cs ds : List Int32} (h : cs = ds) : own_e i j v w cs ds = (if i = j then (if v = w then (1 : Int32) else (0 : Int32)) else (0 : Int32)) := by
  simp only [own_e, if_neg (own_ey h)]
theorem own_e0 (i j v w : Int32) {cs ds : List Int32} (h : ¬ cs = ds) : own_e i j v w cs ds = (0 : Int32) := by
  simp [own_e, own_en h]
theorem own_sym (i j v w : Int32) (cs ds : List Int32) : own_e j i w v ds cs = own_e i j v w cs ds := by
  unfold own_e own_eqs
  have h1 : (j = i) = (i = j) := propext ⟨Eq.symm, Eq.symm⟩
  have h2 : (w = v) = (v = w) := propext ⟨Eq.symm, Eq.symm⟩
  have h3 : (ds = cs) = (cs = ds) := propext ⟨Eq.symm, Eq.symm⟩
  simp only [h1, h2, h3]
theorem own_q1 (i j v w c c' : Int32) {sm ve : Int32} (hsm : sm = (if c = c' then (1 : Int32) else (0 : Int32))) (hve : ve = (if i = j then (if v = w then (if sm = (0 : Int32) then (0 : Int32) else (1 : Int32)) else (0 : Int32)) else (0 : Int32))) : own_e i j v w [c] [c'] = ve := by
  have h : own_eqs [c] [c'] = sm := by rw [hsm]; simp [own_eqs]
  rw [hve, own_e, h]
theorem own_q2 (i j v w c c' d d' : Int32) {sm ve : Int32} (hsm : sm = (if c = c' then (if d = d' then (1 : Int32) else (0 : Int32)) else (0 : Int32))) (hve : ve = (if i = j then (if v = w then (if sm = (0 : Int32) then (0 : Int32) else (1 : Int32)) else (0 : Int32)) else (0 : Int32))) : own_e i j v w [c, d] [c', d'] = ve := by
  have h : own_eqs [c, d] [c', d'] = sm := by
    rw [hsm]
    by_cases h1 : c = c' <;> by_cases h2 : d = d' <;> simp [own_eqs, h1, h2]
  rw [hve, own_e, h]
theorem own_rfl (i v : Int32) (cs : List Int32) : ¬ own_e i i v v cs cs = 0 := by
  rw [own_e1 _ _ _ _ rfl, if_pos rfl, if_pos rfl]; decide
theorem own_hp0 : ∀ c ∈ ([] : List Int32), ¬ c < 0 ∧ ¬ (255 : Int32) < c := fun _ h => nomatch h
theorem own_hp1 {c : Int32} (h : ¬ c < 0 ∧ ¬ (255 : Int32) < c) : ∀ x ∈ [c], ¬ x < 0 ∧ ¬ (255 : Int32) < x := fun x hx => by
  rcases List.mem_cons.mp hx with rfl | hx
  · exact h
  · exact own_hp0 x hx
theorem own_hp2 {c d : Int32} (h : ¬ c < 0 ∧ ¬ (255 : Int32) < c) (h' : ¬ d < 0 ∧ ¬ (255 : Int32) < d) : ∀ x ∈ [c, d], ¬ x < 0 ∧ ¬ (255 : Int32) < x := fun x hx => by
  rcases List.mem_cons.mp hx with rfl | hx
  · exact h
  · exact own_hp1 h' x hx
theorem own_ixI {q : Int32} (h1 : ¬ q < (-128 : Int32)) (h2 : ¬ (127 : Int32) < q) : ¬ ((q + (128 : Int32)) < 0 ∨ (256 : Int32).toNatClampNeg ≤ (q + (128 : Int32)).toNatClampNeg) := by
  rw [Int32.lt_iff_toInt_lt, show (-128 : Int32).toInt = -128 from rfl] at h1
  rw [Int32.lt_iff_toInt_lt, show (127 : Int32).toInt = 127 from rfl] at h2
  have e2 := c_iadd q 128
  have r2 := rng32 (q + 128)
  simp only [show (128 : Int32).toInt = 128 from rfl] at e2
  rw [Int32.lt_iff_toInt_lt, show (0 : Int32).toInt = 0 from rfl, show (256 : Int32).toNatClampNeg = 256 from rfl]
  simp only [Int32.toNatClampNeg]
  omega
def own_vI (j : Int32) : Value := .int (j - 128)
theorem own_noS {Z : State} {a0 : Array Value} (hw : ∀ d ∈ tables_1, d.before a0 Z = true) : ∃ c t, Z.vm.findClass "java/lang/String" = some c ∧ Z.vm.findClass "com/example/whirligig/whirligig/DownloadInfoIndication$Unreadable" = some t ∧ Z.vm.assignable c t = false := own_nsno (hw _ (List.mem_of_getElem? (i := 62) rfl)) (hw _ (List.mem_of_getElem? (i := 27) rfl)) (NS.step (hw _ (List.mem_of_getElem? (i := 62) rfl)) (own_nsroot (hw _ (List.mem_of_getElem? (i := 63) rfl)) (hw _ (List.mem_of_getElem? (i := 27) rfl)) (by decide)) (by decide)) (by decide)
theorem own_noI {Z : State} {a0 : Array Value} (hw : ∀ d ∈ tables_1, d.before a0 Z = true) : ∃ c t, Z.vm.findClass "java/lang/Integer" = some c ∧ Z.vm.findClass "com/example/whirligig/whirligig/DownloadInfoIndication$Unreadable" = some t ∧ Z.vm.assignable c t = false := own_nsno (hw _ (List.mem_of_getElem? (i := 71) rfl)) (hw _ (List.mem_of_getElem? (i := 27) rfl)) (NS.step (hw _ (List.mem_of_getElem? (i := 71) rfl)) (NS.step (hw _ (List.mem_of_getElem? (i := 72) rfl)) (own_nsroot (hw _ (List.mem_of_getElem? (i := 63) rfl)) (hw _ (List.mem_of_getElem? (i := 27) rfl)) (by decide)) (by decide)) (by decide)) (by decide)
theorem d3_0 : decode jdk_42_method_149_code 0 = .ok (.aload_n 0, 1) := by decide +kernel
theorem d3_1 : decode jdk_42_method_149_code 1 = .ok (.invokespecial 1, 3) := by decide +kernel
theorem d3_4 : decode jdk_42_method_149_code 4 = .ok (.iload_n 3, 1) := by decide +kernel
theorem d3_5 : decode jdk_42_method_149_code 5 = .ok (.ifCond .ne 22, 3) := by decide +kernel
theorem d3_8 : decode jdk_42_method_149_code 8 = .ok (.aload_n 0, 1) := by decide +kernel
theorem d3_9 : decode jdk_42_method_149_code 9 = .ok (.ldc 7, 2) := by decide +kernel
theorem d3_11 : decode jdk_42_method_149_code 11 = .ok (.getfield 9, 3) := by decide +kernel
theorem d3_14 : decode jdk_42_method_149_code 14 = .ok (.putfield 9, 3) := by decide +kernel
theorem d3_17 : decode jdk_42_method_149_code 17 = .ok (.aload_n 0, 1) := by decide +kernel
theorem d3_18 : decode jdk_42_method_149_code 18 = .ok (.ldc 7, 2) := by decide +kernel
theorem d3_20 : decode jdk_42_method_149_code 20 = .ok (.getfield 15, 3) := by decide +kernel
theorem d3_23 : decode jdk_42_method_149_code 23 = .ok (.putfield 15, 3) := by decide +kernel
theorem d3_26 : decode jdk_42_method_149_code 26 = .ok (.return_, 1) := by decide +kernel
theorem pn_java_lang_String : plainName "java/lang/String" = true := by first | (simp [plainName, overriddenIn]; done) | decide +kernel
theorem ef_3_e (m : MethodId) (x0 : Addr) (x1 : Addr) : entryFrame m #[(.ref x0), (.ref x1), (.int (0 : Int32)), (.int (0 : Int32)), .null] 6 = mkF m 0 #[.val (.ref x0), .val (.ref x1), .val (.int (0 : Int32)), .val (.int (0 : Int32)), .val .null, .unset] [] := by first | (simp [entryFrame, mkF, argsToLocals, Value.category]; done) | rfl
def Q3_e (Z : State) (a : Addr) (b : Addr) (h0 : Heap) (n0 : Nat) (v : Option Value) (h : Heap) (L : List Loc) : Prop := ∃ t1 : Addr, ∃ kb : ClassId, v = none ∧ Fr n0 L ∧ Keep h0 h [a] ∧ Fld Z h a "java/lang/String" "value" "[B" (.ref t1) ∧ Fld Z h a "java/lang/String" "coder" "B" (.int (0 : Int32)) ∧ Arv Z h t1 kb .byte (0 : Int32) [] (.int (0 : Int32))
set_option maxRecDepth 65536 in
set_option maxHeartbeats 40000000 in
theorem rm3_e (l : Launch) (Z : State) (a0 : Array Value) (hw : ∀ d ∈ tables_1, d.before a0 Z = true) (ws : List Jvm.Cond) (a : Addr) (b : Addr) (h0 : Heap) (n0 : Nat) (O0 : Old Z n0 h0) (E_a : Exa Z h0 a "java/lang/String") (F_v_a : Fld Z h0 a "java/lang/String" "value" "[B" .null) (F_c_a : Fld Z h0 a "java/lang/String" "coder" "B" (.int (0 : Int32))) (g_a : n0 ≤ a) :
    MetFree l (⟨"java/lang/String", "<init>", "([CIILjava/lang/Void;)V"⟩ : MethodName) (head1 (Jvm.Cond.code (⟨"java/lang/String", "<init>", "([CIILjava/lang/Void;)V"⟩ : MethodName) jdk_42_method_149_code 6 none :: ws) ({ frames := 1, cells := 4, slots := 8, locals := 12 } : Room)) (fun aA uU => aA = #[(.ref a), (.ref b), (.int (0 : Int32)), (.int (0 : Int32)), .null] ∧ Z.Warmed39 uU.vm ∧ uU.heap = h0 ∧ CHv Z consts_1 uU.vm h0) (fun _ _ _ _ _ => True) (fun _ uU oO uU' => ∃ vV lL, oO = .returned vV ∧ Q3_e Z a b  h0 n0 vV uU'.heap lL ∧ CHr Z consts_1 uU.vm uU.heap uU'.vm uU'.heap ∧ ReturnedEndW uU oO uU' lL ({ frames := 1, cells := 4, slots := 8, locals := 12 } : Room).cells ({ frames := 1, cells := 4, slots := 8, locals := 12 } : Room).slots) := by
  refine MetFree.of_bodySF (plainFor_of_name pn_java_lang_String) hisR ?_
  intro p e s m args below meth c s₁ Bd hml0 hP hK
  obtain ⟨rfl, hZ, hh, H0⟩ := hP
  have hx := Bd.exec
  have hby := Bd.bytes
  have hml : c.maxLocals = 6 := hml0
  have hown : s.vm.findClass "java/lang/String" = some m.cls := findClass_of_methodNamed Bd.named
  have hnm := (name_of_methodNamed Bd.named Bd.method).1
  have X0 : Stand p l e ({ frames := 1, cells := 4, slots := 8, locals := 12 } : Room) (s.setVm s.vm) m #[(.ref a), (.ref b), (.int (0 : Int32)), (.int (0 : Int32)), .null] below meth c s₁ [] 0 0 := Stand.of_body Bd
  have e0 : s₁.heap = h0 := by rw [← hh, Bd.state]; rfl
  have N0 := Fr.nil n0
  have O := O0
  have K := Keep.refl h0 [a]
  have hS : s.Since s.vm h0.size := own_since s _
  have hk : h0.size ≤ h0.size := Nat.le_refl _
  have C : CHr Z consts_1 s.vm h0 s.vm h0 := CHr.refl H0
  have hEL := own_EW hw
  have hSA := own_wS hw
  have pre0 : ∀ t, Steps p.tables e below (s₁.setTop (mkF m 0 #[.val (.ref a), .val (.ref b), .val (.int (0 : Int32)), .val (.int (0 : Int32)), .val .null, .unset] [])) t → Steps p.tables e below (s₁.setTop (entryFrame m #[(.ref a), (.ref b), (.int (0 : Int32)), (.int (0 : Int32)), .null] 6)) t := fun t k => castTop (ef_3_e m a b) k
  have sf_a := own_safe0 (EL := consts_1) hZ (hw _ (List.mem_of_getElem? (i := 6) rfl)) E_a F_v_a
  obtain ⟨T1, X1, e1, st1⟩ := initO X0 hx hZ hown (hw _ (List.mem_of_getElem? (i := 15) rfl)) (hw _ (List.mem_of_getElem? (i := 16) rfl)) (hw _ (List.mem_of_getElem? (i := 17) rfl)) e0 (g := (mkF m 1 #[.val (.ref a), .val (.ref b), .val (.int (0 : Int32)), .val (.int (0 : Int32)), .val .null, .unset] [(.ref a)])) rfl (by rw [hml]; rfl) rfl (hb hby d3_1) (by decide) (W := 0) (by show 2 * 0 + _ ≤ _; exact Nat.le_of_eq rfl) (by decide)
  obtain ⟨a2, T2, h2, kk2, b2, kb2, X2, e2, E2, hS, hk', hZ, hown, Ex2, Fc2, Fv2, Av2, -, -, R2, -, Sf2, st2⟩ := ldcCH X1 hx hZ hown (hw _ (List.mem_of_getElem? (i := 18) rfl)) hSA e1 hS hk hEL (List.mem_of_getElem? (i := 0) rfl) C.1 (vs := []) (z := (0 : Int32)) ⟨by decide +kernel, by decide +kernel⟩ (by decide) rfl (g := (mkF m 9 #[.val (.ref a), .val (.ref b), .val (.int (0 : Int32)), .val (.int (0 : Int32)), .val .null, .unset] [(.ref a)])) rfl (hb hby d3_9) (n := 0) (by decide +kernel) (by decide) (by decide) (by decide)
  have R := R2
  have sf_a := R.safe E_a.lt sf_a
  have C := C.trans R
  have hk := hk'
  have E_a := E_a.ext E2
  have F_v_a := F_v_a.ext E2
  have F_c_a := F_c_a.ext E2
  have O := O.ext E2
  have K := K.ext E2
  have ne_a_a2 := (Sf2 _ sf_a).1
  have ne_a_b2 := (Sf2 _ sf_a).2
  obtain ⟨T3, X3, e3, st3⟩ := getF X2 hx hZ hown (host := "") (Or.inl (hw _ (List.mem_of_getElem? (i := 24) rfl))) Via.refl e2 Fv2 (g := (mkF m 11 #[.val (.ref a), .val (.ref b), .val (.int (0 : Int32)), .val (.int (0 : Int32)), .val .null, .unset] [(.ref a2), (.ref a)])) rfl rfl (hb hby d3_11)
  obtain ⟨T4, h4, X4, e4, W4, st4⟩ := putF X3 hx hZ hown (host := "") (Or.inl (hw _ (List.mem_of_getElem? (i := 24) rfl))) Via.refl e3 F_v_a E_a (Or.inr ⟨(hw _ (List.mem_of_getElem? (i := 20) rfl)), rfl, hnm⟩) (hw _ (List.mem_of_getElem? (i := 6) rfl)) (ty := (.array .byte)) (by decide) rfl rfl (g := (mkF m 14 #[.val (.ref a), .val (.ref b), .val (.int (0 : Int32)), .val (.int (0 : Int32)), .val .null, .unset] [(.ref b2), (.ref a)])) rfl rfl (hb hby d3_14)
  have R := CHr.wr W4 sf_a C.1
  have sf_a := R.safe E_a.lt sf_a
  have C := C.trans R
  have F_v_a := F_v_a.same W4
  have hk := (by rw [W4.size]; exact hk : _ ≤ Array.size h4)
  have E_a := E_a.wr W4
  have F_c_a := F_c_a.other W4 (Or.inr (slot_ne (Or.inr (hw _ (List.mem_of_getElem? (i := 21) rfl))) (Or.inr (hw _ (List.mem_of_getElem? (i := 20) rfl))) (by decide) (t := .byte) (t' := (.array .byte)) (by decide) (by decide)))
  have Ex2 := Ex2.wr W4
  have Fc2 := Fc2.other W4 (Or.inl (Ne.symm ne_a_a2))
  have Fv2 := Fv2.other W4 (Or.inl (Ne.symm ne_a_a2))
  have Av2 := Av2.other W4 (Ne.symm ne_a_b2)
  have O := O.wr W4 g_a
  have K := K.wr W4 (Or.inl (List.mem_of_getElem? (i := 0) rfl))
  have N4 := Fr.snoc X4 N0 g_a
  obtain ⟨a5, T5, h5, kk5, b5, kb5, X5, e5, E5, hS, hk', hZ, hown, Ex5, Fc5, Fv5, Av5, -, -, R5, -, Sf5, st5⟩ := ldcCH X4 hx hZ hown (hw _ (List.mem_of_getElem? (i := 18) rfl)) hSA e4 hS hk hEL (List.mem_of_getElem? (i := 0) rfl) C.1 (vs := []) (z := (0 : Int32)) ⟨by decide +kernel, by decide +kernel⟩ (by decide) rfl (g := (mkF m 18 #[.val (.ref a), .val (.ref b), .val (.int (0 : Int32)), .val (.int (0 : Int32)), .val .null, .unset] [(.ref a)])) rfl (hb hby d3_18) (n := 0) (by decide +kernel) (by decide) (by decide) (by decide)
  have R := R5
  have sf_a := R.safe E_a.lt sf_a
  have C := C.trans R
  have hk := hk'
  have E_a := E_a.ext E5
  have F_v_a := F_v_a.ext E5
  have F_c_a := F_c_a.ext E5
  have Ex2 := Ex2.ext E5
  have Fc2 := Fc2.ext E5
  have Fv2 := Fv2.ext E5
  have Av2 := Av2.ext E5
  have O := O.ext E5
  have K := K.ext E5
  have ne_a_a5 := (Sf5 _ sf_a).1
  have ne_a_b5 := (Sf5 _ sf_a).2
  obtain ⟨T6, X6, e6, st6⟩ := getF X5 hx hZ hown (host := "") (Or.inl (hw _ (List.mem_of_getElem? (i := 25) rfl))) Via.refl e5 Fc5 (g := (mkF m 20 #[.val (.ref a), .val (.ref b), .val (.int (0 : Int32)), .val (.int (0 : Int32)), .val .null, .unset] [(.ref a5), (.ref a)])) rfl rfl (hb hby d3_20)
  obtain ⟨T7, h7, X7, e7, W7, st7⟩ := putFN X6 hx hZ hown (hw _ (List.mem_of_getElem? (i := 25) rfl)) Via.refl e6 F_c_a E_a (Or.inr ⟨(hw _ (List.mem_of_getElem? (i := 21) rfl)), rfl, hnm⟩) (hw _ (List.mem_of_getElem? (i := 6) rfl)) (ty := .byte) (v' := (.int (0 : Int32))) (by decide) rfl rfl (g := (mkF m 23 #[.val (.ref a), .val (.ref b), .val (.int (0 : Int32)), .val (.int (0 : Int32)), .val .null, .unset] [(.int (0 : Int32)), (.ref a)])) rfl rfl (hb hby d3_23)
  have R := CHr.wr W7 sf_a C.1
  have sf_a := R.safe E_a.lt sf_a
  have C := C.trans R
  have F_c_a := F_c_a.same W7
  have hk := (by rw [W7.size]; exact hk : _ ≤ Array.size h7)
  have E_a := E_a.wr W7
  have F_v_a := F_v_a.other W7 (Or.inr (slot_ne (Or.inr (hw _ (List.mem_of_getElem? (i := 20) rfl))) (Or.inr (hw _ (List.mem_of_getElem? (i := 21) rfl))) (by decide) (t := (.array .byte)) (t' := .byte) (by decide) (by decide)))
  have Ex2 := Ex2.wr W7
  have Fc2 := Fc2.other W7 (Or.inl (Ne.symm ne_a_a2))
  have Fv2 := Fv2.other W7 (Or.inl (Ne.symm ne_a_a2))
  have Av2 := Av2.other W7 (Ne.symm ne_a_b2)
  have Ex5 := Ex5.wr W7
  have Fc5 := Fc5.other W7 (Or.inl (Ne.symm ne_a_a5))
  have Fv5 := Fv5.other W7 (Or.inl (Ne.symm ne_a_a5))
  have Av5 := Av5.other W7 (Ne.symm ne_a_b5)
  have O := O.wr W7 g_a
  have K := K.wr W7 (Or.inl (List.mem_of_getElem? (i := 0) rfl))
  have N7 := Fr.snoc X7 N4 g_a
  have w8 : ∀ t, Steps p.tables e below (T7.setTop (mkF m 26 #[.val (.ref a), .val (.ref b), .val (.int (0 : Int32)), .val (.int (0 : Int32)), .val .null, .unset] [])) t → Steps p.tables e below (s₁.setTop (entryFrame m #[(.ref a), (.ref b), (.int (0 : Int32)), (.int (0 : Int32)), .null] 6)) t := fun t k => by
    refine pre0 t ?_
    refine XS.aloadN X0.here hx rfl (hb hby d3_0) rfl rfl ?_
    show Steps p.tables e below (s₁.setTop (mkF m 1 #[.val (.ref a), .val (.ref b), .val (.int (0 : Int32)), .val (.int (0 : Int32)), .val .null, .unset] [(.ref a)])) _
    refine st1 _ ?_
    show Steps p.tables e below (T1.setTop (mkF m 4 #[.val (.ref a), .val (.ref b), .val (.int (0 : Int32)), .val (.int (0 : Int32)), .val .null, .unset] [])) _
    refine XS.iloadN X1.here hx rfl (hb hby d3_4) rfl ?_
    show Steps p.tables e below (T1.setTop (mkF m 5 #[.val (.ref a), .val (.ref b), .val (.int (0 : Int32)), .val (.int (0 : Int32)), .val .null, .unset] [(.int (0 : Int32))])) _
    refine XS.ifNo X1.here hx rfl (hb hby d3_5) rfl ((if0 _ _).trans (teq (rfl : (0 : Int32) = (0 : Int32))).2) ?_
    show Steps p.tables e below (T1.setTop (mkF m 8 #[.val (.ref a), .val (.ref b), .val (.int (0 : Int32)), .val (.int (0 : Int32)), .val .null, .unset] [])) _
    refine XS.aloadN X1.here hx rfl (hb hby d3_8) rfl rfl ?_
    show Steps p.tables e below (T1.setTop (mkF m 9 #[.val (.ref a), .val (.ref b), .val (.int (0 : Int32)), .val (.int (0 : Int32)), .val .null, .unset] [(.ref a)])) _
    refine st2 _ ?_
    show Steps p.tables e below (T2.setTop (mkF m 11 #[.val (.ref a), .val (.ref b), .val (.int (0 : Int32)), .val (.int (0 : Int32)), .val .null, .unset] [(.ref a2), (.ref a)])) _
    refine st3 _ ?_
    show Steps p.tables e below (T3.setTop (mkF m 14 #[.val (.ref a), .val (.ref b), .val (.int (0 : Int32)), .val (.int (0 : Int32)), .val .null, .unset] [(.ref b2), (.ref a)])) _
    refine st4 _ ?_
    show Steps p.tables e below (T4.setTop (mkF m 17 #[.val (.ref a), .val (.ref b), .val (.int (0 : Int32)), .val (.int (0 : Int32)), .val .null, .unset] [])) _
    refine XS.aloadN X4.here hx rfl (hb hby d3_17) rfl rfl ?_
    show Steps p.tables e below (T4.setTop (mkF m 18 #[.val (.ref a), .val (.ref b), .val (.int (0 : Int32)), .val (.int (0 : Int32)), .val .null, .unset] [(.ref a)])) _
    refine st5 _ ?_
    show Steps p.tables e below (T5.setTop (mkF m 20 #[.val (.ref a), .val (.ref b), .val (.int (0 : Int32)), .val (.int (0 : Int32)), .val .null, .unset] [(.ref a5), (.ref a)])) _
    refine st6 _ ?_
    show Steps p.tables e below (T6.setTop (mkF m 23 #[.val (.ref a), .val (.ref b), .val (.int (0 : Int32)), .val (.int (0 : Int32)), .val .null, .unset] [(.int (0 : Int32)), (.ref a)])) _
    refine st7 _ ?_
    show Steps p.tables e below (T7.setTop (mkF m 26 #[.val (.ref a), .val (.ref b), .val (.int (0 : Int32)), .val (.int (0 : Int32)), .val .null, .unset] [])) _
    exact k
  obtain ⟨fs, hr, hrun, hended, hE⟩ := Stand.leaveW (s := s) (vm₁ := T5.vm) X7 hS (by rw [e7]; exact hk) (v := none) (fun _ => rfl)
  refine ⟨_, _, w8 _ ?_, hrun, hended, _, _, rfl, ?_, ?_, own_mono hE (by decide) (by decide)⟩
  · exact X7.returnOut hx Bd.returns (hb hby d3_26) hr
  · show Q3_e Z a b  h0 n0 _ T7.heap _
    rw [e7]
    exact ⟨b2, kb2, rfl, N7, K, F_v_a, F_c_a, Av2⟩
  · rw [hh]; show CHr Z consts_1 s.vm h0 T7.vm T7.heap; rw [e7]; exact C.trans (CHv.at X7 hZ hEL C.1)
theorem d2_0 : decode jdk_42_method_3_code 0 = .ok (.aload_n 0, 1) := by decide +kernel
theorem d2_1 : decode jdk_42_method_3_code 1 = .ok (.aload_n 1, 1) := by decide +kernel
theorem d2_2 : decode jdk_42_method_3_code 2 = .ok (.iconst 0, 1) := by decide +kernel
theorem d2_3 : decode jdk_42_method_3_code 3 = .ok (.aload_n 1, 1) := by decide +kernel
theorem d2_4 : decode jdk_42_method_3_code 4 = .ok (.arraylength, 1) := by decide +kernel
theorem d2_5 : decode jdk_42_method_3_code 5 = .ok (.aconst_null, 1) := by decide +kernel
theorem d2_6 : decode jdk_42_method_3_code 6 = .ok (.invokespecial 27, 3) := by decide +kernel
theorem pd__40_91CIILjava_47lang_47Void_59_41V : parseMethodDescriptor "([CIILjava/lang/Void;)V" = some ⟨[(.array .char), .int, .int, (.object "java/lang/Void")], none⟩ := by decide +kernel
theorem d2_9 : decode jdk_42_method_3_code 9 = .ok (.return_, 1) := by decide +kernel
theorem ef_2_e (m : MethodId) (x0 : Addr) (x1 : Addr) : entryFrame m #[(.ref x0), (.ref x1)] 2 = mkF m 0 #[.val (.ref x0), .val (.ref x1)] [] := by first | (simp [entryFrame, mkF, argsToLocals, Value.category]; done) | rfl
def Q2_e (Z : State) (a : Addr) (b : Addr) (kc : ClassId) (h0 : Heap) (n0 : Nat) (v : Option Value) (h : Heap) (L : List Loc) : Prop := ∃ t1 : Addr, ∃ kb : ClassId, v = none ∧ Fr n0 L ∧ Keep h0 h [a] ∧ Fld Z h a "java/lang/String" "value" "[B" (.ref t1) ∧ Fld Z h a "java/lang/String" "coder" "B" (.int (0 : Int32)) ∧ Arv Z h t1 kb .byte (0 : Int32) [] (.int (0 : Int32))
set_option maxRecDepth 65536 in
set_option maxHeartbeats 40000000 in
theorem rm2_e (l : Launch) (Z : State) (a0 : Array Value) (hw : ∀ d ∈ tables_1, d.before a0 Z = true) (ws : List Jvm.Cond) (a : Addr) (b : Addr) (kc : ClassId) (h0 : Heap) (n0 : Nat) (O0 : Old Z n0 h0) (E_a : Exa Z h0 a "java/lang/String") (F_v_a : Fld Z h0 a "java/lang/String" "value" "[B" .null) (F_c_a : Fld Z h0 a "java/lang/String" "coder" "B" (.int (0 : Int32))) (V_b : Arv Z h0 b kc .char (0 : Int32) [] (.int (0 : Int32))) (g_a : n0 ≤ a) :
    MetFree l (⟨"java/lang/String", "<init>", "([C)V"⟩ : MethodName) (head1 (Jvm.Cond.code (⟨"java/lang/String", "<init>", "([C)V"⟩ : MethodName) jdk_42_method_3_code 2 none :: ws) ({ frames := 2, cells := 4, slots := 8, locals := 29 } : Room)) (fun aA uU => aA = #[(.ref a), (.ref b)] ∧ Z.Warmed39 uU.vm ∧ uU.heap = h0 ∧ CHv Z consts_1 uU.vm h0) (fun _ _ _ _ _ => True) (fun _ uU oO uU' => ∃ vV lL, oO = .returned vV ∧ Q2_e Z a b kc  h0 n0 vV uU'.heap lL ∧ CHr Z consts_1 uU.vm uU.heap uU'.vm uU'.heap ∧ ReturnedEndW uU oO uU' lL ({ frames := 2, cells := 4, slots := 8, locals := 29 } : Room).cells ({ frames := 2, cells := 4, slots := 8, locals := 29 } : Room).slots) := by
  refine MetFree.of_bodySF (plainFor_of_name pn_java_lang_String) hisR ?_
  intro p e s m args below meth c s₁ Bd hml0 hP hK
  obtain ⟨rfl, hZ, hh, H0⟩ := hP
  have hx := Bd.exec
  have hby := Bd.bytes
  have hml : c.maxLocals = 2 := hml0
  have hown : s.vm.findClass "java/lang/String" = some m.cls := findClass_of_methodNamed Bd.named
  have hnm := (name_of_methodNamed Bd.named Bd.method).1
  have X0 : Stand p l e ({ frames := 2, cells := 4, slots := 8, locals := 29 } : Room) (s.setVm s.vm) m #[(.ref a), (.ref b)] below meth c s₁ [] 0 0 := Stand.of_body Bd
  have e0 : s₁.heap = h0 := by rw [← hh, Bd.state]; rfl
  have N0 := Fr.nil n0
  have O := O0
  have K := Keep.refl h0 [a]
  have hS : s.Since s.vm h0.size := own_since s _
  have hk : h0.size ≤ h0.size := Nat.le_refl _
  have C : CHr Z consts_1 s.vm h0 s.vm h0 := CHr.refl H0
  have hEL := own_EW hw
  have hSA := own_wS hw
  have pre0 : ∀ t, Steps p.tables e below (s₁.setTop (mkF m 0 #[.val (.ref a), .val (.ref b)] [])) t → Steps p.tables e below (s₁.setTop (entryFrame m #[(.ref a), (.ref b)] 2)) t := fun t k => castTop (ef_2_e m a b) k
  obtain ⟨cl1, Ar1, -, Z1, N1, -, -⟩ := id V_b
  have w2 : ∀ t, Steps p.tables e below (s₁.setTop (mkF m 6 #[.val (.ref a), .val (.ref b)] [.null, (.int (0 : Int32)), (.int (0 : Int32)), (.ref b), (.ref a)])) t → Steps p.tables e below (s₁.setTop (entryFrame m #[(.ref a), (.ref b)] 2)) t := fun t k => by
    refine pre0 t ?_
    refine XS.aloadN X0.here hx rfl (hb hby d2_0) rfl rfl ?_
    show Steps p.tables e below (s₁.setTop (mkF m 1 #[.val (.ref a), .val (.ref b)] [(.ref a)])) _
    refine XS.aloadN X0.here hx rfl (hb hby d2_1) rfl rfl ?_
    show Steps p.tables e below (s₁.setTop (mkF m 2 #[.val (.ref a), .val (.ref b)] [(.ref b), (.ref a)])) _
    refine XS.iconst X0.here hx rfl (hb hby d2_2) ?_
    show Steps p.tables e below (s₁.setTop (mkF m 3 #[.val (.ref a), .val (.ref b)] [(.int (0 : Int32)), (.ref b), (.ref a)])) _
    refine XS.aloadN X0.here hx rfl (hb hby d2_3) rfl rfl ?_
    show Steps p.tables e below (s₁.setTop (mkF m 4 #[.val (.ref a), .val (.ref b)] [(.ref b), (.int (0 : Int32)), (.ref b), (.ref a)])) _
    refine X0.arraylength hx (by rw [e0]; exact Ar1.1) (State.isArrayOf_alike hZ.alike Ar1.2.1) (g := (mkF m 4 #[.val (.ref a), .val (.ref b)] [(.ref b), (.int (0 : Int32)), (.ref b), (.ref a)])) rfl rfl (hb hby d2_4) _ ?_
    rw [len_of Z1 N1]
    show Steps p.tables e below (s₁.setTop (mkF m 5 #[.val (.ref a), .val (.ref b)] [(.int (0 : Int32)), (.int (0 : Int32)), (.ref b), (.ref a)])) _
    refine XS.aconstNull X0.here hx rfl (hb hby d2_5) ?_
    show Steps p.tables e below (s₁.setTop (mkF m 6 #[.val (.ref a), .val (.ref b)] [.null, (.int (0 : Int32)), (.int (0 : Int32)), (.ref b), (.ref a)])) _
    exact k
  have ne_b_a : b ≠ a := (Ne.symm (Exa.neArv E_a V_b (hw _ (List.mem_of_getElem? (i := 6) rfl))))
  obtain ⟨_, _, ⟨T3, L3, k3, n3⟩, -, X3, sn3, gr3, ⟨Lc3, hQ3, l3, y3, z3, R3⟩, st3⟩ := X0.specialBackS hx (y := (⟨"java/lang/String", "<init>", "([CIILjava/lang/Void;)V"⟩ : MethodName)) rfl hown (mvT hZ (hw _ (List.mem_of_getElem? (i := 11) rfl))) (mvT hZ (hw _ (List.mem_of_getElem? (i := 12) rfl))) (mvT hZ (hw _ (List.mem_of_getElem? (i := 14) rfl))) (by decide) (backOfSH (W := 0) (rm3_e l Z a0 hw [] a b h0 n0 O E_a F_v_a F_c_a g_a) hZ (hw _ (List.mem_of_getElem? (i := 14) rfl)) (hw _ (List.mem_of_getElem? (i := 7) rfl)) (by decide) (by decide) hEL C.1) (g := (mkF m 6 #[.val (.ref a), .val (.ref b)] [.null, (.int (0 : Int32)), (.int (0 : Int32)), (.ref b), (.ref a)])) rfl (by rw [hml]; rfl) (Steps.refl _) (a := a) (argsL := [(.ref b), (.int (0 : Int32)), (.int (0 : Int32)), .null]) (rest := []) (lenOf pd__40_91CIILjava_47lang_47Void_59_41V rfl) rfl (by show 2 * 0 + _ ≤ _; exact Nat.le_of_eq rfl) (hb hby d2_6) (fun _ _ => ⟨rfl, e0, (by decide : 0 + 4 ≤ _), (by decide : 0 + 8 ≤ _)⟩)
  dsimp only [Pt.U, Pt.locs, Pt.cells, Pt.slots] at X3 l3 y3 z3 st3 hQ3 sn3 gr3 R3
  subst l3 y3 z3
  obtain ⟨X3, hS, hZ, hown⟩ := rebS hS (by rw [e0]; exact hk) X3 sn3 gr3 hZ hown
  obtain ⟨t1_3, kb_3, rfl, N3q, K3, F_v_a_c3, F_c_a_c3, V_t_c3⟩ := hQ3
  have N3 := Fr.app N0 N3q
  have R := R3
  have C := C.trans R
  have hk : T3.heap.size ≤ T3.heap.size := Nat.le_refl _
  have E_a := E_a.keep K3
  have V_b := V_b.keep K3 (ninS ne_b_a nin0)
  have O := O.keep K3 (allS g_a all0)
  have K := K.trans K3 (allS (Or.inl (List.mem_of_getElem? (i := 0) rfl)) all0)
  have w4 : ∀ t, Steps p.tables e below (T3.setTop (mkF m 9 #[.val (.ref a), .val (.ref b)] [])) t → Steps p.tables e below (s₁.setTop (entryFrame m #[(.ref a), (.ref b)] 2)) t := fun t k => by
    refine w2 t ?_
    refine st3.trans ?_
    show Steps p.tables e below (T3.setTop (mkF m 9 #[.val (.ref a), .val (.ref b)] [])) _
    exact k
  obtain ⟨fs, hr, hrun, hended, hE⟩ := Stand.leaveW (s := s) (vm₁ := T3.vm) X3 hS (by exact hk) (v := none) (fun _ => rfl)
  refine ⟨_, _, w4 _ ?_, hrun, hended, _, _, rfl, ?_, ?_, own_mono hE (by decide) (by decide)⟩
  · exact X3.returnOut hx Bd.returns (hb hby d2_9) hr
  · show Q2_e Z a b kc  h0 n0 _ T3.heap _
    exact ⟨t1_3, kb_3, rfl, N3, K, F_v_a_c3, F_c_a_c3, V_t_c3⟩
  · rw [hh]; show CHr Z consts_1 s.vm h0 T3.vm T3.heap; exact C.trans (CHv.at X3 hZ hEL C.1)
theorem d1_0 : decode method_2_code 0 = .ok (.iload_n 1, 1) := by decide +kernel
theorem d1_1 : decode method_2_code 1 = .ok (.sipush 255, 3) := by decide +kernel
theorem d1_4 : decode method_2_code 4 = .ok (.iand, 1) := by decide +kernel
theorem d1_5 : decode method_2_code 5 = .ok (.i2c, 1) := by decide +kernel
theorem d1_6 : decode method_2_code 6 = .ok (.istore_n 3, 1) := by decide +kernel
theorem d1_7 : decode method_2_code 7 = .ok (.iload_n 2, 1) := by decide +kernel
theorem d1_8 : decode method_2_code 8 = .ok (.sipush 255, 3) := by decide +kernel
theorem d1_11 : decode method_2_code 11 = .ok (.iand, 1) := by decide +kernel
theorem d1_12 : decode method_2_code 12 = .ok (.i2c, 1) := by decide +kernel
theorem d1_13 : decode method_2_code 13 = .ok (.istore 4, 2) := by decide +kernel
theorem d1_15 : decode method_2_code 15 = .ok (.iload_n 0, 1) := by decide +kernel
theorem d1_16 : decode method_2_code 16 = .ok (.ifCond .ne 7, 3) := by decide +kernel
theorem d1_19 : decode method_2_code 19 = .ok (.iconst 0, 1) := by decide +kernel
theorem d1_20 : decode method_2_code 20 = .ok (.newarray .char, 2) := by decide +kernel
theorem d1_22 : decode method_2_code 22 = .ok (.areturn, 1) := by decide +kernel
theorem pn_com_example_whirligig_whirligig_UnreadableEqualsPinLaw : plainName "com/example/whirligig/whirligig/UnreadableEqualsPinLaw" = true := by first | (simp [plainName, overriddenIn]; done) | decide +kernel
theorem ef_1_0 (m : MethodId) (x1 : Int32) (x2 : Int32) : entryFrame m #[(.int (0 : Int32)), (.int x1), (.int x2)] 5 = mkF m 0 #[.val (.int (0 : Int32)), .val (.int x1), .val (.int x2), .unset, .unset] [] := by first | (simp [entryFrame, mkF, argsToLocals, Value.category]; done) | rfl
def Q1_0 (Z : State) (i : Int32) (j : Int32) (h0 : Heap) (n0 : Nat) (v : Option Value) (h : Heap) (L : List Loc) : Prop := ∃ z : Addr, ∃ kz : ClassId, v = some (.ref z) ∧ Fr n0 L ∧ Keep h0 h [] ∧ Arv Z h z kz .char (0 : Int32) [] (.int (0 : Int32)) ∧ h0.size ≤ z ∧ n0 ≤ z
set_option maxRecDepth 65536 in
set_option maxHeartbeats 40000000 in
theorem rm1_0 (l : Launch) (Z : State) (a0 : Array Value) (hw : ∀ d ∈ tables_1, d.before a0 Z = true) (ws : List Jvm.Cond) (i : Int32) (j : Int32) (h0 : Heap) (n0 : Nat) (O0 : Old Z n0 h0) :
    MetFree l (⟨"com/example/whirligig/whirligig/UnreadableEqualsPinLaw", "chars", "(III)[C"⟩ : MethodName) (head1 (Jvm.Cond.code (⟨"com/example/whirligig/whirligig/UnreadableEqualsPinLaw", "chars", "(III)[C"⟩ : MethodName) method_2_code 5 (some (.array .char)) :: ws) ({ frames := 0, cells := 1, slots := 0, locals := 0 } : Room)) (fun aA uU => aA = #[(.int (0 : Int32)), (.int i), (.int j)] ∧ Z.Warmed39 uU.vm ∧ uU.heap = h0) (fun _ _ _ _ _ => True) (fun _ uU oO uU' => ∃ vV lL, oO = .returned vV ∧ Q1_0 Z i j  h0 n0 vV uU'.heap lL ∧ FrameEnd uU oO uU' lL ({ frames := 0, cells := 1, slots := 0, locals := 0 } : Room).cells ({ frames := 0, cells := 1, slots := 0, locals := 0 } : Room).slots) := by
  refine MetFree.of_bodySF (plainFor_of_name pn_com_example_whirligig_whirligig_UnreadableEqualsPinLaw) hisR ?_
  intro p e s m args below meth c s₁ Bd hml0 hP hK
  obtain ⟨rfl, hZ, hh⟩ := hP
  have hx := Bd.exec
  have hby := Bd.bytes
  have hml : c.maxLocals = 5 := hml0
  have hown : s.vm.findClass "com/example/whirligig/whirligig/UnreadableEqualsPinLaw" = some m.cls := findClass_of_methodNamed Bd.named
  have hnm := (name_of_methodNamed Bd.named Bd.method).1
  have X0 : Stand p l e ({ frames := 0, cells := 1, slots := 0, locals := 0 } : Room) s m #[(.int (0 : Int32)), (.int i), (.int j)] below meth c s₁ [] 0 0 := Stand.of_body Bd
  have e0 : s₁.heap = h0 := by rw [← hh, Bd.state]; rfl
  have N0 := Fr.nil n0
  have O := O0
  have K := Keep.refl h0 []
  have pre0 : ∀ t, Steps p.tables e below (s₁.setTop (mkF m 0 #[.val (.int (0 : Int32)), .val (.int i), .val (.int j), .unset, .unset] [])) t → Steps p.tables e below (s₁.setTop (entryFrame m #[(.int (0 : Int32)), (.int i), (.int j)] 5)) t := fun t k => castTop (ef_1_0 m i j) k
  obtain ⟨T1, h1, k1, X1, e1, E1, A1, st1⟩ := newP X0 hx hZ (hw _ (List.mem_of_getElem? (i := 4) rfl)) e0 (g := (mkF m 20 #[.val (.int (0 : Int32)), .val (.int i), .val (.int j), .val (.int ((i &&& (255 : Int32)).toUInt32.toUInt16.toUInt32.toInt32)), .val (.int ((j &&& (255 : Int32)).toUInt32.toUInt16.toUInt32.toInt32))] [(.int (0 : Int32))])) rfl (hb hby d1_20) rfl (by decide) (cap := 0) (by decide) (by decide) (by decide) (by decide)
  obtain ⟨b1, gq1⟩ : ∃ z, z = Array.size h0 := ⟨_, rfl⟩
  rw [← gq1] at A1 st1
  have g_b1 : n0 ≤ b1 := Nat.le_trans (O.1 ▸ O.2.1) (Nat.le_of_eq gq1.symm)
  have z_b1 : h0.size ≤ b1 := Nat.le_trans K.1 (Nat.le_of_eq gq1.symm)
  have O := O.ext E1
  have K := K.ext E1
  have V_b1 : Arv Z h1 b1 k1 .char (0 : Int32) [] (.int (0 : Int32)) := (Arv.new A1 (by decide))
  have w2 : ∀ t, Steps p.tables e below (T1.setTop (mkF m 22 #[.val (.int (0 : Int32)), .val (.int i), .val (.int j), .val (.int ((i &&& (255 : Int32)).toUInt32.toUInt16.toUInt32.toInt32)), .val (.int ((j &&& (255 : Int32)).toUInt32.toUInt16.toUInt32.toInt32))] [(.ref b1)])) t → Steps p.tables e below (s₁.setTop (entryFrame m #[(.int (0 : Int32)), (.int i), (.int j)] 5)) t := fun t k => by
    refine pre0 t ?_
    refine XS.iloadN X0.here hx rfl (hb hby d1_0) rfl ?_
    show Steps p.tables e below (s₁.setTop (mkF m 1 #[.val (.int (0 : Int32)), .val (.int i), .val (.int j), .unset, .unset] [(.int i)])) _
    refine XS.sipush X0.here hx rfl (hb hby d1_1) ?_
    show Steps p.tables e below (s₁.setTop (mkF m 4 #[.val (.int (0 : Int32)), .val (.int i), .val (.int j), .unset, .unset] [(.int (255 : Int32)), (.int i)])) _
    refine XS.iand X0.here hx rfl (hb hby d1_4) rfl ?_
    show Steps p.tables e below (s₁.setTop (mkF m 5 #[.val (.int (0 : Int32)), .val (.int i), .val (.int j), .unset, .unset] [(.int (i &&& (255 : Int32)))])) _
    refine XS.i2c X0.here hx rfl (hb hby d1_5) rfl ?_
    show Steps p.tables e below (s₁.setTop (mkF m 6 #[.val (.int (0 : Int32)), .val (.int i), .val (.int j), .unset, .unset] [(.int ((i &&& (255 : Int32)).toUInt32.toUInt16.toUInt32.toInt32))])) _
    refine XS.istoreN X0.here hx rfl (hb hby d1_6) rfl (l' := #[.val (.int (0 : Int32)), .val (.int i), .val (.int j), .val (.int ((i &&& (255 : Int32)).toUInt32.toUInt16.toUInt32.toInt32)), .unset]) rfl ?_
    show Steps p.tables e below (s₁.setTop (mkF m 7 #[.val (.int (0 : Int32)), .val (.int i), .val (.int j), .val (.int ((i &&& (255 : Int32)).toUInt32.toUInt16.toUInt32.toInt32)), .unset] [])) _
    refine XS.iloadN X0.here hx rfl (hb hby d1_7) rfl ?_
    show Steps p.tables e below (s₁.setTop (mkF m 8 #[.val (.int (0 : Int32)), .val (.int i), .val (.int j), .val (.int ((i &&& (255 : Int32)).toUInt32.toUInt16.toUInt32.toInt32)), .unset] [(.int j)])) _
    refine XS.sipush X0.here hx rfl (hb hby d1_8) ?_
    show Steps p.tables e below (s₁.setTop (mkF m 11 #[.val (.int (0 : Int32)), .val (.int i), .val (.int j), .val (.int ((i &&& (255 : Int32)).toUInt32.toUInt16.toUInt32.toInt32)), .unset] [(.int (255 : Int32)), (.int j)])) _
    refine XS.iand X0.here hx rfl (hb hby d1_11) rfl ?_
    show Steps p.tables e below (s₁.setTop (mkF m 12 #[.val (.int (0 : Int32)), .val (.int i), .val (.int j), .val (.int ((i &&& (255 : Int32)).toUInt32.toUInt16.toUInt32.toInt32)), .unset] [(.int (j &&& (255 : Int32)))])) _
    refine XS.i2c X0.here hx rfl (hb hby d1_12) rfl ?_
    show Steps p.tables e below (s₁.setTop (mkF m 13 #[.val (.int (0 : Int32)), .val (.int i), .val (.int j), .val (.int ((i &&& (255 : Int32)).toUInt32.toUInt16.toUInt32.toInt32)), .unset] [(.int ((j &&& (255 : Int32)).toUInt32.toUInt16.toUInt32.toInt32))])) _
    refine XS.istore X0.here hx rfl (hb hby d1_13) rfl (l' := #[.val (.int (0 : Int32)), .val (.int i), .val (.int j), .val (.int ((i &&& (255 : Int32)).toUInt32.toUInt16.toUInt32.toInt32)), .val (.int ((j &&& (255 : Int32)).toUInt32.toUInt16.toUInt32.toInt32))]) rfl ?_
    show Steps p.tables e below (s₁.setTop (mkF m 15 #[.val (.int (0 : Int32)), .val (.int i), .val (.int j), .val (.int ((i &&& (255 : Int32)).toUInt32.toUInt16.toUInt32.toInt32)), .val (.int ((j &&& (255 : Int32)).toUInt32.toUInt16.toUInt32.toInt32))] [])) _
    refine XS.iloadN X0.here hx rfl (hb hby d1_15) rfl ?_
    show Steps p.tables e below (s₁.setTop (mkF m 16 #[.val (.int (0 : Int32)), .val (.int i), .val (.int j), .val (.int ((i &&& (255 : Int32)).toUInt32.toUInt16.toUInt32.toInt32)), .val (.int ((j &&& (255 : Int32)).toUInt32.toUInt16.toUInt32.toInt32))] [(.int (0 : Int32))])) _
    refine XS.ifNo X0.here hx rfl (hb hby d1_16) rfl ((if0 _ _).trans (teq (rfl : (0 : Int32) = (0 : Int32))).2) ?_
    show Steps p.tables e below (s₁.setTop (mkF m 19 #[.val (.int (0 : Int32)), .val (.int i), .val (.int j), .val (.int ((i &&& (255 : Int32)).toUInt32.toUInt16.toUInt32.toInt32)), .val (.int ((j &&& (255 : Int32)).toUInt32.toUInt16.toUInt32.toInt32))] [])) _
    refine XS.iconst X0.here hx rfl (hb hby d1_19) ?_
    show Steps p.tables e below (s₁.setTop (mkF m 20 #[.val (.int (0 : Int32)), .val (.int i), .val (.int j), .val (.int ((i &&& (255 : Int32)).toUInt32.toUInt16.toUInt32.toInt32)), .val (.int ((j &&& (255 : Int32)).toUInt32.toUInt16.toUInt32.toInt32))] [(.int (0 : Int32))])) _
    refine st1 _ ?_
    show Steps p.tables e below (T1.setTop (mkF m 22 #[.val (.int (0 : Int32)), .val (.int i), .val (.int j), .val (.int ((i &&& (255 : Int32)).toUInt32.toUInt16.toUInt32.toInt32)), .val (.int ((j &&& (255 : Int32)).toUInt32.toUInt16.toUInt32.toInt32))] [(.ref b1)])) _
    exact k
  obtain ⟨fs, hr, hrun, hended, hW, hsame⟩ := X1.leave (v := some (.ref b1)) (fun h => by rw [Bd.returns] at h; cases h)
  refine ⟨_, _, w2 _ ?_, hrun, hended, _, _, rfl, ?_, ⟨_, rfl⟩, hW, hsame.mono (by decide) (by decide)⟩
  · jvm_step X1.here [X1.here.top, hx, (hb hby d1_22), X1.method', Bd.returns, Value.isRef, FieldType.isReference]
    first | (intro acts; rw [hr _ acts rfl rfl rfl]) | rw [hr _ _ rfl rfl rfl]
    exact Steps.refl _
  · show Q1_0 Z i j  h0 n0 _ T1.heap _
    rw [e1]
    exact ⟨b1, k1, rfl, N0, K, V_b1, z_b1, g_b1⟩
theorem d1_23 : decode method_2_code 23 = .ok (.iload_n 0, 1) := by decide +kernel
theorem d1_24 : decode method_2_code 24 = .ok (.iconst 1, 1) := by decide +kernel
theorem d1_25 : decode method_2_code 25 = .ok (.if_icmp .ne 11, 3) := by decide +kernel
theorem d1_28 : decode method_2_code 28 = .ok (.iconst 1, 1) := by decide +kernel
theorem d1_29 : decode method_2_code 29 = .ok (.newarray .char, 2) := by decide +kernel
theorem d1_31 : decode method_2_code 31 = .ok (.dup, 1) := by decide +kernel
theorem d1_32 : decode method_2_code 32 = .ok (.iconst 0, 1) := by decide +kernel
theorem d1_33 : decode method_2_code 33 = .ok (.iload_n 3, 1) := by decide +kernel
theorem d1_34 : decode method_2_code 34 = .ok (.castore, 1) := by decide +kernel
theorem d1_35 : decode method_2_code 35 = .ok (.areturn, 1) := by decide +kernel
theorem ef_1_1 (m : MethodId) (x1 : Int32) (x2 : Int32) : entryFrame m #[(.int (1 : Int32)), (.int x1), (.int x2)] 5 = mkF m 0 #[.val (.int (1 : Int32)), .val (.int x1), .val (.int x2), .unset, .unset] [] := by first | (simp [entryFrame, mkF, argsToLocals, Value.category]; done) | rfl
def Q1_1 (Z : State) (i : Int32) (j : Int32) (h0 : Heap) (n0 : Nat) (v : Option Value) (h : Heap) (L : List Loc) : Prop := ∃ z : Addr, ∃ kz : ClassId, ∃ c1 : Int32, v = some (.ref z) ∧ Fr n0 L ∧ Keep h0 h [] ∧ Arv Z h z kz .char (1 : Int32) [(.int c1)] (.int (0 : Int32)) ∧ h0.size ≤ z ∧ n0 ≤ z ∧ (¬ c1 < 0 ∧ ¬ (255 : Int32) < c1)
set_option maxRecDepth 65536 in
set_option maxHeartbeats 40000000 in
theorem rm1_1 (l : Launch) (Z : State) (a0 : Array Value) (hw : ∀ d ∈ tables_1, d.before a0 Z = true) (ws : List Jvm.Cond) (i : Int32) (j : Int32) (h0 : Heap) (n0 : Nat) (O0 : Old Z n0 h0) :
    MetFree l (⟨"com/example/whirligig/whirligig/UnreadableEqualsPinLaw", "chars", "(III)[C"⟩ : MethodName) (head1 (Jvm.Cond.code (⟨"com/example/whirligig/whirligig/UnreadableEqualsPinLaw", "chars", "(III)[C"⟩ : MethodName) method_2_code 5 (some (.array .char)) :: ws) ({ frames := 0, cells := 1, slots := 1, locals := 0 } : Room)) (fun aA uU => aA = #[(.int (1 : Int32)), (.int i), (.int j)] ∧ Z.Warmed39 uU.vm ∧ uU.heap = h0) (fun _ _ _ _ _ => True) (fun _ uU oO uU' => ∃ vV lL, oO = .returned vV ∧ Q1_1 Z i j  h0 n0 vV uU'.heap lL ∧ FrameEnd uU oO uU' lL ({ frames := 0, cells := 1, slots := 1, locals := 0 } : Room).cells ({ frames := 0, cells := 1, slots := 1, locals := 0 } : Room).slots) := by
  refine MetFree.of_bodySF (plainFor_of_name pn_com_example_whirligig_whirligig_UnreadableEqualsPinLaw) hisR ?_
  intro p e s m args below meth c s₁ Bd hml0 hP hK
  obtain ⟨rfl, hZ, hh⟩ := hP
  have hx := Bd.exec
  have hby := Bd.bytes
  have hml : c.maxLocals = 5 := hml0
  have hown : s.vm.findClass "com/example/whirligig/whirligig/UnreadableEqualsPinLaw" = some m.cls := findClass_of_methodNamed Bd.named
  have hnm := (name_of_methodNamed Bd.named Bd.method).1
  have X0 : Stand p l e ({ frames := 0, cells := 1, slots := 1, locals := 0 } : Room) s m #[(.int (1 : Int32)), (.int i), (.int j)] below meth c s₁ [] 0 0 := Stand.of_body Bd
  have e0 : s₁.heap = h0 := by rw [← hh, Bd.state]; rfl
  have N0 := Fr.nil n0
  have O := O0
  have K := Keep.refl h0 []
  have pre0 : ∀ t, Steps p.tables e below (s₁.setTop (mkF m 0 #[.val (.int (1 : Int32)), .val (.int i), .val (.int j), .unset, .unset] [])) t → Steps p.tables e below (s₁.setTop (entryFrame m #[(.int (1 : Int32)), (.int i), (.int j)] 5)) t := fun t k => castTop (ef_1_1 m i j) k
  obtain ⟨T1, h1, k1, X1, e1, E1, A1, st1⟩ := newP X0 hx hZ (hw _ (List.mem_of_getElem? (i := 4) rfl)) e0 (g := (mkF m 29 #[.val (.int (1 : Int32)), .val (.int i), .val (.int j), .val (.int ((i &&& (255 : Int32)).toUInt32.toUInt16.toUInt32.toInt32)), .val (.int ((j &&& (255 : Int32)).toUInt32.toUInt16.toUInt32.toInt32))] [(.int (1 : Int32))])) rfl (hb hby d1_29) rfl (by decide) (cap := 1) (by decide) (by decide) (by decide) (by decide)
  obtain ⟨b1, gq1⟩ : ∃ z, z = Array.size h0 := ⟨_, rfl⟩
  rw [← gq1] at A1 st1
  have g_b1 : n0 ≤ b1 := Nat.le_trans (O.1 ▸ O.2.1) (Nat.le_of_eq gq1.symm)
  have z_b1 : h0.size ≤ b1 := Nat.le_trans K.1 (Nat.le_of_eq gq1.symm)
  have O := O.ext E1
  have K := K.ext E1
  have V_b1 : Arv Z h1 b1 k1 .char (1 : Int32) [(.int (0 : Int32))] (.int (0 : Int32)) := (Arv.new A1 (by decide)).pad (pad_rep [] (.int (0 : Int32)) 1)
  obtain ⟨cl2, Ar2, q2, Z2, N2, H2, G2⟩ := id V_b1
  have hin2 : ¬ ((0 : Int32) < 0 ∨ cl2.slots.size ≤ ((0 : Int32)).toNatClampNeg) := inb_of Z2 ⟨by decide, by decide⟩
  obtain ⟨T3, h3, X3, e3, W3, st3⟩ := stC X1 hx hZ e1 Ar2 (j := (0 : Int32)) hin2 (g := (mkF m 34 #[.val (.int (1 : Int32)), .val (.int i), .val (.int j), .val (.int ((i &&& (255 : Int32)).toUInt32.toUInt16.toUInt32.toInt32)), .val (.int ((j &&& (255 : Int32)).toUInt32.toUInt16.toUInt32.toInt32))] [(.int ((i &&& (255 : Int32)).toUInt32.toUInt16.toUInt32.toInt32)), (.int (0 : Int32)), (.ref b1), (.ref b1)])) rfl rfl (hb hby d1_34)
  have V_b1 : Arv Z h3 b1 k1 .char (1 : Int32) [(.int (((i &&& (255 : Int32)).toUInt32.toUInt16.toUInt32.toInt32).toUInt32.toUInt16.toUInt32.toInt32))] (.int (0 : Int32)) := Arv.set Ar2 q2 Z2 N2 H2 G2 (fits_nar_char _) W3 0 rfl (Nat.le_of_ble_eq_true rfl)
  have O := O.wr W3 g_b1
  have K := K.wr W3 (Or.inr z_b1)
  have N3 := Fr.snoc X3 N0 g_b1
  have w4 : ∀ t, Steps p.tables e below (T3.setTop (mkF m 35 #[.val (.int (1 : Int32)), .val (.int i), .val (.int j), .val (.int ((i &&& (255 : Int32)).toUInt32.toUInt16.toUInt32.toInt32)), .val (.int ((j &&& (255 : Int32)).toUInt32.toUInt16.toUInt32.toInt32))] [(.ref b1)])) t → Steps p.tables e below (s₁.setTop (entryFrame m #[(.int (1 : Int32)), (.int i), (.int j)] 5)) t := fun t k => by
    refine pre0 t ?_
    refine XS.iloadN X0.here hx rfl (hb hby d1_0) rfl ?_
    show Steps p.tables e below (s₁.setTop (mkF m 1 #[.val (.int (1 : Int32)), .val (.int i), .val (.int j), .unset, .unset] [(.int i)])) _
    refine XS.sipush X0.here hx rfl (hb hby d1_1) ?_
    show Steps p.tables e below (s₁.setTop (mkF m 4 #[.val (.int (1 : Int32)), .val (.int i), .val (.int j), .unset, .unset] [(.int (255 : Int32)), (.int i)])) _
    refine XS.iand X0.here hx rfl (hb hby d1_4) rfl ?_
    show Steps p.tables e below (s₁.setTop (mkF m 5 #[.val (.int (1 : Int32)), .val (.int i), .val (.int j), .unset, .unset] [(.int (i &&& (255 : Int32)))])) _
    refine XS.i2c X0.here hx rfl (hb hby d1_5) rfl ?_
    show Steps p.tables e below (s₁.setTop (mkF m 6 #[.val (.int (1 : Int32)), .val (.int i), .val (.int j), .unset, .unset] [(.int ((i &&& (255 : Int32)).toUInt32.toUInt16.toUInt32.toInt32))])) _
    refine XS.istoreN X0.here hx rfl (hb hby d1_6) rfl (l' := #[.val (.int (1 : Int32)), .val (.int i), .val (.int j), .val (.int ((i &&& (255 : Int32)).toUInt32.toUInt16.toUInt32.toInt32)), .unset]) rfl ?_
    show Steps p.tables e below (s₁.setTop (mkF m 7 #[.val (.int (1 : Int32)), .val (.int i), .val (.int j), .val (.int ((i &&& (255 : Int32)).toUInt32.toUInt16.toUInt32.toInt32)), .unset] [])) _
    refine XS.iloadN X0.here hx rfl (hb hby d1_7) rfl ?_
    show Steps p.tables e below (s₁.setTop (mkF m 8 #[.val (.int (1 : Int32)), .val (.int i), .val (.int j), .val (.int ((i &&& (255 : Int32)).toUInt32.toUInt16.toUInt32.toInt32)), .unset] [(.int j)])) _
    refine XS.sipush X0.here hx rfl (hb hby d1_8) ?_
    show Steps p.tables e below (s₁.setTop (mkF m 11 #[.val (.int (1 : Int32)), .val (.int i), .val (.int j), .val (.int ((i &&& (255 : Int32)).toUInt32.toUInt16.toUInt32.toInt32)), .unset] [(.int (255 : Int32)), (.int j)])) _
    refine XS.iand X0.here hx rfl (hb hby d1_11) rfl ?_
    show Steps p.tables e below (s₁.setTop (mkF m 12 #[.val (.int (1 : Int32)), .val (.int i), .val (.int j), .val (.int ((i &&& (255 : Int32)).toUInt32.toUInt16.toUInt32.toInt32)), .unset] [(.int (j &&& (255 : Int32)))])) _
    refine XS.i2c X0.here hx rfl (hb hby d1_12) rfl ?_
    show Steps p.tables e below (s₁.setTop (mkF m 13 #[.val (.int (1 : Int32)), .val (.int i), .val (.int j), .val (.int ((i &&& (255 : Int32)).toUInt32.toUInt16.toUInt32.toInt32)), .unset] [(.int ((j &&& (255 : Int32)).toUInt32.toUInt16.toUInt32.toInt32))])) _
    refine XS.istore X0.here hx rfl (hb hby d1_13) rfl (l' := #[.val (.int (1 : Int32)), .val (.int i), .val (.int j), .val (.int ((i &&& (255 : Int32)).toUInt32.toUInt16.toUInt32.toInt32)), .val (.int ((j &&& (255 : Int32)).toUInt32.toUInt16.toUInt32.toInt32))]) rfl ?_
    show Steps p.tables e below (s₁.setTop (mkF m 15 #[.val (.int (1 : Int32)), .val (.int i), .val (.int j), .val (.int ((i &&& (255 : Int32)).toUInt32.toUInt16.toUInt32.toInt32)), .val (.int ((j &&& (255 : Int32)).toUInt32.toUInt16.toUInt32.toInt32))] [])) _
    refine XS.iloadN X0.here hx rfl (hb hby d1_15) rfl ?_
    show Steps p.tables e below (s₁.setTop (mkF m 16 #[.val (.int (1 : Int32)), .val (.int i), .val (.int j), .val (.int ((i &&& (255 : Int32)).toUInt32.toUInt16.toUInt32.toInt32)), .val (.int ((j &&& (255 : Int32)).toUInt32.toUInt16.toUInt32.toInt32))] [(.int (1 : Int32))])) _
    refine XS.ifYes X0.here hx rfl (pc0 := 16) (pc' := 23) rfl (hb hby d1_16) rfl ((if0 _ _).trans (feq ((by decide) : ¬ ((1 : Int32) = (0 : Int32)))).2) (by decide) (by decide) ?_
    show Steps p.tables e below (s₁.setTop (mkF m 23 #[.val (.int (1 : Int32)), .val (.int i), .val (.int j), .val (.int ((i &&& (255 : Int32)).toUInt32.toUInt16.toUInt32.toInt32)), .val (.int ((j &&& (255 : Int32)).toUInt32.toUInt16.toUInt32.toInt32))] [])) _
    refine XS.iloadN X0.here hx rfl (hb hby d1_23) rfl ?_
    show Steps p.tables e below (s₁.setTop (mkF m 24 #[.val (.int (1 : Int32)), .val (.int i), .val (.int j), .val (.int ((i &&& (255 : Int32)).toUInt32.toUInt16.toUInt32.toInt32)), .val (.int ((j &&& (255 : Int32)).toUInt32.toUInt16.toUInt32.toInt32))] [(.int (1 : Int32))])) _
    refine XS.iconst X0.here hx rfl (hb hby d1_24) ?_
    show Steps p.tables e below (s₁.setTop (mkF m 25 #[.val (.int (1 : Int32)), .val (.int i), .val (.int j), .val (.int ((i &&& (255 : Int32)).toUInt32.toUInt16.toUInt32.toInt32)), .val (.int ((j &&& (255 : Int32)).toUInt32.toUInt16.toUInt32.toInt32))] [(.int (1 : Int32)), (.int (1 : Int32))])) _
    refine XS.icmpNo X0.here hx rfl (hb hby d1_25) rfl (teq (rfl : (1 : Int32) = (1 : Int32))).2 ?_
    show Steps p.tables e below (s₁.setTop (mkF m 28 #[.val (.int (1 : Int32)), .val (.int i), .val (.int j), .val (.int ((i &&& (255 : Int32)).toUInt32.toUInt16.toUInt32.toInt32)), .val (.int ((j &&& (255 : Int32)).toUInt32.toUInt16.toUInt32.toInt32))] [])) _
    refine XS.iconst X0.here hx rfl (hb hby d1_28) ?_
    show Steps p.tables e below (s₁.setTop (mkF m 29 #[.val (.int (1 : Int32)), .val (.int i), .val (.int j), .val (.int ((i &&& (255 : Int32)).toUInt32.toUInt16.toUInt32.toInt32)), .val (.int ((j &&& (255 : Int32)).toUInt32.toUInt16.toUInt32.toInt32))] [(.int (1 : Int32))])) _
    refine st1 _ ?_
    show Steps p.tables e below (T1.setTop (mkF m 31 #[.val (.int (1 : Int32)), .val (.int i), .val (.int j), .val (.int ((i &&& (255 : Int32)).toUInt32.toUInt16.toUInt32.toInt32)), .val (.int ((j &&& (255 : Int32)).toUInt32.toUInt16.toUInt32.toInt32))] [(.ref b1)])) _
    refine XS.dup X1.here hx rfl (hb hby d1_31) rfl rfl ?_
    show Steps p.tables e below (T1.setTop (mkF m 32 #[.val (.int (1 : Int32)), .val (.int i), .val (.int j), .val (.int ((i &&& (255 : Int32)).toUInt32.toUInt16.toUInt32.toInt32)), .val (.int ((j &&& (255 : Int32)).toUInt32.toUInt16.toUInt32.toInt32))] [(.ref b1), (.ref b1)])) _
    refine XS.iconst X1.here hx rfl (hb hby d1_32) ?_
    show Steps p.tables e below (T1.setTop (mkF m 33 #[.val (.int (1 : Int32)), .val (.int i), .val (.int j), .val (.int ((i &&& (255 : Int32)).toUInt32.toUInt16.toUInt32.toInt32)), .val (.int ((j &&& (255 : Int32)).toUInt32.toUInt16.toUInt32.toInt32))] [(.int (0 : Int32)), (.ref b1), (.ref b1)])) _
    refine XS.iloadN X1.here hx rfl (hb hby d1_33) rfl ?_
    show Steps p.tables e below (T1.setTop (mkF m 34 #[.val (.int (1 : Int32)), .val (.int i), .val (.int j), .val (.int ((i &&& (255 : Int32)).toUInt32.toUInt16.toUInt32.toInt32)), .val (.int ((j &&& (255 : Int32)).toUInt32.toUInt16.toUInt32.toInt32))] [(.int ((i &&& (255 : Int32)).toUInt32.toUInt16.toUInt32.toInt32)), (.int (0 : Int32)), (.ref b1), (.ref b1)])) _
    refine st3 _ ?_
    show Steps p.tables e below (T3.setTop (mkF m 35 #[.val (.int (1 : Int32)), .val (.int i), .val (.int j), .val (.int ((i &&& (255 : Int32)).toUInt32.toUInt16.toUInt32.toInt32)), .val (.int ((j &&& (255 : Int32)).toUInt32.toUInt16.toUInt32.toInt32))] [(.ref b1)])) _
    exact k
  obtain ⟨fs, hr, hrun, hended, hW, hsame⟩ := X3.leave (v := some (.ref b1)) (fun h => by rw [Bd.returns] at h; cases h)
  refine ⟨_, _, w4 _ ?_, hrun, hended, _, _, rfl, ?_, ⟨_, rfl⟩, hW, hsame.mono (by decide) (by decide)⟩
  · jvm_step X3.here [X3.here.top, hx, (hb hby d1_35), X3.method', Bd.returns, Value.isRef, FieldType.isReference]
    first | (intro acts; rw [hr _ acts rfl rfl rfl]) | rw [hr _ _ rfl rfl rfl]
    exact Steps.refl _
  · show Q1_1 Z i j  h0 n0 _ T3.heap _
    rw [e3]
    exact ⟨b1, k1, (((i &&& (255 : Int32)).toUInt32.toUInt16.toUInt32.toInt32).toUInt32.toUInt16.toUInt32.toInt32), rfl, N3, K, V_b1, z_b1, g_b1, own_bI _⟩
theorem d1_36 : decode method_2_code 36 = .ok (.iconst 2, 1) := by decide +kernel
theorem d1_37 : decode method_2_code 37 = .ok (.newarray .char, 2) := by decide +kernel
theorem d1_39 : decode method_2_code 39 = .ok (.dup, 1) := by decide +kernel
theorem d1_40 : decode method_2_code 40 = .ok (.iconst 0, 1) := by decide +kernel
theorem d1_41 : decode method_2_code 41 = .ok (.iload_n 3, 1) := by decide +kernel
theorem d1_42 : decode method_2_code 42 = .ok (.castore, 1) := by decide +kernel
theorem d1_43 : decode method_2_code 43 = .ok (.dup, 1) := by decide +kernel
theorem d1_44 : decode method_2_code 44 = .ok (.iconst 1, 1) := by decide +kernel
theorem d1_45 : decode method_2_code 45 = .ok (.iload 4, 2) := by decide +kernel
theorem d1_47 : decode method_2_code 47 = .ok (.castore, 1) := by decide +kernel
theorem d1_48 : decode method_2_code 48 = .ok (.areturn, 1) := by decide +kernel
theorem ef_1_2 (m : MethodId) (x1 : Int32) (x2 : Int32) : entryFrame m #[(.int (2 : Int32)), (.int x1), (.int x2)] 5 = mkF m 0 #[.val (.int (2 : Int32)), .val (.int x1), .val (.int x2), .unset, .unset] [] := by first | (simp [entryFrame, mkF, argsToLocals, Value.category]; done) | rfl
def Q1_2 (Z : State) (i : Int32) (j : Int32) (h0 : Heap) (n0 : Nat) (v : Option Value) (h : Heap) (L : List Loc) : Prop := ∃ z : Addr, ∃ kz : ClassId, ∃ c1 : Int32, ∃ d1 : Int32, v = some (.ref z) ∧ Fr n0 L ∧ Keep h0 h [] ∧ Arv Z h z kz .char (2 : Int32) [(.int c1), (.int d1)] (.int (0 : Int32)) ∧ h0.size ≤ z ∧ n0 ≤ z ∧ (¬ c1 < 0 ∧ ¬ (255 : Int32) < c1) ∧ (¬ d1 < 0 ∧ ¬ (255 : Int32) < d1)
set_option maxRecDepth 65536 in
set_option maxHeartbeats 40000000 in
theorem rm1_2 (l : Launch) (Z : State) (a0 : Array Value) (hw : ∀ d ∈ tables_1, d.before a0 Z = true) (ws : List Jvm.Cond) (i : Int32) (j : Int32) (h0 : Heap) (n0 : Nat) (O0 : Old Z n0 h0) :
    MetFree l (⟨"com/example/whirligig/whirligig/UnreadableEqualsPinLaw", "chars", "(III)[C"⟩ : MethodName) (head1 (Jvm.Cond.code (⟨"com/example/whirligig/whirligig/UnreadableEqualsPinLaw", "chars", "(III)[C"⟩ : MethodName) method_2_code 5 (some (.array .char)) :: ws) ({ frames := 0, cells := 1, slots := 2, locals := 0 } : Room)) (fun aA uU => aA = #[(.int (2 : Int32)), (.int i), (.int j)] ∧ Z.Warmed39 uU.vm ∧ uU.heap = h0) (fun _ _ _ _ _ => True) (fun _ uU oO uU' => ∃ vV lL, oO = .returned vV ∧ Q1_2 Z i j  h0 n0 vV uU'.heap lL ∧ FrameEnd uU oO uU' lL ({ frames := 0, cells := 1, slots := 2, locals := 0 } : Room).cells ({ frames := 0, cells := 1, slots := 2, locals := 0 } : Room).slots) := by
  refine MetFree.of_bodySF (plainFor_of_name pn_com_example_whirligig_whirligig_UnreadableEqualsPinLaw) hisR ?_
  intro p e s m args below meth c s₁ Bd hml0 hP hK
  obtain ⟨rfl, hZ, hh⟩ := hP
  have hx := Bd.exec
  have hby := Bd.bytes
  have hml : c.maxLocals = 5 := hml0
  have hown : s.vm.findClass "com/example/whirligig/whirligig/UnreadableEqualsPinLaw" = some m.cls := findClass_of_methodNamed Bd.named
  have hnm := (name_of_methodNamed Bd.named Bd.method).1
  have X0 : Stand p l e ({ frames := 0, cells := 1, slots := 2, locals := 0 } : Room) s m #[(.int (2 : Int32)), (.int i), (.int j)] below meth c s₁ [] 0 0 := Stand.of_body Bd
  have e0 : s₁.heap = h0 := by rw [← hh, Bd.state]; rfl
  have N0 := Fr.nil n0
  have O := O0
  have K := Keep.refl h0 []
  have pre0 : ∀ t, Steps p.tables e below (s₁.setTop (mkF m 0 #[.val (.int (2 : Int32)), .val (.int i), .val (.int j), .unset, .unset] [])) t → Steps p.tables e below (s₁.setTop (entryFrame m #[(.int (2 : Int32)), (.int i), (.int j)] 5)) t := fun t k => castTop (ef_1_2 m i j) k
  obtain ⟨T1, h1, k1, X1, e1, E1, A1, st1⟩ := newP X0 hx hZ (hw _ (List.mem_of_getElem? (i := 4) rfl)) e0 (g := (mkF m 37 #[.val (.int (2 : Int32)), .val (.int i), .val (.int j), .val (.int ((i &&& (255 : Int32)).toUInt32.toUInt16.toUInt32.toInt32)), .val (.int ((j &&& (255 : Int32)).toUInt32.toUInt16.toUInt32.toInt32))] [(.int (2 : Int32))])) rfl (hb hby d1_37) rfl (by decide) (cap := 2) (by decide) (by decide) (by decide) (by decide)
  obtain ⟨b1, gq1⟩ : ∃ z, z = Array.size h0 := ⟨_, rfl⟩
  rw [← gq1] at A1 st1
  have g_b1 : n0 ≤ b1 := Nat.le_trans (O.1 ▸ O.2.1) (Nat.le_of_eq gq1.symm)
  have z_b1 : h0.size ≤ b1 := Nat.le_trans K.1 (Nat.le_of_eq gq1.symm)
  have O := O.ext E1
  have K := K.ext E1
  have V_b1 : Arv Z h1 b1 k1 .char (2 : Int32) [(.int (0 : Int32)), (.int (0 : Int32))] (.int (0 : Int32)) := (Arv.new A1 (by decide)).pad (pad_rep [] (.int (0 : Int32)) 2)
  obtain ⟨cl2, Ar2, q2, Z2, N2, H2, G2⟩ := id V_b1
  have hin2 : ¬ ((0 : Int32) < 0 ∨ cl2.slots.size ≤ ((0 : Int32)).toNatClampNeg) := inb_of Z2 ⟨by decide, by decide⟩
  obtain ⟨T3, h3, X3, e3, W3, st3⟩ := stC X1 hx hZ e1 Ar2 (j := (0 : Int32)) hin2 (g := (mkF m 42 #[.val (.int (2 : Int32)), .val (.int i), .val (.int j), .val (.int ((i &&& (255 : Int32)).toUInt32.toUInt16.toUInt32.toInt32)), .val (.int ((j &&& (255 : Int32)).toUInt32.toUInt16.toUInt32.toInt32))] [(.int ((i &&& (255 : Int32)).toUInt32.toUInt16.toUInt32.toInt32)), (.int (0 : Int32)), (.ref b1), (.ref b1)])) rfl rfl (hb hby d1_42)
  have V_b1 : Arv Z h3 b1 k1 .char (2 : Int32) [(.int (((i &&& (255 : Int32)).toUInt32.toUInt16.toUInt32.toInt32).toUInt32.toUInt16.toUInt32.toInt32)), (.int (0 : Int32))] (.int (0 : Int32)) := Arv.set Ar2 q2 Z2 N2 H2 G2 (fits_nar_char _) W3 0 rfl (Nat.le_of_ble_eq_true rfl)
  have O := O.wr W3 g_b1
  have K := K.wr W3 (Or.inr z_b1)
  have N3 := Fr.snoc X3 N0 g_b1
  obtain ⟨cl4, Ar4, q4, Z4, N4, H4, G4⟩ := id V_b1
  have hin4 : ¬ ((1 : Int32) < 0 ∨ cl4.slots.size ≤ ((1 : Int32)).toNatClampNeg) := inb_of Z4 ⟨by decide, by decide⟩
  obtain ⟨T5, h5, X5, e5, W5, st5⟩ := stC X3 hx hZ e3 Ar4 (j := (1 : Int32)) hin4 (g := (mkF m 47 #[.val (.int (2 : Int32)), .val (.int i), .val (.int j), .val (.int ((i &&& (255 : Int32)).toUInt32.toUInt16.toUInt32.toInt32)), .val (.int ((j &&& (255 : Int32)).toUInt32.toUInt16.toUInt32.toInt32))] [(.int ((j &&& (255 : Int32)).toUInt32.toUInt16.toUInt32.toInt32)), (.int (1 : Int32)), (.ref b1), (.ref b1)])) rfl rfl (hb hby d1_47)
  have V_b1 : Arv Z h5 b1 k1 .char (2 : Int32) [(.int (((i &&& (255 : Int32)).toUInt32.toUInt16.toUInt32.toInt32).toUInt32.toUInt16.toUInt32.toInt32)), (.int (((j &&& (255 : Int32)).toUInt32.toUInt16.toUInt32.toInt32).toUInt32.toUInt16.toUInt32.toInt32))] (.int (0 : Int32)) := Arv.set Ar4 q4 Z4 N4 H4 G4 (fits_nar_char _) W5 1 rfl (Nat.le_of_ble_eq_true rfl)
  have O := O.wr W5 g_b1
  have K := K.wr W5 (Or.inr z_b1)
  have N5 := Fr.snoc X5 N3 g_b1
  have w6 : ∀ t, Steps p.tables e below (T5.setTop (mkF m 48 #[.val (.int (2 : Int32)), .val (.int i), .val (.int j), .val (.int ((i &&& (255 : Int32)).toUInt32.toUInt16.toUInt32.toInt32)), .val (.int ((j &&& (255 : Int32)).toUInt32.toUInt16.toUInt32.toInt32))] [(.ref b1)])) t → Steps p.tables e below (s₁.setTop (entryFrame m #[(.int (2 : Int32)), (.int i), (.int j)] 5)) t := fun t k => by
    refine pre0 t ?_
    refine XS.iloadN X0.here hx rfl (hb hby d1_0) rfl ?_
    show Steps p.tables e below (s₁.setTop (mkF m 1 #[.val (.int (2 : Int32)), .val (.int i), .val (.int j), .unset, .unset] [(.int i)])) _
    refine XS.sipush X0.here hx rfl (hb hby d1_1) ?_
    show Steps p.tables e below (s₁.setTop (mkF m 4 #[.val (.int (2 : Int32)), .val (.int i), .val (.int j), .unset, .unset] [(.int (255 : Int32)), (.int i)])) _
    refine XS.iand X0.here hx rfl (hb hby d1_4) rfl ?_
    show Steps p.tables e below (s₁.setTop (mkF m 5 #[.val (.int (2 : Int32)), .val (.int i), .val (.int j), .unset, .unset] [(.int (i &&& (255 : Int32)))])) _
    refine XS.i2c X0.here hx rfl (hb hby d1_5) rfl ?_
    show Steps p.tables e below (s₁.setTop (mkF m 6 #[.val (.int (2 : Int32)), .val (.int i), .val (.int j), .unset, .unset] [(.int ((i &&& (255 : Int32)).toUInt32.toUInt16.toUInt32.toInt32))])) _
    refine XS.istoreN X0.here hx rfl (hb hby d1_6) rfl (l' := #[.val (.int (2 : Int32)), .val (.int i), .val (.int j), .val (.int ((i &&& (255 : Int32)).toUInt32.toUInt16.toUInt32.toInt32)), .unset]) rfl ?_
    show Steps p.tables e below (s₁.setTop (mkF m 7 #[.val (.int (2 : Int32)), .val (.int i), .val (.int j), .val (.int ((i &&& (255 : Int32)).toUInt32.toUInt16.toUInt32.toInt32)), .unset] [])) _
    refine XS.iloadN X0.here hx rfl (hb hby d1_7) rfl ?_
    show Steps p.tables e below (s₁.setTop (mkF m 8 #[.val (.int (2 : Int32)), .val (.int i), .val (.int j), .val (.int ((i &&& (255 : Int32)).toUInt32.toUInt16.toUInt32.toInt32)), .unset] [(.int j)])) _
    refine XS.sipush X0.here hx rfl (hb hby d1_8) ?_
    show Steps p.tables e below (s₁.setTop (mkF m 11 #[.val (.int (2 : Int32)), .val (.int i), .val (.int j), .val (.int ((i &&& (255 : Int32)).toUInt32.toUInt16.toUInt32.toInt32)), .unset] [(.int (255 : Int32)), (.int j)])) _
    refine XS.iand X0.here hx rfl (hb hby d1_11) rfl ?_
    show Steps p.tables e below (s₁.setTop (mkF m 12 #[.val (.int (2 : Int32)), .val (.int i), .val (.int j), .val (.int ((i &&& (255 : Int32)).toUInt32.toUInt16.toUInt32.toInt32)), .unset] [(.int (j &&& (255 : Int32)))])) _
    refine XS.i2c X0.here hx rfl (hb hby d1_12) rfl ?_
    show Steps p.tables e below (s₁.setTop (mkF m 13 #[.val (.int (2 : Int32)), .val (.int i), .val (.int j), .val (.int ((i &&& (255 : Int32)).toUInt32.toUInt16.toUInt32.toInt32)), .unset] [(.int ((j &&& (255 : Int32)).toUInt32.toUInt16.toUInt32.toInt32))])) _
    refine XS.istore X0.here hx rfl (hb hby d1_13) rfl (l' := #[.val (.int (2 : Int32)), .val (.int i), .val (.int j), .val (.int ((i &&& (255 : Int32)).toUInt32.toUInt16.toUInt32.toInt32)), .val (.int ((j &&& (255 : Int32)).toUInt32.toUInt16.toUInt32.toInt32))]) rfl ?_
    show Steps p.tables e below (s₁.setTop (mkF m 15 #[.val (.int (2 : Int32)), .val (.int i), .val (.int j), .val (.int ((i &&& (255 : Int32)).toUInt32.toUInt16.toUInt32.toInt32)), .val (.int ((j &&& (255 : Int32)).toUInt32.toUInt16.toUInt32.toInt32))] [])) _
    refine XS.iloadN X0.here hx rfl (hb hby d1_15) rfl ?_
    show Steps p.tables e below (s₁.setTop (mkF m 16 #[.val (.int (2 : Int32)), .val (.int i), .val (.int j), .val (.int ((i &&& (255 : Int32)).toUInt32.toUInt16.toUInt32.toInt32)), .val (.int ((j &&& (255 : Int32)).toUInt32.toUInt16.toUInt32.toInt32))] [(.int (2 : Int32))])) _
    refine XS.ifYes X0.here hx rfl (pc0 := 16) (pc' := 23) rfl (hb hby d1_16) rfl ((if0 _ _).trans (feq ((by decide) : ¬ ((2 : Int32) = (0 : Int32)))).2) (by decide) (by decide) ?_
    show Steps p.tables e below (s₁.setTop (mkF m 23 #[.val (.int (2 : Int32)), .val (.int i), .val (.int j), .val (.int ((i &&& (255 : Int32)).toUInt32.toUInt16.toUInt32.toInt32)), .val (.int ((j &&& (255 : Int32)).toUInt32.toUInt16.toUInt32.toInt32))] [])) _
    refine XS.iloadN X0.here hx rfl (hb hby d1_23) rfl ?_
    show Steps p.tables e below (s₁.setTop (mkF m 24 #[.val (.int (2 : Int32)), .val (.int i), .val (.int j), .val (.int ((i &&& (255 : Int32)).toUInt32.toUInt16.toUInt32.toInt32)), .val (.int ((j &&& (255 : Int32)).toUInt32.toUInt16.toUInt32.toInt32))] [(.int (2 : Int32))])) _
    refine XS.iconst X0.here hx rfl (hb hby d1_24) ?_
    show Steps p.tables e below (s₁.setTop (mkF m 25 #[.val (.int (2 : Int32)), .val (.int i), .val (.int j), .val (.int ((i &&& (255 : Int32)).toUInt32.toUInt16.toUInt32.toInt32)), .val (.int ((j &&& (255 : Int32)).toUInt32.toUInt16.toUInt32.toInt32))] [(.int (1 : Int32)), (.int (2 : Int32))])) _
    refine XS.icmpYes X0.here hx rfl (pc0 := 25) (pc' := 36) rfl (hb hby d1_25) rfl (feq ((by decide) : ¬ ((2 : Int32) = (1 : Int32)))).2 (by decide) (by decide) ?_
    show Steps p.tables e below (s₁.setTop (mkF m 36 #[.val (.int (2 : Int32)), .val (.int i), .val (.int j), .val (.int ((i &&& (255 : Int32)).toUInt32.toUInt16.toUInt32.toInt32)), .val (.int ((j &&& (255 : Int32)).toUInt32.toUInt16.toUInt32.toInt32))] [])) _
    refine XS.iconst X0.here hx rfl (hb hby d1_36) ?_
    show Steps p.tables e below (s₁.setTop (mkF m 37 #[.val (.int (2 : Int32)), .val (.int i), .val (.int j), .val (.int ((i &&& (255 : Int32)).toUInt32.toUInt16.toUInt32.toInt32)), .val (.int ((j &&& (255 : Int32)).toUInt32.toUInt16.toUInt32.toInt32))] [(.int (2 : Int32))])) _
    refine st1 _ ?_
    show Steps p.tables e below (T1.setTop (mkF m 39 #[.val (.int (2 : Int32)), .val (.int i), .val (.int j), .val (.int ((i &&& (255 : Int32)).toUInt32.toUInt16.toUInt32.toInt32)), .val (.int ((j &&& (255 : Int32)).toUInt32.toUInt16.toUInt32.toInt32))] [(.ref b1)])) _
    refine XS.dup X1.here hx rfl (hb hby d1_39) rfl rfl ?_
    show Steps p.tables e below (T1.setTop (mkF m 40 #[.val (.int (2 : Int32)), .val (.int i), .val (.int j), .val (.int ((i &&& (255 : Int32)).toUInt32.toUInt16.toUInt32.toInt32)), .val (.int ((j &&& (255 : Int32)).toUInt32.toUInt16.toUInt32.toInt32))] [(.ref b1), (.ref b1)])) _
    refine XS.iconst X1.here hx rfl (hb hby d1_40) ?_
    show Steps p.tables e below (T1.setTop (mkF m 41 #[.val (.int (2 : Int32)), .val (.int i), .val (.int j), .val (.int ((i &&& (255 : Int32)).toUInt32.toUInt16.toUInt32.toInt32)), .val (.int ((j &&& (255 : Int32)).toUInt32.toUInt16.toUInt32.toInt32))] [(.int (0 : Int32)), (.ref b1), (.ref b1)])) _
    refine XS.iloadN X1.here hx rfl (hb hby d1_41) rfl ?_
    show Steps p.tables e below (T1.setTop (mkF m 42 #[.val (.int (2 : Int32)), .val (.int i), .val (.int j), .val (.int ((i &&& (255 : Int32)).toUInt32.toUInt16.toUInt32.toInt32)), .val (.int ((j &&& (255 : Int32)).toUInt32.toUInt16.toUInt32.toInt32))] [(.int ((i &&& (255 : Int32)).toUInt32.toUInt16.toUInt32.toInt32)), (.int (0 : Int32)), (.ref b1), (.ref b1)])) _
    refine st3 _ ?_
    show Steps p.tables e below (T3.setTop (mkF m 43 #[.val (.int (2 : Int32)), .val (.int i), .val (.int j), .val (.int ((i &&& (255 : Int32)).toUInt32.toUInt16.toUInt32.toInt32)), .val (.int ((j &&& (255 : Int32)).toUInt32.toUInt16.toUInt32.toInt32))] [(.ref b1)])) _
    refine XS.dup X3.here hx rfl (hb hby d1_43) rfl rfl ?_
    show Steps p.tables e below (T3.setTop (mkF m 44 #[.val (.int (2 : Int32)), .val (.int i), .val (.int j), .val (.int ((i &&& (255 : Int32)).toUInt32.toUInt16.toUInt32.toInt32)), .val (.int ((j &&& (255 : Int32)).toUInt32.toUInt16.toUInt32.toInt32))] [(.ref b1), (.ref b1)])) _
    refine XS.iconst X3.here hx rfl (hb hby d1_44) ?_
    show Steps p.tables e below (T3.setTop (mkF m 45 #[.val (.int (2 : Int32)), .val (.int i), .val (.int j), .val (.int ((i &&& (255 : Int32)).toUInt32.toUInt16.toUInt32.toInt32)), .val (.int ((j &&& (255 : Int32)).toUInt32.toUInt16.toUInt32.toInt32))] [(.int (1 : Int32)), (.ref b1), (.ref b1)])) _
    refine XS.iload X3.here hx rfl (hb hby d1_45) rfl ?_
    show Steps p.tables e below (T3.setTop (mkF m 47 #[.val (.int (2 : Int32)), .val (.int i), .val (.int j), .val (.int ((i &&& (255 : Int32)).toUInt32.toUInt16.toUInt32.toInt32)), .val (.int ((j &&& (255 : Int32)).toUInt32.toUInt16.toUInt32.toInt32))] [(.int ((j &&& (255 : Int32)).toUInt32.toUInt16.toUInt32.toInt32)), (.int (1 : Int32)), (.ref b1), (.ref b1)])) _
    refine st5 _ ?_
    show Steps p.tables e below (T5.setTop (mkF m 48 #[.val (.int (2 : Int32)), .val (.int i), .val (.int j), .val (.int ((i &&& (255 : Int32)).toUInt32.toUInt16.toUInt32.toInt32)), .val (.int ((j &&& (255 : Int32)).toUInt32.toUInt16.toUInt32.toInt32))] [(.ref b1)])) _
    exact k
  obtain ⟨fs, hr, hrun, hended, hW, hsame⟩ := X5.leave (v := some (.ref b1)) (fun h => by rw [Bd.returns] at h; cases h)
  refine ⟨_, _, w6 _ ?_, hrun, hended, _, _, rfl, ?_, ⟨_, rfl⟩, hW, hsame.mono (by decide) (by decide)⟩
  · jvm_step X5.here [X5.here.top, hx, (hb hby d1_48), X5.method', Bd.returns, Value.isRef, FieldType.isReference]
    first | (intro acts; rw [hr _ acts rfl rfl rfl]) | rw [hr _ _ rfl rfl rfl]
    exact Steps.refl _
  · show Q1_2 Z i j  h0 n0 _ T5.heap _
    rw [e5]
    exact ⟨b1, k1, (((i &&& (255 : Int32)).toUInt32.toUInt16.toUInt32.toInt32).toUInt32.toUInt16.toUInt32.toInt32), (((j &&& (255 : Int32)).toUInt32.toUInt16.toUInt32.toInt32).toUInt32.toUInt16.toUInt32.toInt32), rfl, N5, K, V_b1, z_b1, g_b1, own_bI _, own_bI _⟩
theorem d6_0 : decode jdk_30_method_1_code 0 = .ok (.aload_n 0, 1) := by decide +kernel
theorem d6_1 : decode jdk_30_method_1_code 1 = .ok (.invokespecial 1, 3) := by decide +kernel
theorem d6_4 : decode jdk_30_method_1_code 4 = .ok (.return_, 1) := by decide +kernel
theorem pn_java_lang_Record : plainName "java/lang/Record" = true := by first | (simp [plainName, overriddenIn]; done) | decide +kernel
theorem ef_6 (m : MethodId) (x0 : Addr) : entryFrame m #[(.ref x0)] 1 = mkF m 0 #[.val (.ref x0)] [] := by first | (simp [entryFrame, mkF, argsToLocals, Value.category]; done) | rfl
def Q6 (Z : State) (a : Addr) (h0 : Heap) (n0 : Nat) (v : Option Value) (h : Heap) (L : List Loc) : Prop := v = none ∧ Fr n0 L ∧ h = h0
set_option maxRecDepth 65536 in
set_option maxHeartbeats 40000000 in
theorem rm6 (l : Launch) (Z : State) (a0 : Array Value) (hw : ∀ d ∈ tables_1, d.before a0 Z = true) (ws : List Jvm.Cond) (a : Addr) (h0 : Heap) (n0 : Nat) (O0 : Old Z n0 h0) :
    MetFree l (⟨"java/lang/Record", "<init>", "()V"⟩ : MethodName) (head1 (Jvm.Cond.code (⟨"java/lang/Record", "<init>", "()V"⟩ : MethodName) jdk_30_method_1_code 1 none :: ws) ({ frames := 1, cells := 0, slots := 0, locals := 12 } : Room)) (fun aA uU => aA = #[(.ref a)] ∧ Z.Warmed39 uU.vm ∧ uU.heap = h0) (fun _ _ _ _ _ => True) (fun _ uU oO uU' => ∃ vV lL, oO = .returned vV ∧ Q6 Z a  h0 n0 vV uU'.heap lL ∧ FrameEnd uU oO uU' lL ({ frames := 1, cells := 0, slots := 0, locals := 12 } : Room).cells ({ frames := 1, cells := 0, slots := 0, locals := 12 } : Room).slots) := by
  refine MetFree.of_bodySF (plainFor_of_name pn_java_lang_Record) hisR ?_
  intro p e s m args below meth c s₁ Bd hml0 hP hK
  obtain ⟨rfl, hZ, hh⟩ := hP
  have hx := Bd.exec
  have hby := Bd.bytes
  have hml : c.maxLocals = 1 := hml0
  have hown : s.vm.findClass "java/lang/Record" = some m.cls := findClass_of_methodNamed Bd.named
  have hnm := (name_of_methodNamed Bd.named Bd.method).1
  have X0 : Stand p l e ({ frames := 1, cells := 0, slots := 0, locals := 12 } : Room) s m #[(.ref a)] below meth c s₁ [] 0 0 := Stand.of_body Bd
  have e0 : s₁.heap = h0 := by rw [← hh, Bd.state]; rfl
  have N0 := Fr.nil n0
  have O := O0
  have pre0 : ∀ t, Steps p.tables e below (s₁.setTop (mkF m 0 #[.val (.ref a)] [])) t → Steps p.tables e below (s₁.setTop (entryFrame m #[(.ref a)] 1)) t := fun t k => castTop (ef_6 m a) k
  obtain ⟨T1, X1, e1, st1⟩ := initO X0 hx hZ hown (hw _ (List.mem_of_getElem? (i := 37) rfl)) (hw _ (List.mem_of_getElem? (i := 16) rfl)) (hw _ (List.mem_of_getElem? (i := 17) rfl)) e0 (g := (mkF m 1 #[.val (.ref a)] [(.ref a)])) rfl (by rw [hml]; rfl) rfl (hb hby d6_1) (by decide) (W := 0) (by show 2 * 0 + _ ≤ _; exact Nat.le_of_eq rfl) (by decide)
  have w2 : ∀ t, Steps p.tables e below (T1.setTop (mkF m 4 #[.val (.ref a)] [])) t → Steps p.tables e below (s₁.setTop (entryFrame m #[(.ref a)] 1)) t := fun t k => by
    refine pre0 t ?_
    refine XS.aloadN X0.here hx rfl (hb hby d6_0) rfl rfl ?_
    show Steps p.tables e below (s₁.setTop (mkF m 1 #[.val (.ref a)] [(.ref a)])) _
    refine st1 _ ?_
    show Steps p.tables e below (T1.setTop (mkF m 4 #[.val (.ref a)] [])) _
    exact k
  obtain ⟨fs, hr, hrun, hended, hW, hsame⟩ := X1.leave (v := none) (fun _ => rfl)
  refine ⟨_, _, w2 _ ?_, hrun, hended, _, _, rfl, ?_, ⟨_, rfl⟩, hW, hsame.mono (by decide) (by decide)⟩
  · exact X1.returnOut hx Bd.returns (hb hby d6_4) hr
  · show Q6 Z a  h0 n0 _ T1.heap _
    rw [e1]
    exact ⟨rfl, N0, rfl⟩
theorem d5_0 : decode prog_44_method_1_code 0 = .ok (.aload_n 0, 1) := by decide +kernel
theorem d5_1 : decode prog_44_method_1_code 1 = .ok (.invokespecial 1, 3) := by decide +kernel
theorem pd__40_41V : parseMethodDescriptor "()V" = some ⟨[], none⟩ := by decide +kernel
theorem d5_4 : decode prog_44_method_1_code 4 = .ok (.aload_n 0, 1) := by decide +kernel
theorem d5_5 : decode prog_44_method_1_code 5 = .ok (.iload_n 1, 1) := by decide +kernel
theorem d5_6 : decode prog_44_method_1_code 6 = .ok (.putfield 7, 3) := by decide +kernel
theorem d5_9 : decode prog_44_method_1_code 9 = .ok (.aload_n 0, 1) := by decide +kernel
theorem d5_10 : decode prog_44_method_1_code 10 = .ok (.iload_n 2, 1) := by decide +kernel
theorem d5_11 : decode prog_44_method_1_code 11 = .ok (.putfield 13, 3) := by decide +kernel
theorem d5_14 : decode prog_44_method_1_code 14 = .ok (.aload_n 0, 1) := by decide +kernel
theorem d5_15 : decode prog_44_method_1_code 15 = .ok (.aload_n 3, 1) := by decide +kernel
theorem d5_16 : decode prog_44_method_1_code 16 = .ok (.putfield 16, 3) := by decide +kernel
theorem d5_19 : decode prog_44_method_1_code 19 = .ok (.return_, 1) := by decide +kernel
theorem pn_com_example_whirligig_whirligig_DownloadInfoIndication_Unreadable : plainName "com/example/whirligig/whirligig/DownloadInfoIndication$Unreadable" = true := by first | (simp [plainName, overriddenIn]; done) | decide +kernel
theorem ef_5 (m : MethodId) (x0 : Addr) (x1 : Int32) (x2 : Int32) (x3 : Addr) : entryFrame m #[(.ref x0), (.int x1), (.int x2), (.ref x3)] 4 = mkF m 0 #[.val (.ref x0), .val (.int x1), .val (.int x2), .val (.ref x3)] [] := by first | (simp [entryFrame, mkF, argsToLocals, Value.category]; done) | rfl
def Q5 (Z : State) (a : Addr) (i : Int32) (j : Int32) (b : Addr) (h0 : Heap) (n0 : Nat) (v : Option Value) (h : Heap) (L : List Loc) : Prop := v = none ∧ Fr n0 L ∧ Keep h0 h [a] ∧ Fld Z h a "com/example/whirligig/whirligig/DownloadInfoIndication$Unreadable" "id" "I" (.int i) ∧ Fld Z h a "com/example/whirligig/whirligig/DownloadInfoIndication$Unreadable" "version" "I" (.int j) ∧ Fld Z h a "com/example/whirligig/whirligig/DownloadInfoIndication$Unreadable" "reason" "Ljava/lang/String;" (.ref b)
set_option maxRecDepth 65536 in
set_option maxHeartbeats 40000000 in
theorem rm5 (l : Launch) (Z : State) (a0 : Array Value) (hw : ∀ d ∈ tables_1, d.before a0 Z = true) (ws : List Jvm.Cond) (a : Addr) (i : Int32) (j : Int32) (b : Addr) (h0 : Heap) (n0 : Nat) (O0 : Old Z n0 h0) (E_a : Exa Z h0 a "com/example/whirligig/whirligig/DownloadInfoIndication$Unreadable") (F_i_a : Fld Z h0 a "com/example/whirligig/whirligig/DownloadInfoIndication$Unreadable" "id" "I" (.int (0 : Int32))) (F_w_a : Fld Z h0 a "com/example/whirligig/whirligig/DownloadInfoIndication$Unreadable" "version" "I" (.int (0 : Int32))) (F_r_a : Fld Z h0 a "com/example/whirligig/whirligig/DownloadInfoIndication$Unreadable" "reason" "Ljava/lang/String;" .null) (g_a : n0 ≤ a) :
    MetFree l (⟨"com/example/whirligig/whirligig/DownloadInfoIndication$Unreadable", "<init>", "(IILjava/lang/String;)V"⟩ : MethodName) (head1 (Jvm.Cond.code (⟨"com/example/whirligig/whirligig/DownloadInfoIndication$Unreadable", "<init>", "(IILjava/lang/String;)V"⟩ : MethodName) prog_44_method_1_code 4 none :: ws) ({ frames := 2, cells := 0, slots := 0, locals := 24 } : Room)) (fun aA uU => aA = #[(.ref a), (.int i), (.int j), (.ref b)] ∧ Z.Warmed39 uU.vm ∧ uU.heap = h0) (fun _ _ _ _ _ => True) (fun _ uU oO uU' => ∃ vV lL, oO = .returned vV ∧ Q5 Z a i j b  h0 n0 vV uU'.heap lL ∧ FrameEnd uU oO uU' lL ({ frames := 2, cells := 0, slots := 0, locals := 24 } : Room).cells ({ frames := 2, cells := 0, slots := 0, locals := 24 } : Room).slots) := by
  refine MetFree.of_bodySF (plainFor_of_name pn_com_example_whirligig_whirligig_DownloadInfoIndication_Unreadable) hisR ?_
  intro p e s m args below meth c s₁ Bd hml0 hP hK
  obtain ⟨rfl, hZ, hh⟩ := hP
  have hx := Bd.exec
  have hby := Bd.bytes
  have hml : c.maxLocals = 4 := hml0
  have hown : s.vm.findClass "com/example/whirligig/whirligig/DownloadInfoIndication$Unreadable" = some m.cls := findClass_of_methodNamed Bd.named
  have hnm := (name_of_methodNamed Bd.named Bd.method).1
  have X0 : Stand p l e ({ frames := 2, cells := 0, slots := 0, locals := 24 } : Room) s m #[(.ref a), (.int i), (.int j), (.ref b)] below meth c s₁ [] 0 0 := Stand.of_body Bd
  have e0 : s₁.heap = h0 := by rw [← hh, Bd.state]; rfl
  have N0 := Fr.nil n0
  have O := O0
  have K := Keep.refl h0 [a]
  have pre0 : ∀ t, Steps p.tables e below (s₁.setTop (mkF m 0 #[.val (.ref a), .val (.int i), .val (.int j), .val (.ref b)] [])) t → Steps p.tables e below (s₁.setTop (entryFrame m #[(.ref a), (.int i), (.int j), (.ref b)] 4)) t := fun t k => castTop (ef_5 m a i j b) k
  obtain ⟨_, _, ⟨T1, L1, k1, n1⟩, -, X1, ⟨Lc1, hQ1, l1, y1, z1⟩, st1⟩ := X0.specialBack hx (y := (⟨"java/lang/Record", "<init>", "()V"⟩ : MethodName)) rfl hown (mvT hZ (hw _ (List.mem_of_getElem? (i := 32) rfl))) (mvT hZ (hw _ (List.mem_of_getElem? (i := 33) rfl))) (mvT hZ (hw _ (List.mem_of_getElem? (i := 36) rfl))) (by decide) (backOf (W := 0) (rm6 l Z a0 hw [] a h0 n0 O ) hZ (hw _ (List.mem_of_getElem? (i := 36) rfl)) (hw _ (List.mem_of_getElem? (i := 35) rfl)) (by decide) (by decide)) (g := (mkF m 1 #[.val (.ref a), .val (.int i), .val (.int j), .val (.ref b)] [(.ref a)])) rfl (by rw [hml]; rfl) (Steps.refl _) (a := a) (argsL := []) (rest := []) (lenOf pd__40_41V rfl) rfl (by show 2 * 0 + _ ≤ _; exact Nat.le_of_eq rfl) (hb hby d5_1) (fun _ _ => ⟨rfl, e0, (by decide : 0 + 0 ≤ _), (by decide : 0 + 0 ≤ _)⟩)
  dsimp only [Pt.U, Pt.locs, Pt.cells, Pt.slots] at X1 l1 y1 z1 st1 hQ1
  subst l1 y1 z1
  obtain ⟨rfl, N1q, eh1⟩ := hQ1
  have N1 := Fr.app N0 N1q
  obtain ⟨T2, h2, X2, e2, W2, st2⟩ := putF X1 hx hZ hown (host := "") (Or.inl (hw _ (List.mem_of_getElem? (i := 38) rfl))) Via.refl eh1 F_i_a E_a (Or.inr ⟨(hw _ (List.mem_of_getElem? (i := 39) rfl)), rfl, hnm⟩) (hw _ (List.mem_of_getElem? (i := 27) rfl)) (ty := .int) (by decide) rfl rfl (g := (mkF m 6 #[.val (.ref a), .val (.int i), .val (.int j), .val (.ref b)] [(.int i), (.ref a)])) rfl rfl (hb hby d5_6)
  have F_i_a := F_i_a.same W2
  have E_a := E_a.wr W2
  have F_w_a := F_w_a.other W2 (Or.inr (slot_ne (Or.inr (hw _ (List.mem_of_getElem? (i := 41) rfl))) (Or.inr (hw _ (List.mem_of_getElem? (i := 39) rfl))) (by decide) (t := .int) (t' := .int) (by decide) (by decide)))
  have F_r_a := F_r_a.other W2 (Or.inr (slot_ne (Or.inr (hw _ (List.mem_of_getElem? (i := 43) rfl))) (Or.inr (hw _ (List.mem_of_getElem? (i := 39) rfl))) (by decide) (t := (.object "java/lang/String")) (t' := .int) (by decide) (by decide)))
  have O := O.wr W2 g_a
  have K := K.wr W2 (Or.inl (List.mem_of_getElem? (i := 0) rfl))
  have N2 := Fr.snoc X2 N1 g_a
  obtain ⟨T3, h3, X3, e3, W3, st3⟩ := putF X2 hx hZ hown (host := "") (Or.inl (hw _ (List.mem_of_getElem? (i := 40) rfl))) Via.refl e2 F_w_a E_a (Or.inr ⟨(hw _ (List.mem_of_getElem? (i := 41) rfl)), rfl, hnm⟩) (hw _ (List.mem_of_getElem? (i := 27) rfl)) (ty := .int) (by decide) rfl rfl (g := (mkF m 11 #[.val (.ref a), .val (.int i), .val (.int j), .val (.ref b)] [(.int j), (.ref a)])) rfl rfl (hb hby d5_11)
  have F_w_a := F_w_a.same W3
  have E_a := E_a.wr W3
  have F_i_a := F_i_a.other W3 (Or.inr (slot_ne (Or.inr (hw _ (List.mem_of_getElem? (i := 39) rfl))) (Or.inr (hw _ (List.mem_of_getElem? (i := 41) rfl))) (by decide) (t := .int) (t' := .int) (by decide) (by decide)))
  have F_r_a := F_r_a.other W3 (Or.inr (slot_ne (Or.inr (hw _ (List.mem_of_getElem? (i := 43) rfl))) (Or.inr (hw _ (List.mem_of_getElem? (i := 41) rfl))) (by decide) (t := (.object "java/lang/String")) (t' := .int) (by decide) (by decide)))
  have O := O.wr W3 g_a
  have K := K.wr W3 (Or.inl (List.mem_of_getElem? (i := 0) rfl))
  have N3 := Fr.snoc X3 N2 g_a
  obtain ⟨T4, h4, X4, e4, W4, st4⟩ := putF X3 hx hZ hown (host := "") (Or.inl (hw _ (List.mem_of_getElem? (i := 42) rfl))) Via.refl e3 F_r_a E_a (Or.inr ⟨(hw _ (List.mem_of_getElem? (i := 43) rfl)), rfl, hnm⟩) (hw _ (List.mem_of_getElem? (i := 27) rfl)) (ty := (.object "java/lang/String")) (by decide) rfl rfl (g := (mkF m 16 #[.val (.ref a), .val (.int i), .val (.int j), .val (.ref b)] [(.ref b), (.ref a)])) rfl rfl (hb hby d5_16)
  have F_r_a := F_r_a.same W4
  have E_a := E_a.wr W4
  have F_i_a := F_i_a.other W4 (Or.inr (slot_ne (Or.inr (hw _ (List.mem_of_getElem? (i := 39) rfl))) (Or.inr (hw _ (List.mem_of_getElem? (i := 43) rfl))) (by decide) (t := .int) (t' := (.object "java/lang/String")) (by decide) (by decide)))
  have F_w_a := F_w_a.other W4 (Or.inr (slot_ne (Or.inr (hw _ (List.mem_of_getElem? (i := 41) rfl))) (Or.inr (hw _ (List.mem_of_getElem? (i := 43) rfl))) (by decide) (t := .int) (t' := (.object "java/lang/String")) (by decide) (by decide)))
  have O := O.wr W4 g_a
  have K := K.wr W4 (Or.inl (List.mem_of_getElem? (i := 0) rfl))
  have N4 := Fr.snoc X4 N3 g_a
  have w5 : ∀ t, Steps p.tables e below (T4.setTop (mkF m 19 #[.val (.ref a), .val (.int i), .val (.int j), .val (.ref b)] [])) t → Steps p.tables e below (s₁.setTop (entryFrame m #[(.ref a), (.int i), (.int j), (.ref b)] 4)) t := fun t k => by
    refine pre0 t ?_
    refine XS.aloadN X0.here hx rfl (hb hby d5_0) rfl rfl ?_
    show Steps p.tables e below (s₁.setTop (mkF m 1 #[.val (.ref a), .val (.int i), .val (.int j), .val (.ref b)] [(.ref a)])) _
    refine st1.trans ?_
    show Steps p.tables e below (T1.setTop (mkF m 4 #[.val (.ref a), .val (.int i), .val (.int j), .val (.ref b)] [])) _
    refine XS.aloadN X1.here hx rfl (hb hby d5_4) rfl rfl ?_
    show Steps p.tables e below (T1.setTop (mkF m 5 #[.val (.ref a), .val (.int i), .val (.int j), .val (.ref b)] [(.ref a)])) _
    refine XS.iloadN X1.here hx rfl (hb hby d5_5) rfl ?_
    show Steps p.tables e below (T1.setTop (mkF m 6 #[.val (.ref a), .val (.int i), .val (.int j), .val (.ref b)] [(.int i), (.ref a)])) _
    refine st2 _ ?_
    show Steps p.tables e below (T2.setTop (mkF m 9 #[.val (.ref a), .val (.int i), .val (.int j), .val (.ref b)] [])) _
    refine XS.aloadN X2.here hx rfl (hb hby d5_9) rfl rfl ?_
    show Steps p.tables e below (T2.setTop (mkF m 10 #[.val (.ref a), .val (.int i), .val (.int j), .val (.ref b)] [(.ref a)])) _
    refine XS.iloadN X2.here hx rfl (hb hby d5_10) rfl ?_
    show Steps p.tables e below (T2.setTop (mkF m 11 #[.val (.ref a), .val (.int i), .val (.int j), .val (.ref b)] [(.int j), (.ref a)])) _
    refine st3 _ ?_
    show Steps p.tables e below (T3.setTop (mkF m 14 #[.val (.ref a), .val (.int i), .val (.int j), .val (.ref b)] [])) _
    refine XS.aloadN X3.here hx rfl (hb hby d5_14) rfl rfl ?_
    show Steps p.tables e below (T3.setTop (mkF m 15 #[.val (.ref a), .val (.int i), .val (.int j), .val (.ref b)] [(.ref a)])) _
    refine XS.aloadN X3.here hx rfl (hb hby d5_15) rfl rfl ?_
    show Steps p.tables e below (T3.setTop (mkF m 16 #[.val (.ref a), .val (.int i), .val (.int j), .val (.ref b)] [(.ref b), (.ref a)])) _
    refine st4 _ ?_
    show Steps p.tables e below (T4.setTop (mkF m 19 #[.val (.ref a), .val (.int i), .val (.int j), .val (.ref b)] [])) _
    exact k
  obtain ⟨fs, hr, hrun, hended, hW, hsame⟩ := X4.leave (v := none) (fun _ => rfl)
  refine ⟨_, _, w5 _ ?_, hrun, hended, _, _, rfl, ?_, ⟨_, rfl⟩, hW, hsame.mono (by decide) (by decide)⟩
  · exact X4.returnOut hx Bd.returns (hb hby d5_19) hr
  · show Q5 Z a i j b  h0 n0 _ T4.heap _
    rw [e4]
    exact ⟨rfl, N4, K, F_i_a, F_w_a, F_r_a⟩
theorem d7_0 : decode prog_44_method_2_code 0 = .ok (.aload_n 1, 1) := by decide +kernel
theorem d7_1 : decode prog_44_method_2_code 1 = .ok (.instanceof 8, 3) := by decide +kernel
theorem d7_4 : decode prog_44_method_2_code 4 = .ok (.ifCond .eq 48, 3) := by decide +kernel
theorem d7_7 : decode prog_44_method_2_code 7 = .ok (.aload_n 1, 1) := by decide +kernel
theorem d7_8 : decode prog_44_method_2_code 8 = .ok (.checkcast 8, 3) := by decide +kernel
theorem d7_11 : decode prog_44_method_2_code 11 = .ok (.astore_n 2, 1) := by decide +kernel
theorem d7_12 : decode prog_44_method_2_code 12 = .ok (.aload_n 0, 1) := by decide +kernel
theorem d7_13 : decode prog_44_method_2_code 13 = .ok (.getfield 7, 3) := by decide +kernel
theorem d7_16 : decode prog_44_method_2_code 16 = .ok (.aload_n 2, 1) := by decide +kernel
theorem d7_17 : decode prog_44_method_2_code 17 = .ok (.getfield 7, 3) := by decide +kernel
theorem d7_20 : decode prog_44_method_2_code 20 = .ok (.if_icmp .ne 32, 3) := by decide +kernel
theorem d7_23 : decode prog_44_method_2_code 23 = .ok (.aload_n 0, 1) := by decide +kernel
theorem d7_24 : decode prog_44_method_2_code 24 = .ok (.getfield 13, 3) := by decide +kernel
theorem d7_27 : decode prog_44_method_2_code 27 = .ok (.aload_n 2, 1) := by decide +kernel
theorem d7_28 : decode prog_44_method_2_code 28 = .ok (.getfield 13, 3) := by decide +kernel
theorem d7_31 : decode prog_44_method_2_code 31 = .ok (.if_icmp .ne 21, 3) := by decide +kernel
theorem d7_34 : decode prog_44_method_2_code 34 = .ok (.aload_n 0, 1) := by decide +kernel
theorem d7_35 : decode prog_44_method_2_code 35 = .ok (.getfield 16, 3) := by decide +kernel
theorem d7_38 : decode prog_44_method_2_code 38 = .ok (.aload_n 2, 1) := by decide +kernel
theorem d7_39 : decode prog_44_method_2_code 39 = .ok (.getfield 16, 3) := by decide +kernel
theorem d7_42 : decode prog_44_method_2_code 42 = .ok (.invokevirtual 20, 3) := by decide +kernel
theorem pd__40Ljava_47lang_47Object_59_41Z : parseMethodDescriptor "(Ljava/lang/Object;)Z" = some ⟨[(.object "java/lang/Object")], some .boolean⟩ := by decide +kernel
theorem d7_45 : decode prog_44_method_2_code 45 = .ok (.ifCond .eq 7, 3) := by decide +kernel
theorem d7_52 : decode prog_44_method_2_code 52 = .ok (.iconst 0, 1) := by decide +kernel
theorem d7_53 : decode prog_44_method_2_code 53 = .ok (.ireturn, 1) := by decide +kernel
theorem d7_48 : decode prog_44_method_2_code 48 = .ok (.iconst 1, 1) := by decide +kernel
theorem d7_49 : decode prog_44_method_2_code 49 = .ok (.goto 4, 3) := by decide +kernel
theorem ef_7 (m : MethodId) (x0 : Addr) (x1 : Addr) : entryFrame m #[(.ref x0), (.ref x1)] 3 = mkF m 0 #[.val (.ref x0), .val (.ref x1), .unset] [] := by first | (simp [entryFrame, mkF, argsToLocals, Value.category]; done) | rfl
def Q7 (Z : State) (a : Addr) (b : Addr) (i : Int32) (j : Int32) (iv : Int32) (iw : Int32) (r1 : Addr) (r2 : Addr) (t1 : Addr) (t2 : Addr) (kb : ClassId) (kc : ClassId) (cs : List Int32) (ds : List Int32) (zc : Int32) (h0 : Heap) (n0 : Nat) (v : Option Value) (h : Heap) (L : List Loc) : Prop := v = some (.int (own_e i j iv iw cs ds)) ∧ Fr n0 L ∧ h = h0
set_option maxRecDepth 65536 in
set_option maxHeartbeats 40000000 in
theorem rm7 (l : Launch) (Z : State) (a0 : Array Value) (hw : ∀ d ∈ tables_1, d.before a0 Z = true) (ws : List Jvm.Cond) (a : Addr) (b : Addr) (i : Int32) (j : Int32) (iv : Int32) (iw : Int32) (r1 : Addr) (r2 : Addr) (t1 : Addr) (t2 : Addr) (kb : ClassId) (kc : ClassId) (cs : List Int32) (ds : List Int32) (zc : Int32) (h0 : Heap) (n0 : Nat) (O0 : Old Z n0 h0) (E_b : Exa Z h0 b "com/example/whirligig/whirligig/DownloadInfoIndication$Unreadable") (F_i_a : Fld Z h0 a "com/example/whirligig/whirligig/DownloadInfoIndication$Unreadable" "id" "I" (.int i)) (F_i_b : Fld Z h0 b "com/example/whirligig/whirligig/DownloadInfoIndication$Unreadable" "id" "I" (.int j)) (F_w_a : Fld Z h0 a "com/example/whirligig/whirligig/DownloadInfoIndication$Unreadable" "version" "I" (.int iv)) (F_w_b : Fld Z h0 b "com/example/whirligig/whirligig/DownloadInfoIndication$Unreadable" "version" "I" (.int iw)) (F_r_a : Fld Z h0 a "com/example/whirligig/whirligig/DownloadInfoIndication$Unreadable" "reason" "Ljava/lang/String;" (.ref r1)) (F_r_b : Fld Z h0 b "com/example/whirligig/whirligig/DownloadInfoIndication$Unreadable" "reason" "Ljava/lang/String;" (.ref r2)) (E_r1 : Exa Z h0 r1 "java/lang/String") (F_v_r1 : Fld Z h0 r1 "java/lang/String" "value" "[B" (.ref t1)) (F_c_r1 : Fld Z h0 r1 "java/lang/String" "coder" "B" (.int (0 : Int32))) (V_t1 : Arv Z h0 t1 kb .byte (Int32.ofNat cs.length) ((cs.map (fun c => c.toInt8.toInt32)).map Value.int) (.int (0 : Int32))) (E_r2 : Exa Z h0 r2 "java/lang/String") (F_v_r2 : Fld Z h0 r2 "java/lang/String" "value" "[B" (.ref t2)) (F_c_r2 : Fld Z h0 r2 "java/lang/String" "coder" "B" (.int (0 : Int32))) (V_t2 : Arv Z h0 t2 kc .byte (Int32.ofNat ds.length) ((ds.map (fun c => c.toInt8.toInt32)).map Value.int) (.int (0 : Int32))) (hp : ∀ c ∈ cs, ¬ c < 0 ∧ ¬ (255 : Int32) < c) (hl : cs.length ≤ 4000) (hpd : ∀ c ∈ ds, ¬ c < 0 ∧ ¬ (255 : Int32) < c) (hld : ds.length ≤ 4000) (SC : Sta Z Z.heap "java/lang/String" "COMPACT_STRINGS" "Z" (.int zc)) (hzc : ¬ zc = 0) :
    MetFree l (⟨"com/example/whirligig/whirligig/DownloadInfoIndication$Unreadable", "equals", "(Ljava/lang/Object;)Z"⟩ : MethodName) (head1 (Jvm.Cond.code (⟨"com/example/whirligig/whirligig/DownloadInfoIndication$Unreadable", "equals", "(Ljava/lang/Object;)Z"⟩ : MethodName) prog_44_method_2_code 3 (some .boolean) :: ws) ({ frames := 2, cells := 0, slots := 0, locals := 28 } : Room)) (fun aA uU => aA = #[(.ref a), (.ref b)] ∧ Z.Warmed39 uU.vm ∧ uU.heap = h0) (fun _ _ _ _ _ => True) (fun _ uU oO uU' => ∃ vV lL, oO = .returned vV ∧ Q7 Z a b i j iv iw r1 r2 t1 t2 kb kc cs ds zc  h0 n0 vV uU'.heap lL ∧ FrameEnd uU oO uU' lL ({ frames := 2, cells := 0, slots := 0, locals := 28 } : Room).cells ({ frames := 2, cells := 0, slots := 0, locals := 28 } : Room).slots) := by
  refine MetFree.of_bodySF (plainFor_of_name pn_com_example_whirligig_whirligig_DownloadInfoIndication_Unreadable) hisR ?_
  intro p e s m args below meth c s₁ Bd hml0 hP hK
  obtain ⟨rfl, hZ, hh⟩ := hP
  have hx := Bd.exec
  have hby := Bd.bytes
  have hml : c.maxLocals = 3 := hml0
  have hown : s.vm.findClass "com/example/whirligig/whirligig/DownloadInfoIndication$Unreadable" = some m.cls := findClass_of_methodNamed Bd.named
  have hnm := (name_of_methodNamed Bd.named Bd.method).1
  have X0 : Stand p l e ({ frames := 2, cells := 0, slots := 0, locals := 28 } : Room) s m #[(.ref a), (.ref b)] below meth c s₁ [] 0 0 := Stand.of_body Bd
  have e0 : s₁.heap = h0 := by rw [← hh, Bd.state]; rfl
  have N0 := Fr.nil n0
  have O := O0
  have pre0 : ∀ t, Steps p.tables e below (s₁.setTop (mkF m 0 #[.val (.ref a), .val (.ref b), .unset] [])) t → Steps p.tables e below (s₁.setTop (entryFrame m #[(.ref a), (.ref b)] 3)) t := fun t k => castTop (ef_7 m a b) k
  obtain ⟨T1, X1, e1, st1⟩ := instY X0 hx hZ hown (hw _ (List.mem_of_getElem? (i := 49) rfl)) e0 (Ins.self E_b) (g := (mkF m 1 #[.val (.ref a), .val (.ref b), .unset] [(.ref b)])) rfl rfl (hb hby d7_1)
  obtain ⟨T2, X2, e2, st2⟩ := castY X1 hx hZ hown (hw _ (List.mem_of_getElem? (i := 49) rfl)) e1 (Ins.self E_b) (g := (mkF m 8 #[.val (.ref a), .val (.ref b), .unset] [(.ref b)])) rfl rfl (hb hby d7_8)
  obtain ⟨T3, X3, e3, st3⟩ := getF X2 hx hZ hown (host := "") (Or.inl (hw _ (List.mem_of_getElem? (i := 38) rfl))) Via.refl e2 F_i_a (g := (mkF m 13 #[.val (.ref a), .val (.ref b), .val (.ref b)] [(.ref a)])) rfl rfl (hb hby d7_13)
  obtain ⟨T4, X4, e4, st4⟩ := getF X3 hx hZ hown (host := "") (Or.inl (hw _ (List.mem_of_getElem? (i := 38) rfl))) Via.refl e3 F_i_b (g := (mkF m 17 #[.val (.ref a), .val (.ref b), .val (.ref b)] [(.ref b), (.int i)])) rfl rfl (hb hby d7_17)
  have w5 : ∀ t, Steps p.tables e below (T4.setTop (mkF m 20 #[.val (.ref a), .val (.ref b), .val (.ref b)] [(.int j), (.int i)])) t → Steps p.tables e below (s₁.setTop (entryFrame m #[(.ref a), (.ref b)] 3)) t := fun t k => by
    refine pre0 t ?_
    refine XS.aloadN X0.here hx rfl (hb hby d7_0) rfl rfl ?_
    show Steps p.tables e below (s₁.setTop (mkF m 1 #[.val (.ref a), .val (.ref b), .unset] [(.ref b)])) _
    refine st1 _ ?_
    show Steps p.tables e below (T1.setTop (mkF m 4 #[.val (.ref a), .val (.ref b), .unset] [(.int (1 : Int32))])) _
    refine XS.ifNo X1.here hx rfl (hb hby d7_4) rfl ((if0 _ _).trans (feq ((by decide) : ¬ ((1 : Int32) = (0 : Int32)))).1) ?_
    show Steps p.tables e below (T1.setTop (mkF m 7 #[.val (.ref a), .val (.ref b), .unset] [])) _
    refine XS.aloadN X1.here hx rfl (hb hby d7_7) rfl rfl ?_
    show Steps p.tables e below (T1.setTop (mkF m 8 #[.val (.ref a), .val (.ref b), .unset] [(.ref b)])) _
    refine st2 _ ?_
    show Steps p.tables e below (T2.setTop (mkF m 11 #[.val (.ref a), .val (.ref b), .unset] [(.ref b)])) _
    refine XS.astoreN X2.here hx rfl (hb hby d7_11) rfl rfl (l' := #[.val (.ref a), .val (.ref b), .val (.ref b)]) rfl ?_
    show Steps p.tables e below (T2.setTop (mkF m 12 #[.val (.ref a), .val (.ref b), .val (.ref b)] [])) _
    refine XS.aloadN X2.here hx rfl (hb hby d7_12) rfl rfl ?_
    show Steps p.tables e below (T2.setTop (mkF m 13 #[.val (.ref a), .val (.ref b), .val (.ref b)] [(.ref a)])) _
    refine st3 _ ?_
    show Steps p.tables e below (T3.setTop (mkF m 16 #[.val (.ref a), .val (.ref b), .val (.ref b)] [(.int i)])) _
    refine XS.aloadN X3.here hx rfl (hb hby d7_16) rfl rfl ?_
    show Steps p.tables e below (T3.setTop (mkF m 17 #[.val (.ref a), .val (.ref b), .val (.ref b)] [(.ref b), (.int i)])) _
    refine st4 _ ?_
    show Steps p.tables e below (T4.setTop (mkF m 20 #[.val (.ref a), .val (.ref b), .val (.ref b)] [(.int j), (.int i)])) _
    exact k
  by_cases hc20_6 : i = j
  · obtain ⟨T7, X7, e7, st7⟩ := getF X4 hx hZ hown (host := "") (Or.inl (hw _ (List.mem_of_getElem? (i := 40) rfl))) Via.refl e4 F_w_a (g := (mkF m 24 #[.val (.ref a), .val (.ref b), .val (.ref b)] [(.ref a)])) rfl rfl (hb hby d7_24)
    obtain ⟨T8, X8, e8, st8⟩ := getF X7 hx hZ hown (host := "") (Or.inl (hw _ (List.mem_of_getElem? (i := 40) rfl))) Via.refl e7 F_w_b (g := (mkF m 28 #[.val (.ref a), .val (.ref b), .val (.ref b)] [(.ref b), (.int iv)])) rfl rfl (hb hby d7_28)
    have w9 : ∀ t, Steps p.tables e below (T8.setTop (mkF m 31 #[.val (.ref a), .val (.ref b), .val (.ref b)] [(.int iw), (.int iv)])) t → Steps p.tables e below (s₁.setTop (entryFrame m #[(.ref a), (.ref b)] 3)) t := fun t k => by
      refine w5 t ?_
      refine XS.icmpNo X4.here hx rfl (hb hby d7_20) rfl (teq hc20_6).2 ?_
      show Steps p.tables e below (T4.setTop (mkF m 23 #[.val (.ref a), .val (.ref b), .val (.ref b)] [])) _
      refine XS.aloadN X4.here hx rfl (hb hby d7_23) rfl rfl ?_
      show Steps p.tables e below (T4.setTop (mkF m 24 #[.val (.ref a), .val (.ref b), .val (.ref b)] [(.ref a)])) _
      refine st7 _ ?_
      show Steps p.tables e below (T7.setTop (mkF m 27 #[.val (.ref a), .val (.ref b), .val (.ref b)] [(.int iv)])) _
      refine XS.aloadN X7.here hx rfl (hb hby d7_27) rfl rfl ?_
      show Steps p.tables e below (T7.setTop (mkF m 28 #[.val (.ref a), .val (.ref b), .val (.ref b)] [(.ref b), (.int iv)])) _
      refine st8 _ ?_
      show Steps p.tables e below (T8.setTop (mkF m 31 #[.val (.ref a), .val (.ref b), .val (.ref b)] [(.int iw), (.int iv)])) _
      exact k
    by_cases hc31_10 : iv = iw
    · obtain ⟨T11, X11, e11, st11⟩ := getF X8 hx hZ hown (host := "") (Or.inl (hw _ (List.mem_of_getElem? (i := 42) rfl))) Via.refl e8 F_r_a (g := (mkF m 35 #[.val (.ref a), .val (.ref b), .val (.ref b)] [(.ref a)])) rfl rfl (hb hby d7_35)
      obtain ⟨T12, X12, e12, st12⟩ := getF X11 hx hZ hown (host := "") (Or.inl (hw _ (List.mem_of_getElem? (i := 42) rfl))) Via.refl e11 F_r_b (g := (mkF m 39 #[.val (.ref a), .val (.ref b), .val (.ref b)] [(.ref b), (.ref r1)])) rfl rfl (hb hby d7_39)
      obtain ⟨cq13, kq13, q13a, q13b, q13c⟩ := isOf hZ e12 E_r1
      obtain ⟨v13, _, ⟨T13, L13, k13, n13⟩, -, X13, ⟨Lc13, hQ13, l13, y13, z13⟩, st13⟩ := X12.virtualBack hx (y := (⟨"java/lang/String", "equals", "(Ljava/lang/Object;)Z"⟩ : MethodName)) (z := (⟨"java/lang/String", "equals", "(Ljava/lang/Object;)Z"⟩ : MethodName)) hown (mvT hZ (hw _ (List.mem_of_getElem? (i := 51) rfl))) (mvT hZ (hw _ (List.mem_of_getElem? (i := 52) rfl))) (notFace_of_selects (args := #[]) (mvT hZ (hw _ (List.mem_of_getElem? (i := 54) rfl)))) (mvT hZ (hw _ (List.mem_of_getElem? (i := 54) rfl))) (mvT hZ (hw _ (List.mem_of_getElem? (i := 53) rfl))) (by decide) (StrChars.Road.eqW (W := 0) hZ (own_wEq hw) (kI := 4) (hw _ (List.mem_of_getElem? (i := 6) rfl)) E_r1 F_v_r1 F_c_r1 V_t1 (StrChars.Road.codOf rfl (fun c hc => (hp c hc).2)) (own_up hp) hl E_r2 F_v_r2 F_c_r2 V_t2 (StrChars.Road.codOf rfl (fun c hc => (hpd c hc).2)) (own_up hpd) hld (SC.ext O.2) hzc (by decide) (by decide)) q13a q13c (g := (mkF m 42 #[.val (.ref a), .val (.ref b), .val (.ref b)] [(.ref r2), (.ref r1)])) rfl (by rw [hml]; rfl) (Steps.refl _) (argsL := [(.ref r2)]) (rest := []) (lenOf pd__40Ljava_47lang_47Object_59_41Z rfl) rfl (by show 2 * 0 + _ ≤ _; exact Nat.le_of_eq rfl) (hb hby d7_42) (fun _ _ => ⟨rfl, e12, (by decide : 0 + 0 ≤ _), (by decide : 0 + 0 ≤ _)⟩)
      dsimp only [Pt.U, Pt.locs, Pt.cells, Pt.slots] at X13 l13 y13 z13 st13 hQ13
      subst l13 y13 z13
      obtain ⟨hv13, rfl, eh13⟩ := hQ13
      obtain rfl : v13 = some (.int (own_eqs cs ds)) := by rcases hv13 with ⟨h1, h2⟩ | ⟨h1, h2⟩ <;> rw [h1] <;> simp only [own_eqs, h2, if_true, if_false]
      have N13 := Fr.app N0 (Fr.nil n0)
      have w14 : ∀ t, Steps p.tables e below (T13.setTop (mkF m 45 #[.val (.ref a), .val (.ref b), .val (.ref b)] [(.int (own_eqs cs ds))])) t → Steps p.tables e below (s₁.setTop (entryFrame m #[(.ref a), (.ref b)] 3)) t := fun t k => by
        refine w9 t ?_
        refine XS.icmpNo X8.here hx rfl (hb hby d7_31) rfl (teq hc31_10).2 ?_
        show Steps p.tables e below (T8.setTop (mkF m 34 #[.val (.ref a), .val (.ref b), .val (.ref b)] [])) _
        refine XS.aloadN X8.here hx rfl (hb hby d7_34) rfl rfl ?_
        show Steps p.tables e below (T8.setTop (mkF m 35 #[.val (.ref a), .val (.ref b), .val (.ref b)] [(.ref a)])) _
        refine st11 _ ?_
        show Steps p.tables e below (T11.setTop (mkF m 38 #[.val (.ref a), .val (.ref b), .val (.ref b)] [(.ref r1)])) _
        refine XS.aloadN X11.here hx rfl (hb hby d7_38) rfl rfl ?_
        show Steps p.tables e below (T11.setTop (mkF m 39 #[.val (.ref a), .val (.ref b), .val (.ref b)] [(.ref b), (.ref r1)])) _
        refine st12 _ ?_
        show Steps p.tables e below (T12.setTop (mkF m 42 #[.val (.ref a), .val (.ref b), .val (.ref b)] [(.ref r2), (.ref r1)])) _
        refine st13.trans ?_
        show Steps p.tables e below (T13.setTop (mkF m 45 #[.val (.ref a), .val (.ref b), .val (.ref b)] [(.int (own_eqs cs ds))])) _
        exact k
      by_cases hc45_15 : (own_eqs cs ds) = (0 : Int32)
      · have w16 : ∀ t, Steps p.tables e below (T13.setTop (mkF m 53 #[.val (.ref a), .val (.ref b), .val (.ref b)] [(.int (0 : Int32))])) t → Steps p.tables e below (s₁.setTop (entryFrame m #[(.ref a), (.ref b)] 3)) t := fun t k => by
          refine w14 t ?_
          refine XS.ifYes X13.here hx rfl (pc0 := 45) (pc' := 52) rfl (hb hby d7_45) rfl ((if0 _ _).trans (teq hc45_15).1) (by decide) (by decide) ?_
          show Steps p.tables e below (T13.setTop (mkF m 52 #[.val (.ref a), .val (.ref b), .val (.ref b)] [])) _
          refine XS.iconst X13.here hx rfl (hb hby d7_52) ?_
          show Steps p.tables e below (T13.setTop (mkF m 53 #[.val (.ref a), .val (.ref b), .val (.ref b)] [(.int (0 : Int32))])) _
          exact k
        obtain ⟨fs, hr, hrun, hended, hW, hsame⟩ := X13.leave (v := some (.int (0 : Int32))) (fun h => by rw [Bd.returns] at h; cases h)
        refine ⟨_, _, w16 _ ?_, hrun, hended, _, _, rfl, ?_, ⟨_, rfl⟩, hW, hsame.mono (by decide) (by decide)⟩
        · exact retN X13 hx (t := .boolean) Bd.returns (by simp) (hb hby d7_53) hr
        · show Q7 Z a b i j iv iw r1 r2 t1 t2 kb kc cs ds zc  h0 n0 _ T13.heap _
          rw [eh13]
          exact ⟨(by simp [own_e, hc20_6, hc31_10, hc45_15]), N13, rfl⟩
      · have w17 : ∀ t, Steps p.tables e below (T13.setTop (mkF m 53 #[.val (.ref a), .val (.ref b), .val (.ref b)] [(.int (1 : Int32))])) t → Steps p.tables e below (s₁.setTop (entryFrame m #[(.ref a), (.ref b)] 3)) t := fun t k => by
          refine w14 t ?_
          refine XS.ifNo X13.here hx rfl (hb hby d7_45) rfl ((if0 _ _).trans (feq hc45_15).1) ?_
          show Steps p.tables e below (T13.setTop (mkF m 48 #[.val (.ref a), .val (.ref b), .val (.ref b)] [])) _
          refine XS.iconst X13.here hx rfl (hb hby d7_48) ?_
          show Steps p.tables e below (T13.setTop (mkF m 49 #[.val (.ref a), .val (.ref b), .val (.ref b)] [(.int (1 : Int32))])) _
          refine XS.goto X13.here hx rfl (pc0 := 49) (pc' := 53) rfl (hb hby d7_49) (by decide) (by decide) ?_
          show Steps p.tables e below (T13.setTop (mkF m 53 #[.val (.ref a), .val (.ref b), .val (.ref b)] [(.int (1 : Int32))])) _
          exact k
        obtain ⟨fs, hr, hrun, hended, hW, hsame⟩ := X13.leave (v := some (.int (1 : Int32))) (fun h => by rw [Bd.returns] at h; cases h)
        refine ⟨_, _, w17 _ ?_, hrun, hended, _, _, rfl, ?_, ⟨_, rfl⟩, hW, hsame.mono (by decide) (by decide)⟩
        · exact retN X13 hx (t := .boolean) Bd.returns (by simp) (hb hby d7_53) hr
        · show Q7 Z a b i j iv iw r1 r2 t1 t2 kb kc cs ds zc  h0 n0 _ T13.heap _
          rw [eh13]
          exact ⟨(by simp [own_e, hc20_6, hc31_10, hc45_15]), N13, rfl⟩
    · have w18 : ∀ t, Steps p.tables e below (T8.setTop (mkF m 53 #[.val (.ref a), .val (.ref b), .val (.ref b)] [(.int (0 : Int32))])) t → Steps p.tables e below (s₁.setTop (entryFrame m #[(.ref a), (.ref b)] 3)) t := fun t k => by
        refine w9 t ?_
        refine XS.icmpYes X8.here hx rfl (pc0 := 31) (pc' := 52) rfl (hb hby d7_31) rfl (feq hc31_10).2 (by decide) (by decide) ?_
        show Steps p.tables e below (T8.setTop (mkF m 52 #[.val (.ref a), .val (.ref b), .val (.ref b)] [])) _
        refine XS.iconst X8.here hx rfl (hb hby d7_52) ?_
        show Steps p.tables e below (T8.setTop (mkF m 53 #[.val (.ref a), .val (.ref b), .val (.ref b)] [(.int (0 : Int32))])) _
        exact k
      obtain ⟨fs, hr, hrun, hended, hW, hsame⟩ := X8.leave (v := some (.int (0 : Int32))) (fun h => by rw [Bd.returns] at h; cases h)
      refine ⟨_, _, w18 _ ?_, hrun, hended, _, _, rfl, ?_, ⟨_, rfl⟩, hW, hsame.mono (by decide) (by decide)⟩
      · exact retN X8 hx (t := .boolean) Bd.returns (by simp) (hb hby d7_53) hr
      · show Q7 Z a b i j iv iw r1 r2 t1 t2 kb kc cs ds zc  h0 n0 _ T8.heap _
        rw [e8]
        exact ⟨(by simp [own_e, hc20_6, hc31_10]), N0, rfl⟩
  · have w19 : ∀ t, Steps p.tables e below (T4.setTop (mkF m 53 #[.val (.ref a), .val (.ref b), .val (.ref b)] [(.int (0 : Int32))])) t → Steps p.tables e below (s₁.setTop (entryFrame m #[(.ref a), (.ref b)] 3)) t := fun t k => by
      refine w5 t ?_
      refine XS.icmpYes X4.here hx rfl (pc0 := 20) (pc' := 52) rfl (hb hby d7_20) rfl (feq hc20_6).2 (by decide) (by decide) ?_
      show Steps p.tables e below (T4.setTop (mkF m 52 #[.val (.ref a), .val (.ref b), .val (.ref b)] [])) _
      refine XS.iconst X4.here hx rfl (hb hby d7_52) ?_
      show Steps p.tables e below (T4.setTop (mkF m 53 #[.val (.ref a), .val (.ref b), .val (.ref b)] [(.int (0 : Int32))])) _
      exact k
    obtain ⟨fs, hr, hrun, hended, hW, hsame⟩ := X4.leave (v := some (.int (0 : Int32))) (fun h => by rw [Bd.returns] at h; cases h)
    refine ⟨_, _, w19 _ ?_, hrun, hended, _, _, rfl, ?_, ⟨_, rfl⟩, hW, hsame.mono (by decide) (by decide)⟩
    · exact retN X4 hx (t := .boolean) Bd.returns (by simp) (hb hby d7_53) hr
    · show Q7 Z a b i j iv iw r1 r2 t1 t2 kb kc cs ds zc  h0 n0 _ T4.heap _
      rw [e4]
      exact ⟨(by simp [own_e, hc20_6]), N0, rfl⟩
theorem ef_7_n (m : MethodId) (x0 : Addr) : entryFrame m #[(.ref x0), .null] 3 = mkF m 0 #[.val (.ref x0), .val .null, .unset] [] := by first | (simp [entryFrame, mkF, argsToLocals, Value.category]; done) | rfl
def Q7_n (Z : State) (a : Addr) (h0 : Heap) (n0 : Nat) (v : Option Value) (h : Heap) (L : List Loc) : Prop := v = some (.int (0 : Int32)) ∧ Fr n0 L ∧ h = h0
set_option maxRecDepth 65536 in
set_option maxHeartbeats 40000000 in
theorem rm7_n (l : Launch) (Z : State) (a0 : Array Value) (hw : ∀ d ∈ tables_1, d.before a0 Z = true) (ws : List Jvm.Cond) (a : Addr) (h0 : Heap) (n0 : Nat) (O0 : Old Z n0 h0) :
    MetFree l (⟨"com/example/whirligig/whirligig/DownloadInfoIndication$Unreadable", "equals", "(Ljava/lang/Object;)Z"⟩ : MethodName) (head1 (Jvm.Cond.code (⟨"com/example/whirligig/whirligig/DownloadInfoIndication$Unreadable", "equals", "(Ljava/lang/Object;)Z"⟩ : MethodName) prog_44_method_2_code 3 (some .boolean) :: ws) ({ frames := 0, cells := 0, slots := 0, locals := 0 } : Room)) (fun aA uU => aA = #[(.ref a), .null] ∧ Z.Warmed39 uU.vm ∧ uU.heap = h0) (fun _ _ _ _ _ => True) (fun _ uU oO uU' => ∃ vV lL, oO = .returned vV ∧ Q7_n Z a  h0 n0 vV uU'.heap lL ∧ FrameEnd uU oO uU' lL ({ frames := 0, cells := 0, slots := 0, locals := 0 } : Room).cells ({ frames := 0, cells := 0, slots := 0, locals := 0 } : Room).slots) := by
  refine MetFree.of_bodySF (plainFor_of_name pn_com_example_whirligig_whirligig_DownloadInfoIndication_Unreadable) hisR ?_
  intro p e s m args below meth c s₁ Bd hml0 hP hK
  obtain ⟨rfl, hZ, hh⟩ := hP
  have hx := Bd.exec
  have hby := Bd.bytes
  have hml : c.maxLocals = 3 := hml0
  have hown : s.vm.findClass "com/example/whirligig/whirligig/DownloadInfoIndication$Unreadable" = some m.cls := findClass_of_methodNamed Bd.named
  have hnm := (name_of_methodNamed Bd.named Bd.method).1
  have X0 : Stand p l e ({ frames := 0, cells := 0, slots := 0, locals := 0 } : Room) s m #[(.ref a), .null] below meth c s₁ [] 0 0 := Stand.of_body Bd
  have e0 : s₁.heap = h0 := by rw [← hh, Bd.state]; rfl
  have N0 := Fr.nil n0
  have O := O0
  have pre0 : ∀ t, Steps p.tables e below (s₁.setTop (mkF m 0 #[.val (.ref a), .val .null, .unset] [])) t → Steps p.tables e below (s₁.setTop (entryFrame m #[(.ref a), .null] 3)) t := fun t k => castTop (ef_7_n m a) k
  have w1 : ∀ t, Steps p.tables e below (s₁.setTop (mkF m 53 #[.val (.ref a), .val .null, .unset] [(.int (0 : Int32))])) t → Steps p.tables e below (s₁.setTop (entryFrame m #[(.ref a), .null] 3)) t := fun t k => by
    refine pre0 t ?_
    refine XS.aloadN X0.here hx rfl (hb hby d7_0) rfl rfl ?_
    show Steps p.tables e below (s₁.setTop (mkF m 1 #[.val (.ref a), .val .null, .unset] [.null])) _
    refine X0.instanceofNull hx (g := (mkF m 1 #[.val (.ref a), .val .null, .unset] [.null])) rfl rfl (hb hby d7_1) _ ?_
    show Steps p.tables e below (s₁.setTop (mkF m 4 #[.val (.ref a), .val .null, .unset] [(.int (0 : Int32))])) _
    refine XS.ifYes X0.here hx rfl (pc0 := 4) (pc' := 52) rfl (hb hby d7_4) rfl ((if0 _ _).trans (teq (rfl : (0 : Int32) = (0 : Int32))).1) (by decide) (by decide) ?_
    show Steps p.tables e below (s₁.setTop (mkF m 52 #[.val (.ref a), .val .null, .unset] [])) _
    refine XS.iconst X0.here hx rfl (hb hby d7_52) ?_
    show Steps p.tables e below (s₁.setTop (mkF m 53 #[.val (.ref a), .val .null, .unset] [(.int (0 : Int32))])) _
    exact k
  obtain ⟨fs, hr, hrun, hended, hW, hsame⟩ := X0.leave (v := some (.int (0 : Int32))) (fun h => by rw [Bd.returns] at h; cases h)
  refine ⟨_, _, w1 _ ?_, hrun, hended, _, _, rfl, ?_, ⟨_, rfl⟩, hW, hsame.mono (by decide) (by decide)⟩
  · exact retN X0 hx (t := .boolean) Bd.returns (by simp) (hb hby d7_53) hr
  · show Q7_n Z a  h0 n0 _ s₁.heap _
    rw [e0]
    exact ⟨rfl, N0, rfl⟩
theorem ef_7_S (m : MethodId) (x0 : Addr) (x1 : Addr) : entryFrame m #[(.ref x0), (.ref x1)] 3 = mkF m 0 #[.val (.ref x0), .val (.ref x1), .unset] [] := by first | (simp [entryFrame, mkF, argsToLocals, Value.category]; done) | rfl
def Q7_S (Z : State) (a : Addr) (b : Addr) (h0 : Heap) (n0 : Nat) (v : Option Value) (h : Heap) (L : List Loc) : Prop := v = some (.int (0 : Int32)) ∧ Fr n0 L ∧ h = h0
set_option maxRecDepth 65536 in
set_option maxHeartbeats 40000000 in
theorem rm7_S (l : Launch) (Z : State) (a0 : Array Value) (hw : ∀ d ∈ tables_1, d.before a0 Z = true) (ws : List Jvm.Cond) (a : Addr) (b : Addr) (h0 : Heap) (n0 : Nat) (O0 : Old Z n0 h0) (E_b : Exa Z h0 b "java/lang/String") :
    MetFree l (⟨"com/example/whirligig/whirligig/DownloadInfoIndication$Unreadable", "equals", "(Ljava/lang/Object;)Z"⟩ : MethodName) (head1 (Jvm.Cond.code (⟨"com/example/whirligig/whirligig/DownloadInfoIndication$Unreadable", "equals", "(Ljava/lang/Object;)Z"⟩ : MethodName) prog_44_method_2_code 3 (some .boolean) :: ws) ({ frames := 0, cells := 0, slots := 0, locals := 0 } : Room)) (fun aA uU => aA = #[(.ref a), (.ref b)] ∧ Z.Warmed39 uU.vm ∧ uU.heap = h0) (fun _ _ _ _ _ => True) (fun _ uU oO uU' => ∃ vV lL, oO = .returned vV ∧ Q7_S Z a b  h0 n0 vV uU'.heap lL ∧ FrameEnd uU oO uU' lL ({ frames := 0, cells := 0, slots := 0, locals := 0 } : Room).cells ({ frames := 0, cells := 0, slots := 0, locals := 0 } : Room).slots) := by
  refine MetFree.of_bodySF (plainFor_of_name pn_com_example_whirligig_whirligig_DownloadInfoIndication_Unreadable) hisR ?_
  intro p e s m args below meth c s₁ Bd hml0 hP hK
  obtain ⟨rfl, hZ, hh⟩ := hP
  have hx := Bd.exec
  have hby := Bd.bytes
  have hml : c.maxLocals = 3 := hml0
  have hown : s.vm.findClass "com/example/whirligig/whirligig/DownloadInfoIndication$Unreadable" = some m.cls := findClass_of_methodNamed Bd.named
  have hnm := (name_of_methodNamed Bd.named Bd.method).1
  have X0 : Stand p l e ({ frames := 0, cells := 0, slots := 0, locals := 0 } : Room) s m #[(.ref a), (.ref b)] below meth c s₁ [] 0 0 := Stand.of_body Bd
  have e0 : s₁.heap = h0 := by rw [← hh, Bd.state]; rfl
  have N0 := Fr.nil n0
  have O := O0
  have pre0 : ∀ t, Steps p.tables e below (s₁.setTop (mkF m 0 #[.val (.ref a), .val (.ref b), .unset] [])) t → Steps p.tables e below (s₁.setTop (entryFrame m #[(.ref a), (.ref b)] 3)) t := fun t k => castTop (ef_7_S m a b) k
  obtain ⟨T1, X1, e1, st1⟩ := instNo X0 hx hZ hown (hw _ (List.mem_of_getElem? (i := 49) rfl)) e0 E_b (own_noS hw) (g := (mkF m 1 #[.val (.ref a), .val (.ref b), .unset] [(.ref b)])) rfl rfl (hb hby d7_1)
  have w2 : ∀ t, Steps p.tables e below (T1.setTop (mkF m 53 #[.val (.ref a), .val (.ref b), .unset] [(.int (0 : Int32))])) t → Steps p.tables e below (s₁.setTop (entryFrame m #[(.ref a), (.ref b)] 3)) t := fun t k => by
    refine pre0 t ?_
    refine XS.aloadN X0.here hx rfl (hb hby d7_0) rfl rfl ?_
    show Steps p.tables e below (s₁.setTop (mkF m 1 #[.val (.ref a), .val (.ref b), .unset] [(.ref b)])) _
    refine st1 _ ?_
    show Steps p.tables e below (T1.setTop (mkF m 4 #[.val (.ref a), .val (.ref b), .unset] [(.int (0 : Int32))])) _
    refine XS.ifYes X1.here hx rfl (pc0 := 4) (pc' := 52) rfl (hb hby d7_4) rfl ((if0 _ _).trans (teq (rfl : (0 : Int32) = (0 : Int32))).1) (by decide) (by decide) ?_
    show Steps p.tables e below (T1.setTop (mkF m 52 #[.val (.ref a), .val (.ref b), .unset] [])) _
    refine XS.iconst X1.here hx rfl (hb hby d7_52) ?_
    show Steps p.tables e below (T1.setTop (mkF m 53 #[.val (.ref a), .val (.ref b), .unset] [(.int (0 : Int32))])) _
    exact k
  obtain ⟨fs, hr, hrun, hended, hW, hsame⟩ := X1.leave (v := some (.int (0 : Int32))) (fun h => by rw [Bd.returns] at h; cases h)
  refine ⟨_, _, w2 _ ?_, hrun, hended, _, _, rfl, ?_, ⟨_, rfl⟩, hW, hsame.mono (by decide) (by decide)⟩
  · exact retN X1 hx (t := .boolean) Bd.returns (by simp) (hb hby d7_53) hr
  · show Q7_S Z a b  h0 n0 _ T1.heap _
    rw [e1]
    exact ⟨rfl, N0, rfl⟩
theorem ef_7_I (m : MethodId) (x0 : Addr) (x1 : Addr) : entryFrame m #[(.ref x0), (.ref x1)] 3 = mkF m 0 #[.val (.ref x0), .val (.ref x1), .unset] [] := by first | (simp [entryFrame, mkF, argsToLocals, Value.category]; done) | rfl
def Q7_I (Z : State) (a : Addr) (b : Addr) (h0 : Heap) (n0 : Nat) (v : Option Value) (h : Heap) (L : List Loc) : Prop := v = some (.int (0 : Int32)) ∧ Fr n0 L ∧ h = h0
set_option maxRecDepth 65536 in
set_option maxHeartbeats 40000000 in
theorem rm7_I (l : Launch) (Z : State) (a0 : Array Value) (hw : ∀ d ∈ tables_1, d.before a0 Z = true) (ws : List Jvm.Cond) (a : Addr) (b : Addr) (h0 : Heap) (n0 : Nat) (O0 : Old Z n0 h0) (E_b : Exa Z h0 b "java/lang/Integer") :
    MetFree l (⟨"com/example/whirligig/whirligig/DownloadInfoIndication$Unreadable", "equals", "(Ljava/lang/Object;)Z"⟩ : MethodName) (head1 (Jvm.Cond.code (⟨"com/example/whirligig/whirligig/DownloadInfoIndication$Unreadable", "equals", "(Ljava/lang/Object;)Z"⟩ : MethodName) prog_44_method_2_code 3 (some .boolean) :: ws) ({ frames := 0, cells := 0, slots := 0, locals := 0 } : Room)) (fun aA uU => aA = #[(.ref a), (.ref b)] ∧ Z.Warmed39 uU.vm ∧ uU.heap = h0) (fun _ _ _ _ _ => True) (fun _ uU oO uU' => ∃ vV lL, oO = .returned vV ∧ Q7_I Z a b  h0 n0 vV uU'.heap lL ∧ FrameEnd uU oO uU' lL ({ frames := 0, cells := 0, slots := 0, locals := 0 } : Room).cells ({ frames := 0, cells := 0, slots := 0, locals := 0 } : Room).slots) := by
  refine MetFree.of_bodySF (plainFor_of_name pn_com_example_whirligig_whirligig_DownloadInfoIndication_Unreadable) hisR ?_
  intro p e s m args below meth c s₁ Bd hml0 hP hK
  obtain ⟨rfl, hZ, hh⟩ := hP
  have hx := Bd.exec
  have hby := Bd.bytes
  have hml : c.maxLocals = 3 := hml0
  have hown : s.vm.findClass "com/example/whirligig/whirligig/DownloadInfoIndication$Unreadable" = some m.cls := findClass_of_methodNamed Bd.named
  have hnm := (name_of_methodNamed Bd.named Bd.method).1
  have X0 : Stand p l e ({ frames := 0, cells := 0, slots := 0, locals := 0 } : Room) s m #[(.ref a), (.ref b)] below meth c s₁ [] 0 0 := Stand.of_body Bd
  have e0 : s₁.heap = h0 := by rw [← hh, Bd.state]; rfl
  have N0 := Fr.nil n0
  have O := O0
  have pre0 : ∀ t, Steps p.tables e below (s₁.setTop (mkF m 0 #[.val (.ref a), .val (.ref b), .unset] [])) t → Steps p.tables e below (s₁.setTop (entryFrame m #[(.ref a), (.ref b)] 3)) t := fun t k => castTop (ef_7_I m a b) k
  obtain ⟨T1, X1, e1, st1⟩ := instNo X0 hx hZ hown (hw _ (List.mem_of_getElem? (i := 49) rfl)) e0 E_b (own_noI hw) (g := (mkF m 1 #[.val (.ref a), .val (.ref b), .unset] [(.ref b)])) rfl rfl (hb hby d7_1)
  have w2 : ∀ t, Steps p.tables e below (T1.setTop (mkF m 53 #[.val (.ref a), .val (.ref b), .unset] [(.int (0 : Int32))])) t → Steps p.tables e below (s₁.setTop (entryFrame m #[(.ref a), (.ref b)] 3)) t := fun t k => by
    refine pre0 t ?_
    refine XS.aloadN X0.here hx rfl (hb hby d7_0) rfl rfl ?_
    show Steps p.tables e below (s₁.setTop (mkF m 1 #[.val (.ref a), .val (.ref b), .unset] [(.ref b)])) _
    refine st1 _ ?_
    show Steps p.tables e below (T1.setTop (mkF m 4 #[.val (.ref a), .val (.ref b), .unset] [(.int (0 : Int32))])) _
    refine XS.ifYes X1.here hx rfl (pc0 := 4) (pc' := 52) rfl (hb hby d7_4) rfl ((if0 _ _).trans (teq (rfl : (0 : Int32) = (0 : Int32))).1) (by decide) (by decide) ?_
    show Steps p.tables e below (T1.setTop (mkF m 52 #[.val (.ref a), .val (.ref b), .unset] [])) _
    refine XS.iconst X1.here hx rfl (hb hby d7_52) ?_
    show Steps p.tables e below (T1.setTop (mkF m 53 #[.val (.ref a), .val (.ref b), .unset] [(.int (0 : Int32))])) _
    exact k
  obtain ⟨fs, hr, hrun, hended, hW, hsame⟩ := X1.leave (v := some (.int (0 : Int32))) (fun h => by rw [Bd.returns] at h; cases h)
  refine ⟨_, _, w2 _ ?_, hrun, hended, _, _, rfl, ?_, ⟨_, rfl⟩, hW, hsame.mono (by decide) (by decide)⟩
  · exact retN X1 hx (t := .boolean) Bd.returns (by simp) (hb hby d7_53) hr
  · show Q7_I Z a b  h0 n0 _ T1.heap _
    rw [e1]
    exact ⟨rfl, N0, rfl⟩
theorem d15_0 : decode jdk_18_method_1_code 0 = .ok (.aload_n 0, 1) := by decide +kernel
theorem d15_1 : decode jdk_18_method_1_code 1 = .ok (.invokespecial 1, 3) := by decide +kernel
theorem d15_4 : decode jdk_18_method_1_code 4 = .ok (.return_, 1) := by decide +kernel
theorem pn_java_lang_Number : plainName "java/lang/Number" = true := by first | (simp [plainName, overriddenIn]; done) | decide +kernel
theorem ef_15 (m : MethodId) (x0 : Addr) : entryFrame m #[(.ref x0)] 1 = mkF m 0 #[.val (.ref x0)] [] := by first | (simp [entryFrame, mkF, argsToLocals, Value.category]; done) | rfl
def Q15 (Z : State) (a : Addr) (h0 : Heap) (n0 : Nat) (v : Option Value) (h : Heap) (L : List Loc) : Prop := v = none ∧ Fr n0 L ∧ h = h0
set_option maxRecDepth 65536 in
set_option maxHeartbeats 40000000 in
theorem rm15 (l : Launch) (Z : State) (a0 : Array Value) (hw : ∀ d ∈ tables_1, d.before a0 Z = true) (ws : List Jvm.Cond) (a : Addr) (h0 : Heap) (n0 : Nat) (O0 : Old Z n0 h0) :
    MetFree l (⟨"java/lang/Number", "<init>", "()V"⟩ : MethodName) (head1 (Jvm.Cond.code (⟨"java/lang/Number", "<init>", "()V"⟩ : MethodName) jdk_18_method_1_code 1 none :: ws) ({ frames := 1, cells := 0, slots := 0, locals := 12 } : Room)) (fun aA uU => aA = #[(.ref a)] ∧ Z.Warmed39 uU.vm ∧ uU.heap = h0) (fun _ _ _ _ _ => True) (fun _ uU oO uU' => ∃ vV lL, oO = .returned vV ∧ Q15 Z a  h0 n0 vV uU'.heap lL ∧ FrameEnd uU oO uU' lL ({ frames := 1, cells := 0, slots := 0, locals := 12 } : Room).cells ({ frames := 1, cells := 0, slots := 0, locals := 12 } : Room).slots) := by
  refine MetFree.of_bodySF (plainFor_of_name pn_java_lang_Number) hisR ?_
  intro p e s m args below meth c s₁ Bd hml0 hP hK
  obtain ⟨rfl, hZ, hh⟩ := hP
  have hx := Bd.exec
  have hby := Bd.bytes
  have hml : c.maxLocals = 1 := hml0
  have hown : s.vm.findClass "java/lang/Number" = some m.cls := findClass_of_methodNamed Bd.named
  have hnm := (name_of_methodNamed Bd.named Bd.method).1
  have X0 : Stand p l e ({ frames := 1, cells := 0, slots := 0, locals := 12 } : Room) s m #[(.ref a)] below meth c s₁ [] 0 0 := Stand.of_body Bd
  have e0 : s₁.heap = h0 := by rw [← hh, Bd.state]; rfl
  have N0 := Fr.nil n0
  have O := O0
  have pre0 : ∀ t, Steps p.tables e below (s₁.setTop (mkF m 0 #[.val (.ref a)] [])) t → Steps p.tables e below (s₁.setTop (entryFrame m #[(.ref a)] 1)) t := fun t k => castTop (ef_15 m a) k
  obtain ⟨T1, X1, e1, st1⟩ := initO X0 hx hZ hown (hw _ (List.mem_of_getElem? (i := 95) rfl)) (hw _ (List.mem_of_getElem? (i := 16) rfl)) (hw _ (List.mem_of_getElem? (i := 17) rfl)) e0 (g := (mkF m 1 #[.val (.ref a)] [(.ref a)])) rfl (by rw [hml]; rfl) rfl (hb hby d15_1) (by decide) (W := 0) (by show 2 * 0 + _ ≤ _; exact Nat.le_of_eq rfl) (by decide)
  have w2 : ∀ t, Steps p.tables e below (T1.setTop (mkF m 4 #[.val (.ref a)] [])) t → Steps p.tables e below (s₁.setTop (entryFrame m #[(.ref a)] 1)) t := fun t k => by
    refine pre0 t ?_
    refine XS.aloadN X0.here hx rfl (hb hby d15_0) rfl rfl ?_
    show Steps p.tables e below (s₁.setTop (mkF m 1 #[.val (.ref a)] [(.ref a)])) _
    refine st1 _ ?_
    show Steps p.tables e below (T1.setTop (mkF m 4 #[.val (.ref a)] [])) _
    exact k
  obtain ⟨fs, hr, hrun, hended, hW, hsame⟩ := X1.leave (v := none) (fun _ => rfl)
  refine ⟨_, _, w2 _ ?_, hrun, hended, _, _, rfl, ?_, ⟨_, rfl⟩, hW, hsame.mono (by decide) (by decide)⟩
  · exact X1.returnOut hx Bd.returns (hb hby d15_4) hr
  · show Q15 Z a  h0 n0 _ T1.heap _
    rw [e1]
    exact ⟨rfl, N0, rfl⟩
theorem d14_0 : decode jdk_33_method_23_code 0 = .ok (.aload_n 0, 1) := by decide +kernel
theorem d14_1 : decode jdk_33_method_23_code 1 = .ok (.invokespecial 202, 3) := by decide +kernel
theorem d14_4 : decode jdk_33_method_23_code 4 = .ok (.aload_n 0, 1) := by decide +kernel
theorem d14_5 : decode jdk_33_method_23_code 5 = .ok (.iload_n 1, 1) := by decide +kernel
theorem d14_6 : decode jdk_33_method_23_code 6 = .ok (.putfield 205, 3) := by decide +kernel
theorem d14_9 : decode jdk_33_method_23_code 9 = .ok (.return_, 1) := by decide +kernel
theorem pn_java_lang_Integer : plainName "java/lang/Integer" = true := by first | (simp [plainName, overriddenIn]; done) | decide +kernel
theorem ef_14 (m : MethodId) (x0 : Addr) (x1 : Int32) : entryFrame m #[(.ref x0), (.int x1)] 2 = mkF m 0 #[.val (.ref x0), .val (.int x1)] [] := by first | (simp [entryFrame, mkF, argsToLocals, Value.category]; done) | rfl
def Q14 (Z : State) (a : Addr) (q : Int32) (h0 : Heap) (n0 : Nat) (v : Option Value) (h : Heap) (L : List Loc) : Prop := v = none ∧ Fr n0 L ∧ Keep h0 h [a] ∧ Fld Z h a "java/lang/Integer" "value" "I" (.int q)
set_option maxRecDepth 65536 in
set_option maxHeartbeats 40000000 in
theorem rm14 (l : Launch) (Z : State) (a0 : Array Value) (hw : ∀ d ∈ tables_1, d.before a0 Z = true) (ws : List Jvm.Cond) (a : Addr) (q : Int32) (h0 : Heap) (n0 : Nat) (O0 : Old Z n0 h0) (E_a : Exa Z h0 a "java/lang/Integer") (F_v : Fld Z h0 a "java/lang/Integer" "value" "I" (.int (0 : Int32))) (g_a : n0 ≤ a) :
    MetFree l (⟨"java/lang/Integer", "<init>", "(I)V"⟩ : MethodName) (head1 (Jvm.Cond.code (⟨"java/lang/Integer", "<init>", "(I)V"⟩ : MethodName) jdk_33_method_23_code 2 none :: ws) ({ frames := 2, cells := 0, slots := 0, locals := 24 } : Room)) (fun aA uU => aA = #[(.ref a), (.int q)] ∧ Z.Warmed39 uU.vm ∧ uU.heap = h0) (fun _ _ _ _ _ => True) (fun _ uU oO uU' => ∃ vV lL, oO = .returned vV ∧ Q14 Z a q  h0 n0 vV uU'.heap lL ∧ FrameEnd uU oO uU' lL ({ frames := 2, cells := 0, slots := 0, locals := 24 } : Room).cells ({ frames := 2, cells := 0, slots := 0, locals := 24 } : Room).slots) := by
  refine MetFree.of_bodySF (plainFor_of_name pn_java_lang_Integer) hisR ?_
  intro p e s m args below meth c s₁ Bd hml0 hP hK
  obtain ⟨rfl, hZ, hh⟩ := hP
  have hx := Bd.exec
  have hby := Bd.bytes
  have hml : c.maxLocals = 2 := hml0
  have hown : s.vm.findClass "java/lang/Integer" = some m.cls := findClass_of_methodNamed Bd.named
  have hnm := (name_of_methodNamed Bd.named Bd.method).1
  have X0 : Stand p l e ({ frames := 2, cells := 0, slots := 0, locals := 24 } : Room) s m #[(.ref a), (.int q)] below meth c s₁ [] 0 0 := Stand.of_body Bd
  have e0 : s₁.heap = h0 := by rw [← hh, Bd.state]; rfl
  have N0 := Fr.nil n0
  have O := O0
  have K := Keep.refl h0 [a]
  have pre0 : ∀ t, Steps p.tables e below (s₁.setTop (mkF m 0 #[.val (.ref a), .val (.int q)] [])) t → Steps p.tables e below (s₁.setTop (entryFrame m #[(.ref a), (.int q)] 2)) t := fun t k => castTop (ef_14 m a q) k
  obtain ⟨_, _, ⟨T1, L1, k1, n1⟩, -, X1, ⟨Lc1, hQ1, l1, y1, z1⟩, st1⟩ := X0.specialBack hx (y := (⟨"java/lang/Number", "<init>", "()V"⟩ : MethodName)) rfl hown (mvT hZ (hw _ (List.mem_of_getElem? (i := 89) rfl))) (mvT hZ (hw _ (List.mem_of_getElem? (i := 90) rfl))) (mvT hZ (hw _ (List.mem_of_getElem? (i := 94) rfl))) (by decide) (backOf (W := 0) (rm15 l Z a0 hw [] a h0 n0 O ) hZ (hw _ (List.mem_of_getElem? (i := 94) rfl)) (hw _ (List.mem_of_getElem? (i := 93) rfl)) (by decide) (by decide)) (g := (mkF m 1 #[.val (.ref a), .val (.int q)] [(.ref a)])) rfl (by rw [hml]; rfl) (Steps.refl _) (a := a) (argsL := []) (rest := []) (lenOf pd__40_41V rfl) rfl (by show 2 * 0 + _ ≤ _; exact Nat.le_of_eq rfl) (hb hby d14_1) (fun _ _ => ⟨rfl, e0, (by decide : 0 + 0 ≤ _), (by decide : 0 + 0 ≤ _)⟩)
  dsimp only [Pt.U, Pt.locs, Pt.cells, Pt.slots] at X1 l1 y1 z1 st1 hQ1
  subst l1 y1 z1
  obtain ⟨rfl, N1q, eh1⟩ := hQ1
  have N1 := Fr.app N0 N1q
  obtain ⟨T2, h2, X2, e2, W2, st2⟩ := putF X1 hx hZ hown (host := "") (Or.inl (hw _ (List.mem_of_getElem? (i := 96) rfl))) Via.refl eh1 F_v E_a (Or.inr ⟨(hw _ (List.mem_of_getElem? (i := 97) rfl)), rfl, hnm⟩) (hw _ (List.mem_of_getElem? (i := 84) rfl)) (ty := .int) (by decide) rfl rfl (g := (mkF m 6 #[.val (.ref a), .val (.int q)] [(.int q), (.ref a)])) rfl rfl (hb hby d14_6)
  have F_v := F_v.same W2
  have E_a := E_a.wr W2
  have O := O.wr W2 g_a
  have K := K.wr W2 (Or.inl (List.mem_of_getElem? (i := 0) rfl))
  have N2 := Fr.snoc X2 N1 g_a
  have w3 : ∀ t, Steps p.tables e below (T2.setTop (mkF m 9 #[.val (.ref a), .val (.int q)] [])) t → Steps p.tables e below (s₁.setTop (entryFrame m #[(.ref a), (.int q)] 2)) t := fun t k => by
    refine pre0 t ?_
    refine XS.aloadN X0.here hx rfl (hb hby d14_0) rfl rfl ?_
    show Steps p.tables e below (s₁.setTop (mkF m 1 #[.val (.ref a), .val (.int q)] [(.ref a)])) _
    refine st1.trans ?_
    show Steps p.tables e below (T1.setTop (mkF m 4 #[.val (.ref a), .val (.int q)] [])) _
    refine XS.aloadN X1.here hx rfl (hb hby d14_4) rfl rfl ?_
    show Steps p.tables e below (T1.setTop (mkF m 5 #[.val (.ref a), .val (.int q)] [(.ref a)])) _
    refine XS.iloadN X1.here hx rfl (hb hby d14_5) rfl ?_
    show Steps p.tables e below (T1.setTop (mkF m 6 #[.val (.ref a), .val (.int q)] [(.int q), (.ref a)])) _
    refine st2 _ ?_
    show Steps p.tables e below (T2.setTop (mkF m 9 #[.val (.ref a), .val (.int q)] [])) _
    exact k
  obtain ⟨fs, hr, hrun, hended, hW, hsame⟩ := X2.leave (v := none) (fun _ => rfl)
  refine ⟨_, _, w3 _ ?_, hrun, hended, _, _, rfl, ?_, ⟨_, rfl⟩, hW, hsame.mono (by decide) (by decide)⟩
  · exact X2.returnOut hx Bd.returns (hb hby d14_9) hr
  · show Q14 Z a q  h0 n0 _ T2.heap _
    rw [e2]
    exact ⟨rfl, N2, K, F_v⟩
theorem d10_0 : decode jdk_33_method_22_code 0 = .ok (.iload_n 0, 1) := by decide +kernel
theorem d10_1 : decode jdk_33_method_22_code 1 = .ok (.bipush (-128), 2) := by decide +kernel
theorem d10_3 : decode jdk_33_method_22_code 3 = .ok (.if_icmp .lt 20, 3) := by decide +kernel
theorem d10_23 : decode jdk_33_method_22_code 23 = .ok (.new 1, 3) := by decide +kernel
theorem d10_26 : decode jdk_33_method_22_code 26 = .ok (.dup, 1) := by decide +kernel
theorem d10_27 : decode jdk_33_method_22_code 27 = .ok (.iload_n 0, 1) := by decide +kernel
theorem d10_28 : decode jdk_33_method_22_code 28 = .ok (.invokespecial 199, 3) := by decide +kernel
theorem pd__40I_41V : parseMethodDescriptor "(I)V" = some ⟨[.int], none⟩ := by decide +kernel
theorem d10_31 : decode jdk_33_method_22_code 31 = .ok (.areturn, 1) := by decide +kernel
theorem d10_6 : decode jdk_33_method_22_code 6 = .ok (.iload_n 0, 1) := by decide +kernel
theorem d10_7 : decode jdk_33_method_22_code 7 = .ok (.getstatic 191, 3) := by decide +kernel
theorem d10_10 : decode jdk_33_method_22_code 10 = .ok (.if_icmp .gt 13, 3) := by decide +kernel
theorem d10_13 : decode jdk_33_method_22_code 13 = .ok (.getstatic 195, 3) := by decide +kernel
theorem d10_16 : decode jdk_33_method_22_code 16 = .ok (.iload_n 0, 1) := by decide +kernel
theorem d10_17 : decode jdk_33_method_22_code 17 = .ok (.sipush 128, 3) := by decide +kernel
theorem d10_20 : decode jdk_33_method_22_code 20 = .ok (.iadd, 1) := by decide +kernel
theorem d10_21 : decode jdk_33_method_22_code 21 = .ok (.aaload, 1) := by decide +kernel
theorem d10_22 : decode jdk_33_method_22_code 22 = .ok (.areturn, 1) := by decide +kernel
theorem ef_10 (m : MethodId) (x0 : Int32) : entryFrame m #[(.int x0)] 1 = mkF m 0 #[.val (.int x0)] [] := by first | (simp [entryFrame, mkF, argsToLocals, Value.category]; done) | rfl
def Q10 (Z : State) (q : Int32) (cl_s_cacheI : Cell) (s_cacheI : Addr) (h0 : Heap) (n0 : Nat) (v : Option Value) (h : Heap) (L : List Loc) : Prop := ∃ z : Addr, v = some (.ref z) ∧ Fr n0 L ∧ Keep h0 h [] ∧ Exa Z h z "java/lang/Integer"
set_option maxRecDepth 65536 in
set_option maxHeartbeats 40000000 in
theorem rm10 (l : Launch) (Z : State) (a0 : Array Value) (hw : ∀ d ∈ tables_1, d.before a0 Z = true) (ws : List Jvm.Cond) (q : Int32) (cl_s_cacheI : Cell) (s_cacheI : Addr) (h0 : Heap) (n0 : Nat) (O0 : Old Z n0 h0) (S_s_cacheI : Sta Z Z.heap "java/lang/Integer$IntegerCache" "cache" "[Ljava/lang/Integer;" (.ref s_cacheI)) (S_high : Sta Z Z.heap "java/lang/Integer$IntegerCache" "high" "I" (.int (127 : Int32))) (BI : Bxs Z s_cacheI cl_s_cacheI "java/lang/Integer" "I" 256 own_vI) :
    MetFree l (⟨"java/lang/Integer", "valueOf", "(I)Ljava/lang/Integer;"⟩ : MethodName) (head1 (Jvm.Cond.code (⟨"java/lang/Integer", "valueOf", "(I)Ljava/lang/Integer;"⟩ : MethodName) jdk_33_method_22_code 1 (some (.object "java/lang/Integer")) :: ws) ({ frames := 3, cells := 1, slots := 1, locals := 38 } : Room)) (fun aA uU => aA = #[(.int q)] ∧ Z.Warmed39 uU.vm ∧ uU.heap = h0) (fun _ _ _ _ _ => True) (fun _ uU oO uU' => ∃ vV lL, oO = .returned vV ∧ Q10 Z q cl_s_cacheI s_cacheI h0 n0 vV uU'.heap lL ∧ FrameEnd uU oO uU' lL ({ frames := 3, cells := 1, slots := 1, locals := 38 } : Room).cells ({ frames := 3, cells := 1, slots := 1, locals := 38 } : Room).slots) := by
  refine MetFree.of_bodySF (plainFor_of_name pn_java_lang_Integer) hisR ?_
  intro p e s m args below meth c s₁ Bd hml0 hP hK
  obtain ⟨rfl, hZ, hh⟩ := hP
  have hx := Bd.exec
  have hby := Bd.bytes
  have hml : c.maxLocals = 1 := hml0
  have hown : s.vm.findClass "java/lang/Integer" = some m.cls := findClass_of_methodNamed Bd.named
  have hnm := (name_of_methodNamed Bd.named Bd.method).1
  have X0 : Stand p l e ({ frames := 3, cells := 1, slots := 1, locals := 38 } : Room) s m #[(.int q)] below meth c s₁ [] 0 0 := Stand.of_body Bd
  have e0 : s₁.heap = h0 := by rw [← hh, Bd.state]; rfl
  have N0 := Fr.nil n0
  have O := O0
  have K := Keep.refl h0 []
  have pre0 : ∀ t, Steps p.tables e below (s₁.setTop (mkF m 0 #[.val (.int q)] [])) t → Steps p.tables e below (s₁.setTop (entryFrame m #[(.int q)] 1)) t := fun t k => castTop (ef_10 m q) k
  have w1 : ∀ t, Steps p.tables e below (s₁.setTop (mkF m 3 #[.val (.int q)] [(.int (-128 : Int32)), (.int q)])) t → Steps p.tables e below (s₁.setTop (entryFrame m #[(.int q)] 1)) t := fun t k => by
    refine pre0 t ?_
    refine XS.iloadN X0.here hx rfl (hb hby d10_0) rfl ?_
    show Steps p.tables e below (s₁.setTop (mkF m 1 #[.val (.int q)] [(.int q)])) _
    refine XS.bipush X0.here hx rfl (hb hby d10_1) ?_
    show Steps p.tables e below (s₁.setTop (mkF m 3 #[.val (.int q)] [(.int (-128 : Int32)), (.int q)])) _
    exact k
  by_cases hc3_2 : q < (-128 : Int32)
  · obtain ⟨T3, h3, X3, e3, E3, A3, D3, -, st3⟩ := newO X0 hx hZ hown (hw _ (List.mem_of_getElem? (i := 83) rfl)) (hw _ (List.mem_of_getElem? (i := 84) rfl)) (hw _ (List.mem_of_getElem? (i := 66) rfl)) e0 (g := (mkF m 23 #[.val (.int q)] [])) rfl (hb hby d10_23) (by decide) (by decide)
    obtain ⟨b3, gq3⟩ : ∃ z, z = Array.size h0 := ⟨_, rfl⟩
    rw [← gq3] at A3 D3 st3
    have g_b3 : n0 ≤ b3 := Nat.le_trans (O.1 ▸ O.2.1) (Nat.le_of_eq gq3.symm)
    have z_b3 : h0.size ≤ b3 := Nat.le_trans K.1 (Nat.le_of_eq gq3.symm)
    have O := O.ext E3
    have K := K.ext E3
    have F_value_b3 : Fld Z h3 b3 "java/lang/Integer" "value" "I" (.int (0 : Int32)) := D3 (Or.inr (hw _ (List.mem_of_getElem? (i := 97) rfl))) (ty := .int) (by decide)
    obtain ⟨_, _, ⟨T4, L4, k4, n4⟩, -, X4, ⟨Lc4, hQ4, l4, y4, z4⟩, st4⟩ := X3.specialBack hx (y := (⟨"java/lang/Integer", "<init>", "(I)V"⟩ : MethodName)) rfl hown (mvT hZ (hw _ (List.mem_of_getElem? (i := 85) rfl))) (mvT hZ (hw _ (List.mem_of_getElem? (i := 86) rfl))) (mvT hZ (hw _ (List.mem_of_getElem? (i := 88) rfl))) (by decide) (backOf (W := 1) (rm14 l Z a0 hw [] b3 q h3 n0 O A3 F_value_b3 g_b3) hZ (hw _ (List.mem_of_getElem? (i := 88) rfl)) (hw _ (List.mem_of_getElem? (i := 66) rfl)) (by decide) (by decide)) (g := (mkF m 28 #[.val (.int q)] [(.int q), (.ref b3), (.ref b3)])) rfl (by rw [hml]; rfl) (Steps.refl _) (a := b3) (argsL := [(.int q)]) (rest := [(.ref b3)]) (lenOf pd__40I_41V rfl) rfl (by show 2 * 0 + _ ≤ _; exact Nat.le_of_eq rfl) (hb hby d10_28) (fun _ _ => ⟨rfl, e3, (by decide : 1 + 0 ≤ _), (by decide : 1 + 0 ≤ _)⟩)
    dsimp only [Pt.U, Pt.locs, Pt.cells, Pt.slots] at X4 l4 y4 z4 st4 hQ4
    subst l4 y4 z4
    obtain ⟨rfl, N4q, K4, F_v_c4⟩ := hQ4
    have N4 := Fr.app N0 N4q
    have A3 := A3.keep K4
    have O := O.keep K4 (allS g_b3 all0)
    have K := K.trans K4 (allS (Or.inr z_b3) all0)
    have w5 : ∀ t, Steps p.tables e below (T4.setTop (mkF m 31 #[.val (.int q)] [(.ref b3)])) t → Steps p.tables e below (s₁.setTop (entryFrame m #[(.int q)] 1)) t := fun t k => by
      refine w1 t ?_
      refine XS.icmpYes X0.here hx rfl (pc0 := 3) (pc' := 23) rfl (hb hby d10_3) rfl (tlt hc3_2).1 (by decide) (by decide) ?_
      show Steps p.tables e below (s₁.setTop (mkF m 23 #[.val (.int q)] [])) _
      refine st3 _ ?_
      show Steps p.tables e below (T3.setTop (mkF m 26 #[.val (.int q)] [(.ref b3)])) _
      refine XS.dup X3.here hx rfl (hb hby d10_26) rfl rfl ?_
      show Steps p.tables e below (T3.setTop (mkF m 27 #[.val (.int q)] [(.ref b3), (.ref b3)])) _
      refine XS.iloadN X3.here hx rfl (hb hby d10_27) rfl ?_
      show Steps p.tables e below (T3.setTop (mkF m 28 #[.val (.int q)] [(.int q), (.ref b3), (.ref b3)])) _
      refine st4.trans ?_
      show Steps p.tables e below (T4.setTop (mkF m 31 #[.val (.int q)] [(.ref b3)])) _
      exact k
    obtain ⟨fs, hr, hrun, hended, hW, hsame⟩ := X4.leave (v := some (.ref b3)) (fun h => by rw [Bd.returns] at h; cases h)
    refine ⟨_, _, w5 _ ?_, hrun, hended, _, _, rfl, ?_, ⟨_, rfl⟩, hW, hsame.mono (by decide) (by decide)⟩
    · jvm_step X4.here [X4.here.top, hx, (hb hby d10_31), X4.method', Bd.returns, Value.isRef, FieldType.isReference]
      first | (intro acts; rw [hr _ acts rfl rfl rfl]) | rw [hr _ _ rfl rfl rfl]
      exact Steps.refl _
    · show Q10 Z q cl_s_cacheI s_cacheI h0 n0 _ T4.heap _
      exact ⟨b3, rfl, N4, K, A3⟩
  · obtain ⟨T6, X6, e6, st6⟩ := getS2 X0 hx hZ hown (host := "") (Or.inl (hw _ (List.mem_of_getElem? (i := 68) rfl))) Via.refl e0 (S_high.ext O.2) (g := (mkF m 7 #[.val (.int q)] [(.int q)])) rfl (hb hby d10_7)
    have w7 : ∀ t, Steps p.tables e below (T6.setTop (mkF m 10 #[.val (.int q)] [(.int (127 : Int32)), (.int q)])) t → Steps p.tables e below (s₁.setTop (entryFrame m #[(.int q)] 1)) t := fun t k => by
      refine w1 t ?_
      refine XS.icmpNo X0.here hx rfl (hb hby d10_3) rfl (flt hc3_2).1 ?_
      show Steps p.tables e below (s₁.setTop (mkF m 6 #[.val (.int q)] [])) _
      refine XS.iloadN X0.here hx rfl (hb hby d10_6) rfl ?_
      show Steps p.tables e below (s₁.setTop (mkF m 7 #[.val (.int q)] [(.int q)])) _
      refine st6 _ ?_
      show Steps p.tables e below (T6.setTop (mkF m 10 #[.val (.int q)] [(.int (127 : Int32)), (.int q)])) _
      exact k
    by_cases hc10_8 : (127 : Int32) < q
    · obtain ⟨T9, h9, X9, e9, E9, A9, D9, -, st9⟩ := newO X6 hx hZ hown (hw _ (List.mem_of_getElem? (i := 83) rfl)) (hw _ (List.mem_of_getElem? (i := 84) rfl)) (hw _ (List.mem_of_getElem? (i := 66) rfl)) e6 (g := (mkF m 23 #[.val (.int q)] [])) rfl (hb hby d10_23) (by decide) (by decide)
      obtain ⟨b9, gq9⟩ : ∃ z, z = Array.size h0 := ⟨_, rfl⟩
      rw [← gq9] at A9 D9 st9
      have g_b9 : n0 ≤ b9 := Nat.le_trans (O.1 ▸ O.2.1) (Nat.le_of_eq gq9.symm)
      have z_b9 : h0.size ≤ b9 := Nat.le_trans K.1 (Nat.le_of_eq gq9.symm)
      have O := O.ext E9
      have K := K.ext E9
      have F_value_b9 : Fld Z h9 b9 "java/lang/Integer" "value" "I" (.int (0 : Int32)) := D9 (Or.inr (hw _ (List.mem_of_getElem? (i := 97) rfl))) (ty := .int) (by decide)
      obtain ⟨_, _, ⟨T10, L10, k10, n10⟩, -, X10, ⟨Lc10, hQ10, l10, y10, z10⟩, st10⟩ := X9.specialBack hx (y := (⟨"java/lang/Integer", "<init>", "(I)V"⟩ : MethodName)) rfl hown (mvT hZ (hw _ (List.mem_of_getElem? (i := 85) rfl))) (mvT hZ (hw _ (List.mem_of_getElem? (i := 86) rfl))) (mvT hZ (hw _ (List.mem_of_getElem? (i := 88) rfl))) (by decide) (backOf (W := 1) (rm14 l Z a0 hw [] b9 q h9 n0 O A9 F_value_b9 g_b9) hZ (hw _ (List.mem_of_getElem? (i := 88) rfl)) (hw _ (List.mem_of_getElem? (i := 66) rfl)) (by decide) (by decide)) (g := (mkF m 28 #[.val (.int q)] [(.int q), (.ref b9), (.ref b9)])) rfl (by rw [hml]; rfl) (Steps.refl _) (a := b9) (argsL := [(.int q)]) (rest := [(.ref b9)]) (lenOf pd__40I_41V rfl) rfl (by show 2 * 0 + _ ≤ _; exact Nat.le_of_eq rfl) (hb hby d10_28) (fun _ _ => ⟨rfl, e9, (by decide : 1 + 0 ≤ _), (by decide : 1 + 0 ≤ _)⟩)
      dsimp only [Pt.U, Pt.locs, Pt.cells, Pt.slots] at X10 l10 y10 z10 st10 hQ10
      subst l10 y10 z10
      obtain ⟨rfl, N10q, K10, F_v_c10⟩ := hQ10
      have N10 := Fr.app N0 N10q
      have A9 := A9.keep K10
      have O := O.keep K10 (allS g_b9 all0)
      have K := K.trans K10 (allS (Or.inr z_b9) all0)
      have w11 : ∀ t, Steps p.tables e below (T10.setTop (mkF m 31 #[.val (.int q)] [(.ref b9)])) t → Steps p.tables e below (s₁.setTop (entryFrame m #[(.int q)] 1)) t := fun t k => by
        refine w7 t ?_
        refine XS.icmpYes X6.here hx rfl (pc0 := 10) (pc' := 23) rfl (hb hby d10_10) rfl (tlt hc10_8).2.2.1 (by decide) (by decide) ?_
        show Steps p.tables e below (T6.setTop (mkF m 23 #[.val (.int q)] [])) _
        refine st9 _ ?_
        show Steps p.tables e below (T9.setTop (mkF m 26 #[.val (.int q)] [(.ref b9)])) _
        refine XS.dup X9.here hx rfl (hb hby d10_26) rfl rfl ?_
        show Steps p.tables e below (T9.setTop (mkF m 27 #[.val (.int q)] [(.ref b9), (.ref b9)])) _
        refine XS.iloadN X9.here hx rfl (hb hby d10_27) rfl ?_
        show Steps p.tables e below (T9.setTop (mkF m 28 #[.val (.int q)] [(.int q), (.ref b9), (.ref b9)])) _
        refine st10.trans ?_
        show Steps p.tables e below (T10.setTop (mkF m 31 #[.val (.int q)] [(.ref b9)])) _
        exact k
      obtain ⟨fs, hr, hrun, hended, hW, hsame⟩ := X10.leave (v := some (.ref b9)) (fun h => by rw [Bd.returns] at h; cases h)
      refine ⟨_, _, w11 _ ?_, hrun, hended, _, _, rfl, ?_, ⟨_, rfl⟩, hW, hsame.mono (by decide) (by decide)⟩
      · jvm_step X10.here [X10.here.top, hx, (hb hby d10_31), X10.method', Bd.returns, Value.isRef, FieldType.isReference]
        first | (intro acts; rw [hr _ acts rfl rfl rfl]) | rw [hr _ _ rfl rfl rfl]
        exact Steps.refl _
      · show Q10 Z q cl_s_cacheI s_cacheI h0 n0 _ T10.heap _
        exact ⟨b9, rfl, N10, K, A9⟩
    · obtain ⟨T12, X12, e12, st12⟩ := getS2 X6 hx hZ hown (host := "") (Or.inl (hw _ (List.mem_of_getElem? (i := 70) rfl))) Via.refl e6 (S_s_cacheI.ext O.2) (g := (mkF m 13 #[.val (.int q)] [])) rfl (hb hby d10_13)
      have hin13 : ¬ ((q + (128 : Int32)) < 0 ∨ cl_s_cacheI.slots.size ≤ ((q + (128 : Int32))).toNatClampNeg) := by rw [BI.2.1]; exact own_ixI hc3_2 hc10_8
      obtain ⟨r13, hat13, ER13, FR13⟩ := BI.2.2.2 (q + (128 : Int32)) hin13
      have Ar13 := (BI.ext O.2).1
      have ER13 := ER13.ext O.2
      have w14 : ∀ t, Steps p.tables e below (T12.setTop (mkF m 22 #[.val (.int q)] [(.ref r13)])) t → Steps p.tables e below (s₁.setTop (entryFrame m #[(.int q)] 1)) t := fun t k => by
        refine w7 t ?_
        refine XS.icmpNo X6.here hx rfl (hb hby d10_10) rfl (flt hc10_8).2.2.1 ?_
        show Steps p.tables e below (T6.setTop (mkF m 13 #[.val (.int q)] [])) _
        refine st12 _ ?_
        show Steps p.tables e below (T12.setTop (mkF m 16 #[.val (.int q)] [(.ref s_cacheI)])) _
        refine XS.iloadN X12.here hx rfl (hb hby d10_16) rfl ?_
        show Steps p.tables e below (T12.setTop (mkF m 17 #[.val (.int q)] [(.int q), (.ref s_cacheI)])) _
        refine XS.sipush X12.here hx rfl (hb hby d10_17) ?_
        show Steps p.tables e below (T12.setTop (mkF m 20 #[.val (.int q)] [(.int (128 : Int32)), (.int q), (.ref s_cacheI)])) _
        refine XS.iadd X12.here hx rfl (hb hby d10_20) rfl ?_
        show Steps p.tables e below (T12.setTop (mkF m 21 #[.val (.int q)] [(.int (q + (128 : Int32))), (.ref s_cacheI)])) _
        refine X12.aaload hx (j := (q + (128 : Int32))) (v := (.ref r13)) (by rw [e12]; exact Ar13.1) (State.isArrayOf_alike hZ.alike Ar13.2.1) rfl Ar13.2.2 hin13 hat13 (g := (mkF m 21 #[.val (.int q)] [(.int (q + (128 : Int32))), (.ref s_cacheI)])) rfl rfl (hb hby d10_21) _ ?_
        show Steps p.tables e below (T12.setTop (mkF m 22 #[.val (.int q)] [(.ref r13)])) _
        exact k
      obtain ⟨fs, hr, hrun, hended, hW, hsame⟩ := X12.leave (v := some (.ref r13)) (fun h => by rw [Bd.returns] at h; cases h)
      refine ⟨_, _, w14 _ ?_, hrun, hended, _, _, rfl, ?_, ⟨_, rfl⟩, hW, hsame.mono (by decide) (by decide)⟩
      · jvm_step X12.here [X12.here.top, hx, (hb hby d10_22), X12.method', Bd.returns, Value.isRef, FieldType.isReference]
        first | (intro acts; rw [hr _ acts rfl rfl rfl]) | rw [hr _ _ rfl rfl rfl]
        exact Steps.refl _
      · show Q10 Z q cl_s_cacheI s_cacheI h0 n0 _ T12.heap _
        rw [e12]
        exact ⟨r13, rfl, N0, K, ER13⟩
def own_F0 (x0 : Int32) (x1 : Int32) (x2 : Int32) (x3 : Int32) (x4 : Int32) (x5 : Int32) : Array Slot := #[.val (.int x0), .val (.int x1), .val (.int x2), .val (.int x3), .val (.int x4), .val (.int x5), .unset, .unset, .unset, .unset, .unset, .unset, .unset, .unset, .unset, .unset, .unset, .unset, .unset, .unset, .unset, .unset]
def own_F1 (x0 : Int32) (x1 : Int32) (x2 : Int32) (x3 : Int32) (x4 : Int32) (x5 : Int32) (x6 : Int32) : Array Slot := #[.val (.int x0), .val (.int x1), .val (.int x2), .val (.int x3), .val (.int x4), .val (.int x5), .val (.int x6), .unset, .unset, .unset, .unset, .unset, .unset, .unset, .unset, .unset, .unset, .unset, .unset, .unset, .unset, .unset]
def own_F2 (x0 : Int32) (x1 : Int32) (x2 : Int32) (x3 : Int32) (x4 : Int32) (x5 : Int32) (x6 : Int32) (x7 : Int32) : Array Slot := #[.val (.int x0), .val (.int x1), .val (.int x2), .val (.int x3), .val (.int x4), .val (.int x5), .val (.int x6), .val (.int x7), .unset, .unset, .unset, .unset, .unset, .unset, .unset, .unset, .unset, .unset, .unset, .unset, .unset, .unset]
def own_F3 (x0 : Int32) (x1 : Int32) (x2 : Int32) (x3 : Int32) (x4 : Int32) (x5 : Int32) (x6 : Int32) (x7 : Int32) (x8 : Int32) : Array Slot := #[.val (.int x0), .val (.int x1), .val (.int x2), .val (.int x3), .val (.int x4), .val (.int x5), .val (.int x6), .val (.int x7), .val (.int x8), .unset, .unset, .unset, .unset, .unset, .unset, .unset, .unset, .unset, .unset, .unset, .unset, .unset]
def own_F4 (x0 : Int32) (x1 : Int32) (x2 : Int32) (x3 : Int32) (x4 : Int32) (x5 : Int32) (x6 : Int32) (x7 : Int32) (x8 : Int32) (x9 : Int32) : Array Slot := #[.val (.int x0), .val (.int x1), .val (.int x2), .val (.int x3), .val (.int x4), .val (.int x5), .val (.int x6), .val (.int x7), .val (.int x8), .val (.int x9), .unset, .unset, .unset, .unset, .unset, .unset, .unset, .unset, .unset, .unset, .unset, .unset]
def own_F5 (x0 : Int32) (x1 : Int32) (x2 : Int32) (x3 : Int32) (x4 : Int32) (x5 : Int32) (x6 : Int32) (x7 : Int32) (x8 : Int32) (x9 : Int32) (x10 : Int32) : Array Slot := #[.val (.int x0), .val (.int x1), .val (.int x2), .val (.int x3), .val (.int x4), .val (.int x5), .val (.int x6), .val (.int x7), .val (.int x8), .val (.int x9), .val (.int x10), .unset, .unset, .unset, .unset, .unset, .unset, .unset, .unset, .unset, .unset, .unset]
def own_F6 (x0 : Int32) (x1 : Int32) (x2 : Int32) (x3 : Int32) (x4 : Int32) (x5 : Int32) (x6 : Int32) (x7 : Int32) (x8 : Int32) (x9 : Int32) (x10 : Int32) (x11 : Int32) : Array Slot := #[.val (.int x0), .val (.int x1), .val (.int x2), .val (.int x3), .val (.int x4), .val (.int x5), .val (.int x6), .val (.int x7), .val (.int x8), .val (.int x9), .val (.int x10), .val (.int x11), .unset, .unset, .unset, .unset, .unset, .unset, .unset, .unset, .unset, .unset]
theorem pd__40III_41_91C : parseMethodDescriptor "(III)[C" = some ⟨[.int, .int, .int], some (.array .char)⟩ := by decide +kernel
def own_F7 (x0 : Int32) (x1 : Int32) (x2 : Int32) (x3 : Int32) (x4 : Int32) (x5 : Int32) (x6 : Int32) (x7 : Int32) (x8 : Int32) (x9 : Int32) (x10 : Int32) (x11 : Int32) (x12 : Addr) : Array Slot := #[.val (.int x0), .val (.int x1), .val (.int x2), .val (.int x3), .val (.int x4), .val (.int x5), .val (.int x6), .val (.int x7), .val (.int x8), .val (.int x9), .val (.int x10), .val (.int x11), .val (.ref x12), .unset, .unset, .unset, .unset, .unset, .unset, .unset, .unset, .unset]
def own_F8 (x0 : Int32) (x1 : Int32) (x2 : Int32) (x3 : Int32) (x4 : Int32) (x5 : Int32) (x6 : Int32) (x7 : Int32) (x8 : Int32) (x9 : Int32) (x10 : Int32) (x11 : Int32) (x12 : Addr) (x13 : Addr) : Array Slot := #[.val (.int x0), .val (.int x1), .val (.int x2), .val (.int x3), .val (.int x4), .val (.int x5), .val (.int x6), .val (.int x7), .val (.int x8), .val (.int x9), .val (.int x10), .val (.int x11), .val (.ref x12), .val (.ref x13), .unset, .unset, .unset, .unset, .unset, .unset, .unset, .unset]
theorem pd__40_91C_41V : parseMethodDescriptor "([C)V" = some ⟨[(.array .char)], none⟩ := by decide +kernel
def own_F9 (x0 : Int32) (x1 : Int32) (x2 : Int32) (x3 : Int32) (x4 : Int32) (x5 : Int32) (x6 : Int32) (x7 : Int32) (x8 : Int32) (x9 : Int32) (x10 : Int32) (x11 : Int32) (x12 : Addr) (x13 : Addr) (x14 : Addr) : Array Slot := #[.val (.int x0), .val (.int x1), .val (.int x2), .val (.int x3), .val (.int x4), .val (.int x5), .val (.int x6), .val (.int x7), .val (.int x8), .val (.int x9), .val (.int x10), .val (.int x11), .val (.ref x12), .val (.ref x13), .val (.ref x14), .unset, .unset, .unset, .unset, .unset, .unset, .unset]
def own_F10 (x0 : Int32) (x1 : Int32) (x2 : Int32) (x3 : Int32) (x4 : Int32) (x5 : Int32) (x6 : Int32) (x7 : Int32) (x8 : Int32) (x9 : Int32) (x10 : Int32) (x11 : Int32) (x12 : Addr) (x13 : Addr) (x14 : Addr) (x15 : Addr) : Array Slot := #[.val (.int x0), .val (.int x1), .val (.int x2), .val (.int x3), .val (.int x4), .val (.int x5), .val (.int x6), .val (.int x7), .val (.int x8), .val (.int x9), .val (.int x10), .val (.int x11), .val (.ref x12), .val (.ref x13), .val (.ref x14), .val (.ref x15), .unset, .unset, .unset, .unset, .unset, .unset]
def own_F11 (x0 : Int32) (x1 : Int32) (x2 : Int32) (x3 : Int32) (x4 : Int32) (x5 : Int32) (x6 : Int32) (x7 : Int32) (x8 : Int32) (x9 : Int32) (x10 : Int32) (x11 : Int32) (x12 : Addr) (x13 : Addr) (x14 : Addr) (x15 : Addr) (x16 : Int32) : Array Slot := #[.val (.int x0), .val (.int x1), .val (.int x2), .val (.int x3), .val (.int x4), .val (.int x5), .val (.int x6), .val (.int x7), .val (.int x8), .val (.int x9), .val (.int x10), .val (.int x11), .val (.ref x12), .val (.ref x13), .val (.ref x14), .val (.ref x15), .val (.int x16), .unset, .unset, .unset, .unset, .unset]
def own_F12 (x0 : Int32) (x1 : Int32) (x2 : Int32) (x3 : Int32) (x4 : Int32) (x5 : Int32) (x6 : Int32) (x7 : Int32) (x8 : Int32) (x9 : Int32) (x10 : Int32) (x11 : Int32) (x12 : Addr) (x13 : Addr) (x14 : Addr) (x15 : Addr) (x16 : Int32) (x17 : Int32) : Array Slot := #[.val (.int x0), .val (.int x1), .val (.int x2), .val (.int x3), .val (.int x4), .val (.int x5), .val (.int x6), .val (.int x7), .val (.int x8), .val (.int x9), .val (.int x10), .val (.int x11), .val (.ref x12), .val (.ref x13), .val (.ref x14), .val (.ref x15), .val (.int x16), .val (.int x17), .unset, .unset, .unset, .unset]
theorem pd__40IILjava_47lang_47String_59_41V : parseMethodDescriptor "(IILjava/lang/String;)V" = some ⟨[.int, .int, (.object "java/lang/String")], none⟩ := by decide +kernel
def own_F13 (x0 : Int32) (x1 : Int32) (x2 : Int32) (x3 : Int32) (x4 : Int32) (x5 : Int32) (x6 : Int32) (x7 : Int32) (x8 : Int32) (x9 : Int32) (x10 : Int32) (x11 : Int32) (x12 : Addr) (x13 : Addr) (x14 : Addr) (x15 : Addr) (x16 : Int32) (x17 : Int32) (x18 : Addr) : Array Slot := #[.val (.int x0), .val (.int x1), .val (.int x2), .val (.int x3), .val (.int x4), .val (.int x5), .val (.int x6), .val (.int x7), .val (.int x8), .val (.int x9), .val (.int x10), .val (.int x11), .val (.ref x12), .val (.ref x13), .val (.ref x14), .val (.ref x15), .val (.int x16), .val (.int x17), .val (.ref x18), .unset, .unset, .unset]
def own_F14 (x0 : Int32) (x1 : Int32) (x2 : Int32) (x3 : Int32) (x4 : Int32) (x5 : Int32) (x6 : Int32) (x7 : Int32) (x8 : Int32) (x9 : Int32) (x10 : Int32) (x11 : Int32) (x12 : Addr) (x13 : Addr) (x14 : Addr) (x15 : Addr) (x16 : Int32) (x17 : Int32) (x18 : Addr) (x19 : Addr) : Array Slot := #[.val (.int x0), .val (.int x1), .val (.int x2), .val (.int x3), .val (.int x4), .val (.int x5), .val (.int x6), .val (.int x7), .val (.int x8), .val (.int x9), .val (.int x10), .val (.int x11), .val (.ref x12), .val (.ref x13), .val (.ref x14), .val (.ref x15), .val (.int x16), .val (.int x17), .val (.ref x18), .val (.ref x19), .unset, .unset]
def own_F15 (x0 : Int32) (x1 : Int32) (x2 : Int32) (x3 : Int32) (x4 : Int32) (x5 : Int32) (x6 : Int32) (x7 : Int32) (x8 : Int32) (x9 : Int32) (x10 : Int32) (x11 : Int32) (x12 : Addr) (x13 : Addr) (x14 : Addr) (x15 : Addr) (x16 : Int32) (x17 : Int32) (x18 : Addr) (x19 : Addr) (x20 : Addr) : Array Slot := #[.val (.int x0), .val (.int x1), .val (.int x2), .val (.int x3), .val (.int x4), .val (.int x5), .val (.int x6), .val (.int x7), .val (.int x8), .val (.int x9), .val (.int x10), .val (.int x11), .val (.ref x12), .val (.ref x13), .val (.ref x14), .val (.ref x15), .val (.int x16), .val (.int x17), .val (.ref x18), .val (.ref x19), .val (.ref x20), .unset]
def own_F16 (x0 : Int32) (x1 : Int32) (x2 : Int32) (x3 : Int32) (x4 : Int32) (x5 : Int32) (x6 : Int32) (x7 : Int32) (x8 : Int32) (x9 : Int32) (x10 : Int32) (x11 : Int32) (x12 : Addr) (x13 : Addr) (x14 : Addr) (x15 : Addr) (x16 : Int32) (x17 : Int32) (x18 : Addr) (x19 : Addr) (x20 : Addr) (x21 : Addr) : Array Slot := #[.val (.int x0), .val (.int x1), .val (.int x2), .val (.int x3), .val (.int x4), .val (.int x5), .val (.int x6), .val (.int x7), .val (.int x8), .val (.int x9), .val (.int x10), .val (.int x11), .val (.ref x12), .val (.ref x13), .val (.ref x14), .val (.ref x15), .val (.int x16), .val (.int x17), .val (.ref x18), .val (.ref x19), .val (.ref x20), .val (.ref x21)]
theorem pd__40I_41Ljava_47lang_47Integer_59 : parseMethodDescriptor "(I)Ljava/lang/Integer;" = some ⟨[.int], some (.object "java/lang/Integer")⟩ := by decide +kernel
theorem ef_0 (m : MethodId) (x0 : Int32) (x1 : Int32) (x2 : Int32) (x3 : Int32) (x4 : Int32) (x5 : Int32) : entryFrame m #[(.int x0), (.int x1), (.int x2), (.int x3), (.int x4), (.int x5)] maxLocals = mkF m 0 #[.val (.int x0), .val (.int x1), .val (.int x2), .val (.int x3), .val (.int x4), .val (.int x5), .unset, .unset, .unset, .unset, .unset, .unset, .unset, .unset, .unset, .unset, .unset, .unset, .unset, .unset, .unset, .unset] [] := by first | (simp [entryFrame, mkF, argsToLocals, Value.category, maxLocals]; done) | rfl
def Q0 (Z : State) (i1 : Int32) (i2 : Int32) (i3 : Int32) (i4 : Int32) (i5 : Int32) (i6 : Int32) (cl_s_cacheI : Cell) (zc : Int32) (s_cacheI : Addr) (h0 : Heap) (n0 : Nat) (v : Option Value) (h : Heap) (L : List Loc) : Prop := v = some (.int (1 : Int32)) ∧ Fr n0 L
set_option maxRecDepth 65536 in
set_option maxHeartbeats 40000000 in
theorem rm0 (l : Launch) (Z : State) (a0 : Array Value) (hw : ∀ d ∈ tables_1, d.before a0 Z = true) (ws : List Jvm.Cond) (i1 : Int32) (i2 : Int32) (i3 : Int32) (i4 : Int32) (i5 : Int32) (i6 : Int32) (cl_s_cacheI : Cell) (zc : Int32) (s_cacheI : Addr) (h0 : Heap) (n0 : Nat) (O0 : Old Z n0 h0) (S_s_cacheI : Sta Z Z.heap "java/lang/Integer$IntegerCache" "cache" "[Ljava/lang/Integer;" (.ref s_cacheI)) (S_high : Sta Z Z.heap "java/lang/Integer$IntegerCache" "high" "I" (.int (127 : Int32))) (BI : Bxs Z s_cacheI cl_s_cacheI "java/lang/Integer" "I" 256 own_vI) (SC : Sta Z Z.heap "java/lang/String" "COMPACT_STRINGS" "Z" (.int zc)) (hzc : ¬ zc = 0) :
    MetFree l x (head1 (Jvm.Cond.code x code maxLocals ret :: ws) room_1) (fun aA uU => aA = #[(.int i1), (.int i2), (.int i3), (.int i4), (.int i5), (.int i6)] ∧ Z.Warmed39 uU.vm ∧ uU.heap = h0 ∧ CHv Z consts_1 uU.vm h0) (fun _ _ _ _ _ => True) (fun _ uU oO uU' => ∃ vV lL, oO = .returned vV ∧ Q0 Z i1 i2 i3 i4 i5 i6 cl_s_cacheI zc s_cacheI h0 n0 vV uU'.heap lL ∧ CHr Z consts_1 uU.vm uU.heap uU'.vm uU'.heap ∧ ReturnedEndW uU oO uU' lL room_1.cells room_1.slots) := by
  refine MetFree.of_bodySF (plainFor_of_name pn_com_example_whirligig_whirligig_UnreadableEqualsPinLaw) hisR ?_
  intro p e s m args below meth c s₁ Bd hml0 hP hK
  obtain ⟨rfl, hZ, hh, H0⟩ := hP
  have hx := Bd.exec
  have hby := Bd.bytes
  have hml : c.maxLocals = 22 := hml0
  have hown : s.vm.findClass "com/example/whirligig/whirligig/UnreadableEqualsPinLaw" = some m.cls := findClass_of_methodNamed Bd.named
  have hnm := (name_of_methodNamed Bd.named Bd.method).1
  have X0 : Stand p l e room_1 (s.setVm s.vm) m #[(.int i1), (.int i2), (.int i3), (.int i4), (.int i5), (.int i6)] below meth c s₁ [] 0 0 := Stand.of_body Bd
  have e0 : s₁.heap = h0 := by rw [← hh, Bd.state]; rfl
  have N0 := Fr.nil n0
  have O := O0
  have hS : s.Since s.vm h0.size := own_since s _
  have hk : h0.size ≤ h0.size := Nat.le_refl _
  have C : CHr Z consts_1 s.vm h0 s.vm h0 := CHr.refl H0
  have hEL := own_EW hw
  have hSA := own_wS hw
  have pre0 : ∀ t, Steps p.tables e below (s₁.setTop (mkF m 0 #[.val (.int i1), .val (.int i2), .val (.int i3), .val (.int i4), .val (.int i5), .val (.int i6), .unset, .unset, .unset, .unset, .unset, .unset, .unset, .unset, .unset, .unset, .unset, .unset, .unset, .unset, .unset, .unset] [])) t → Steps p.tables e below (s₁.setTop (entryFrame m #[(.int i1), (.int i2), (.int i3), (.int i4), (.int i5), (.int i6)] maxLocals)) t := fun t k => castTop (ef_0 m i1 i2 i3 i4 i5 i6) k
  have w1 : ∀ t, Steps p.tables e below (s₁.setTop (mkF m 4 (own_F0 i1 i2 i3 i4 i5 i6) [(.int (i6 &&& (1 : Int32)))])) t → Steps p.tables e below (s₁.setTop (entryFrame m #[(.int i1), (.int i2), (.int i3), (.int i4), (.int i5), (.int i6)] maxLocals)) t := fun t k => by
    refine pre0 t ?_
    refine XS.iload X0.here hx rfl (hb hby at_0) rfl ?_
    show Steps p.tables e below (s₁.setTop (mkF m 2 (own_F0 i1 i2 i3 i4 i5 i6) [(.int i6)])) _
    refine XS.iconst X0.here hx rfl (hb hby at_2) ?_
    show Steps p.tables e below (s₁.setTop (mkF m 3 (own_F0 i1 i2 i3 i4 i5 i6) [(.int (1 : Int32)), (.int i6)])) _
    refine XS.iand X0.here hx rfl (hb hby at_3) rfl ?_
    show Steps p.tables e below (s₁.setTop (mkF m 4 (own_F0 i1 i2 i3 i4 i5 i6) [(.int (i6 &&& (1 : Int32)))])) _
    exact k
  obtain ⟨v3, hv3⟩ : ∃ v : Int32, v = (if (i6 &&& (1 : Int32)) = (0 : Int32) then i2 else i1) := ⟨_, rfl⟩
  have w4 : ∀ t, Steps p.tables e below (s₁.setTop (mkF m 12 (own_F0 i1 i2 i3 i4 i5 i6) [(.int v3)])) t → Steps p.tables e below (s₁.setTop (entryFrame m #[(.int i1), (.int i2), (.int i3), (.int i4), (.int i5), (.int i6)] maxLocals)) t := fun t k => by
    refine w1 t ?_
    show Steps p.tables e below (s₁.setTop (mkF m 4 (own_F0 i1 i2 i3 i4 i5 i6) [(.int (i6 &&& (1 : Int32)))])) _
    by_cases hm2 : (i6 &&& (1 : Int32)) = (0 : Int32)
    · refine XS.ifYes X0.here hx rfl (pc0 := 4) (pc' := 11) rfl (hb hby at_4) rfl ((if0 _ _).trans (teq hm2).1) (by decide) (by decide) ?_
      show Steps p.tables e below (s₁.setTop (mkF m 11 (own_F0 i1 i2 i3 i4 i5 i6) [])) _
      refine XS.iloadN X0.here hx rfl (hb hby at_11) rfl ?_
      show Steps p.tables e below (s₁.setTop (mkF m 12 (own_F0 i1 i2 i3 i4 i5 i6) [(.int i2)])) _
      rw [show v3 = i2 from by rw [hv3]; simp only [if_pos hm2]] at k
      exact k
    · refine XS.ifNo X0.here hx rfl (hb hby at_4) rfl ((if0 _ _).trans (feq hm2).1) ?_
      show Steps p.tables e below (s₁.setTop (mkF m 7 (own_F0 i1 i2 i3 i4 i5 i6) [])) _
      refine XS.iloadN X0.here hx rfl (hb hby at_7) rfl ?_
      show Steps p.tables e below (s₁.setTop (mkF m 8 (own_F0 i1 i2 i3 i4 i5 i6) [(.int i1)])) _
      refine XS.goto X0.here hx rfl (pc0 := 8) (pc' := 12) rfl (hb hby at_8) (by decide) (by decide) ?_
      show Steps p.tables e below (s₁.setTop (mkF m 12 (own_F0 i1 i2 i3 i4 i5 i6) [(.int i1)])) _
      rw [show v3 = i1 from by rw [hv3]; simp only [if_neg hm2]] at k
      exact k
  have w5 : ∀ t, Steps p.tables e below (s₁.setTop (mkF m 18 (own_F1 i1 i2 i3 i4 i5 i6 v3) [(.int (i6 &&& (2 : Int32)))])) t → Steps p.tables e below (s₁.setTop (entryFrame m #[(.int i1), (.int i2), (.int i3), (.int i4), (.int i5), (.int i6)] maxLocals)) t := fun t k => by
    refine w4 t ?_
    refine XS.istore X0.here hx rfl (hb hby at_12) rfl (l' := (own_F1 i1 i2 i3 i4 i5 i6 v3)) rfl ?_
    show Steps p.tables e below (s₁.setTop (mkF m 14 (own_F1 i1 i2 i3 i4 i5 i6 v3) [])) _
    refine XS.iload X0.here hx rfl (hb hby at_14) rfl ?_
    show Steps p.tables e below (s₁.setTop (mkF m 16 (own_F1 i1 i2 i3 i4 i5 i6 v3) [(.int i6)])) _
    refine XS.iconst X0.here hx rfl (hb hby at_16) ?_
    show Steps p.tables e below (s₁.setTop (mkF m 17 (own_F1 i1 i2 i3 i4 i5 i6 v3) [(.int (2 : Int32)), (.int i6)])) _
    refine XS.iand X0.here hx rfl (hb hby at_17) rfl ?_
    show Steps p.tables e below (s₁.setTop (mkF m 18 (own_F1 i1 i2 i3 i4 i5 i6 v3) [(.int (i6 &&& (2 : Int32)))])) _
    exact k
  obtain ⟨v7, hv7⟩ : ∃ v : Int32, v = (if (i6 &&& (2 : Int32)) = (0 : Int32) then i4 else i3) := ⟨_, rfl⟩
  have w8 : ∀ t, Steps p.tables e below (s₁.setTop (mkF m 26 (own_F1 i1 i2 i3 i4 i5 i6 v3) [(.int v7)])) t → Steps p.tables e below (s₁.setTop (entryFrame m #[(.int i1), (.int i2), (.int i3), (.int i4), (.int i5), (.int i6)] maxLocals)) t := fun t k => by
    refine w5 t ?_
    show Steps p.tables e below (s₁.setTop (mkF m 18 (own_F1 i1 i2 i3 i4 i5 i6 v3) [(.int (i6 &&& (2 : Int32)))])) _
    by_cases hm6 : (i6 &&& (2 : Int32)) = (0 : Int32)
    · refine XS.ifYes X0.here hx rfl (pc0 := 18) (pc' := 25) rfl (hb hby at_18) rfl ((if0 _ _).trans (teq hm6).1) (by decide) (by decide) ?_
      show Steps p.tables e below (s₁.setTop (mkF m 25 (own_F1 i1 i2 i3 i4 i5 i6 v3) [])) _
      refine XS.iloadN X0.here hx rfl (hb hby at_25) rfl ?_
      show Steps p.tables e below (s₁.setTop (mkF m 26 (own_F1 i1 i2 i3 i4 i5 i6 v3) [(.int i4)])) _
      rw [show v7 = i4 from by rw [hv7]; simp only [if_pos hm6]] at k
      exact k
    · refine XS.ifNo X0.here hx rfl (hb hby at_18) rfl ((if0 _ _).trans (feq hm6).1) ?_
      show Steps p.tables e below (s₁.setTop (mkF m 21 (own_F1 i1 i2 i3 i4 i5 i6 v3) [])) _
      refine XS.iloadN X0.here hx rfl (hb hby at_21) rfl ?_
      show Steps p.tables e below (s₁.setTop (mkF m 22 (own_F1 i1 i2 i3 i4 i5 i6 v3) [(.int i3)])) _
      refine XS.goto X0.here hx rfl (pc0 := 22) (pc' := 26) rfl (hb hby at_22) (by decide) (by decide) ?_
      show Steps p.tables e below (s₁.setTop (mkF m 26 (own_F1 i1 i2 i3 i4 i5 i6 v3) [(.int i3)])) _
      rw [show v7 = i3 from by rw [hv7]; simp only [if_neg hm6]] at k
      exact k
  have w9 : ∀ t, Steps p.tables e below (s₁.setTop (mkF m 42 (own_F3 i1 i2 i3 i4 i5 i6 v3 v7 ((((i6.toUInt32 >>> ((3 : Int32) &&& 31).toUInt32).toInt32) &&& (3 : Int32)) - (((i6.toUInt32 >>> ((3 : Int32) &&& 31).toUInt32).toInt32) &&& (3 : Int32)) / (3 : Int32) * (3 : Int32))) [(.int (i6 &&& (4 : Int32)))])) t → Steps p.tables e below (s₁.setTop (entryFrame m #[(.int i1), (.int i2), (.int i3), (.int i4), (.int i5), (.int i6)] maxLocals)) t := fun t k => by
    refine w8 t ?_
    refine XS.istore X0.here hx rfl (hb hby at_26) rfl (l' := (own_F2 i1 i2 i3 i4 i5 i6 v3 v7)) rfl ?_
    show Steps p.tables e below (s₁.setTop (mkF m 28 (own_F2 i1 i2 i3 i4 i5 i6 v3 v7) [])) _
    refine XS.iload X0.here hx rfl (hb hby at_28) rfl ?_
    show Steps p.tables e below (s₁.setTop (mkF m 30 (own_F2 i1 i2 i3 i4 i5 i6 v3 v7) [(.int i6)])) _
    refine XS.iconst X0.here hx rfl (hb hby at_30) ?_
    show Steps p.tables e below (s₁.setTop (mkF m 31 (own_F2 i1 i2 i3 i4 i5 i6 v3 v7) [(.int (3 : Int32)), (.int i6)])) _
    refine XS.iushr X0.here hx rfl (hb hby at_31) rfl ?_
    show Steps p.tables e below (s₁.setTop (mkF m 32 (own_F2 i1 i2 i3 i4 i5 i6 v3 v7) [(.int ((i6.toUInt32 >>> ((3 : Int32) &&& 31).toUInt32).toInt32))])) _
    refine XS.iconst X0.here hx rfl (hb hby at_32) ?_
    show Steps p.tables e below (s₁.setTop (mkF m 33 (own_F2 i1 i2 i3 i4 i5 i6 v3 v7) [(.int (3 : Int32)), (.int ((i6.toUInt32 >>> ((3 : Int32) &&& 31).toUInt32).toInt32))])) _
    refine XS.iand X0.here hx rfl (hb hby at_33) rfl ?_
    show Steps p.tables e below (s₁.setTop (mkF m 34 (own_F2 i1 i2 i3 i4 i5 i6 v3 v7) [(.int (((i6.toUInt32 >>> ((3 : Int32) &&& 31).toUInt32).toInt32) &&& (3 : Int32)))])) _
    refine XS.iconst X0.here hx rfl (hb hby at_34) ?_
    show Steps p.tables e below (s₁.setTop (mkF m 35 (own_F2 i1 i2 i3 i4 i5 i6 v3 v7) [(.int (3 : Int32)), (.int (((i6.toUInt32 >>> ((3 : Int32) &&& 31).toUInt32).toInt32) &&& (3 : Int32)))])) _
    refine XS.irem X0.here hx rfl (hb hby at_35) rfl (by decide) ?_
    show Steps p.tables e below (s₁.setTop (mkF m 36 (own_F2 i1 i2 i3 i4 i5 i6 v3 v7) [(.int ((((i6.toUInt32 >>> ((3 : Int32) &&& 31).toUInt32).toInt32) &&& (3 : Int32)) - (((i6.toUInt32 >>> ((3 : Int32) &&& 31).toUInt32).toInt32) &&& (3 : Int32)) / (3 : Int32) * (3 : Int32)))])) _
    refine XS.istore X0.here hx rfl (hb hby at_36) rfl (l' := (own_F3 i1 i2 i3 i4 i5 i6 v3 v7 ((((i6.toUInt32 >>> ((3 : Int32) &&& 31).toUInt32).toInt32) &&& (3 : Int32)) - (((i6.toUInt32 >>> ((3 : Int32) &&& 31).toUInt32).toInt32) &&& (3 : Int32)) / (3 : Int32) * (3 : Int32)))) rfl ?_
    show Steps p.tables e below (s₁.setTop (mkF m 38 (own_F3 i1 i2 i3 i4 i5 i6 v3 v7 ((((i6.toUInt32 >>> ((3 : Int32) &&& 31).toUInt32).toInt32) &&& (3 : Int32)) - (((i6.toUInt32 >>> ((3 : Int32) &&& 31).toUInt32).toInt32) &&& (3 : Int32)) / (3 : Int32) * (3 : Int32))) [])) _
    refine XS.iload X0.here hx rfl (hb hby at_38) rfl ?_
    show Steps p.tables e below (s₁.setTop (mkF m 40 (own_F3 i1 i2 i3 i4 i5 i6 v3 v7 ((((i6.toUInt32 >>> ((3 : Int32) &&& 31).toUInt32).toInt32) &&& (3 : Int32)) - (((i6.toUInt32 >>> ((3 : Int32) &&& 31).toUInt32).toInt32) &&& (3 : Int32)) / (3 : Int32) * (3 : Int32))) [(.int i6)])) _
    refine XS.iconst X0.here hx rfl (hb hby at_40) ?_
    show Steps p.tables e below (s₁.setTop (mkF m 41 (own_F3 i1 i2 i3 i4 i5 i6 v3 v7 ((((i6.toUInt32 >>> ((3 : Int32) &&& 31).toUInt32).toInt32) &&& (3 : Int32)) - (((i6.toUInt32 >>> ((3 : Int32) &&& 31).toUInt32).toInt32) &&& (3 : Int32)) / (3 : Int32) * (3 : Int32))) [(.int (4 : Int32)), (.int i6)])) _
    refine XS.iand X0.here hx rfl (hb hby at_41) rfl ?_
    show Steps p.tables e below (s₁.setTop (mkF m 42 (own_F3 i1 i2 i3 i4 i5 i6 v3 v7 ((((i6.toUInt32 >>> ((3 : Int32) &&& 31).toUInt32).toInt32) &&& (3 : Int32)) - (((i6.toUInt32 >>> ((3 : Int32) &&& 31).toUInt32).toInt32) &&& (3 : Int32)) / (3 : Int32) * (3 : Int32))) [(.int (i6 &&& (4 : Int32)))])) _
    exact k
  obtain ⟨l2, hl2⟩ : ∃ v : Int32, v = (if (i6 &&& (4 : Int32)) = (0 : Int32) then ((((i6.toUInt32 >>> ((5 : Int32) &&& 31).toUInt32).toInt32) &&& (3 : Int32)) - (((i6.toUInt32 >>> ((5 : Int32) &&& 31).toUInt32).toInt32) &&& (3 : Int32)) / (3 : Int32) * (3 : Int32)) else ((((i6.toUInt32 >>> ((3 : Int32) &&& 31).toUInt32).toInt32) &&& (3 : Int32)) - (((i6.toUInt32 >>> ((3 : Int32) &&& 31).toUInt32).toInt32) &&& (3 : Int32)) / (3 : Int32) * (3 : Int32))) := ⟨_, rfl⟩
  have w11 : ∀ t, Steps p.tables e below (s₁.setTop (mkF m 58 (own_F3 i1 i2 i3 i4 i5 i6 v3 v7 ((((i6.toUInt32 >>> ((3 : Int32) &&& 31).toUInt32).toInt32) &&& (3 : Int32)) - (((i6.toUInt32 >>> ((3 : Int32) &&& 31).toUInt32).toInt32) &&& (3 : Int32)) / (3 : Int32) * (3 : Int32))) [(.int l2)])) t → Steps p.tables e below (s₁.setTop (entryFrame m #[(.int i1), (.int i2), (.int i3), (.int i4), (.int i5), (.int i6)] maxLocals)) t := fun t k => by
    refine w9 t ?_
    show Steps p.tables e below (s₁.setTop (mkF m 42 (own_F3 i1 i2 i3 i4 i5 i6 v3 v7 ((((i6.toUInt32 >>> ((3 : Int32) &&& 31).toUInt32).toInt32) &&& (3 : Int32)) - (((i6.toUInt32 >>> ((3 : Int32) &&& 31).toUInt32).toInt32) &&& (3 : Int32)) / (3 : Int32) * (3 : Int32))) [(.int (i6 &&& (4 : Int32)))])) _
    by_cases hm10 : (i6 &&& (4 : Int32)) = (0 : Int32)
    · refine XS.ifYes X0.here hx rfl (pc0 := 42) (pc' := 50) rfl (hb hby at_42) rfl ((if0 _ _).trans (teq hm10).1) (by decide) (by decide) ?_
      show Steps p.tables e below (s₁.setTop (mkF m 50 (own_F3 i1 i2 i3 i4 i5 i6 v3 v7 ((((i6.toUInt32 >>> ((3 : Int32) &&& 31).toUInt32).toInt32) &&& (3 : Int32)) - (((i6.toUInt32 >>> ((3 : Int32) &&& 31).toUInt32).toInt32) &&& (3 : Int32)) / (3 : Int32) * (3 : Int32))) [])) _
      refine XS.iload X0.here hx rfl (hb hby at_50) rfl ?_
      show Steps p.tables e below (s₁.setTop (mkF m 52 (own_F3 i1 i2 i3 i4 i5 i6 v3 v7 ((((i6.toUInt32 >>> ((3 : Int32) &&& 31).toUInt32).toInt32) &&& (3 : Int32)) - (((i6.toUInt32 >>> ((3 : Int32) &&& 31).toUInt32).toInt32) &&& (3 : Int32)) / (3 : Int32) * (3 : Int32))) [(.int i6)])) _
      refine XS.iconst X0.here hx rfl (hb hby at_52) ?_
      show Steps p.tables e below (s₁.setTop (mkF m 53 (own_F3 i1 i2 i3 i4 i5 i6 v3 v7 ((((i6.toUInt32 >>> ((3 : Int32) &&& 31).toUInt32).toInt32) &&& (3 : Int32)) - (((i6.toUInt32 >>> ((3 : Int32) &&& 31).toUInt32).toInt32) &&& (3 : Int32)) / (3 : Int32) * (3 : Int32))) [(.int (5 : Int32)), (.int i6)])) _
      refine XS.iushr X0.here hx rfl (hb hby at_53) rfl ?_
      show Steps p.tables e below (s₁.setTop (mkF m 54 (own_F3 i1 i2 i3 i4 i5 i6 v3 v7 ((((i6.toUInt32 >>> ((3 : Int32) &&& 31).toUInt32).toInt32) &&& (3 : Int32)) - (((i6.toUInt32 >>> ((3 : Int32) &&& 31).toUInt32).toInt32) &&& (3 : Int32)) / (3 : Int32) * (3 : Int32))) [(.int ((i6.toUInt32 >>> ((5 : Int32) &&& 31).toUInt32).toInt32))])) _
      refine XS.iconst X0.here hx rfl (hb hby at_54) ?_
      show Steps p.tables e below (s₁.setTop (mkF m 55 (own_F3 i1 i2 i3 i4 i5 i6 v3 v7 ((((i6.toUInt32 >>> ((3 : Int32) &&& 31).toUInt32).toInt32) &&& (3 : Int32)) - (((i6.toUInt32 >>> ((3 : Int32) &&& 31).toUInt32).toInt32) &&& (3 : Int32)) / (3 : Int32) * (3 : Int32))) [(.int (3 : Int32)), (.int ((i6.toUInt32 >>> ((5 : Int32) &&& 31).toUInt32).toInt32))])) _
      refine XS.iand X0.here hx rfl (hb hby at_55) rfl ?_
      show Steps p.tables e below (s₁.setTop (mkF m 56 (own_F3 i1 i2 i3 i4 i5 i6 v3 v7 ((((i6.toUInt32 >>> ((3 : Int32) &&& 31).toUInt32).toInt32) &&& (3 : Int32)) - (((i6.toUInt32 >>> ((3 : Int32) &&& 31).toUInt32).toInt32) &&& (3 : Int32)) / (3 : Int32) * (3 : Int32))) [(.int (((i6.toUInt32 >>> ((5 : Int32) &&& 31).toUInt32).toInt32) &&& (3 : Int32)))])) _
      refine XS.iconst X0.here hx rfl (hb hby at_56) ?_
      show Steps p.tables e below (s₁.setTop (mkF m 57 (own_F3 i1 i2 i3 i4 i5 i6 v3 v7 ((((i6.toUInt32 >>> ((3 : Int32) &&& 31).toUInt32).toInt32) &&& (3 : Int32)) - (((i6.toUInt32 >>> ((3 : Int32) &&& 31).toUInt32).toInt32) &&& (3 : Int32)) / (3 : Int32) * (3 : Int32))) [(.int (3 : Int32)), (.int (((i6.toUInt32 >>> ((5 : Int32) &&& 31).toUInt32).toInt32) &&& (3 : Int32)))])) _
      refine XS.irem X0.here hx rfl (hb hby at_57) rfl (by decide) ?_
      show Steps p.tables e below (s₁.setTop (mkF m 58 (own_F3 i1 i2 i3 i4 i5 i6 v3 v7 ((((i6.toUInt32 >>> ((3 : Int32) &&& 31).toUInt32).toInt32) &&& (3 : Int32)) - (((i6.toUInt32 >>> ((3 : Int32) &&& 31).toUInt32).toInt32) &&& (3 : Int32)) / (3 : Int32) * (3 : Int32))) [(.int ((((i6.toUInt32 >>> ((5 : Int32) &&& 31).toUInt32).toInt32) &&& (3 : Int32)) - (((i6.toUInt32 >>> ((5 : Int32) &&& 31).toUInt32).toInt32) &&& (3 : Int32)) / (3 : Int32) * (3 : Int32)))])) _
      rw [show l2 = ((((i6.toUInt32 >>> ((5 : Int32) &&& 31).toUInt32).toInt32) &&& (3 : Int32)) - (((i6.toUInt32 >>> ((5 : Int32) &&& 31).toUInt32).toInt32) &&& (3 : Int32)) / (3 : Int32) * (3 : Int32)) from by rw [hl2]; simp only [if_pos hm10]] at k
      exact k
    · refine XS.ifNo X0.here hx rfl (hb hby at_42) rfl ((if0 _ _).trans (feq hm10).1) ?_
      show Steps p.tables e below (s₁.setTop (mkF m 45 (own_F3 i1 i2 i3 i4 i5 i6 v3 v7 ((((i6.toUInt32 >>> ((3 : Int32) &&& 31).toUInt32).toInt32) &&& (3 : Int32)) - (((i6.toUInt32 >>> ((3 : Int32) &&& 31).toUInt32).toInt32) &&& (3 : Int32)) / (3 : Int32) * (3 : Int32))) [])) _
      refine XS.iload X0.here hx rfl (hb hby at_45) rfl ?_
      show Steps p.tables e below (s₁.setTop (mkF m 47 (own_F3 i1 i2 i3 i4 i5 i6 v3 v7 ((((i6.toUInt32 >>> ((3 : Int32) &&& 31).toUInt32).toInt32) &&& (3 : Int32)) - (((i6.toUInt32 >>> ((3 : Int32) &&& 31).toUInt32).toInt32) &&& (3 : Int32)) / (3 : Int32) * (3 : Int32))) [(.int ((((i6.toUInt32 >>> ((3 : Int32) &&& 31).toUInt32).toInt32) &&& (3 : Int32)) - (((i6.toUInt32 >>> ((3 : Int32) &&& 31).toUInt32).toInt32) &&& (3 : Int32)) / (3 : Int32) * (3 : Int32)))])) _
      refine XS.goto X0.here hx rfl (pc0 := 47) (pc' := 58) rfl (hb hby at_47) (by decide) (by decide) ?_
      show Steps p.tables e below (s₁.setTop (mkF m 58 (own_F3 i1 i2 i3 i4 i5 i6 v3 v7 ((((i6.toUInt32 >>> ((3 : Int32) &&& 31).toUInt32).toInt32) &&& (3 : Int32)) - (((i6.toUInt32 >>> ((3 : Int32) &&& 31).toUInt32).toInt32) &&& (3 : Int32)) / (3 : Int32) * (3 : Int32))) [(.int ((((i6.toUInt32 >>> ((3 : Int32) &&& 31).toUInt32).toInt32) &&& (3 : Int32)) - (((i6.toUInt32 >>> ((3 : Int32) &&& 31).toUInt32).toInt32) &&& (3 : Int32)) / (3 : Int32) * (3 : Int32)))])) _
      rw [show l2 = ((((i6.toUInt32 >>> ((3 : Int32) &&& 31).toUInt32).toInt32) &&& (3 : Int32)) - (((i6.toUInt32 >>> ((3 : Int32) &&& 31).toUInt32).toInt32) &&& (3 : Int32)) / (3 : Int32) * (3 : Int32)) from by rw [hl2]; simp only [if_neg hm10]] at k
      exact k
  have w12 : ∀ t, Steps p.tables e below (s₁.setTop (mkF m 66 (own_F4 i1 i2 i3 i4 i5 i6 v3 v7 ((((i6.toUInt32 >>> ((3 : Int32) &&& 31).toUInt32).toInt32) &&& (3 : Int32)) - (((i6.toUInt32 >>> ((3 : Int32) &&& 31).toUInt32).toInt32) &&& (3 : Int32)) / (3 : Int32) * (3 : Int32)) l2) [(.int (i6 &&& (128 : Int32)))])) t → Steps p.tables e below (s₁.setTop (entryFrame m #[(.int i1), (.int i2), (.int i3), (.int i4), (.int i5), (.int i6)] maxLocals)) t := fun t k => by
    refine w11 t ?_
    refine XS.istore X0.here hx rfl (hb hby at_58) rfl (l' := (own_F4 i1 i2 i3 i4 i5 i6 v3 v7 ((((i6.toUInt32 >>> ((3 : Int32) &&& 31).toUInt32).toInt32) &&& (3 : Int32)) - (((i6.toUInt32 >>> ((3 : Int32) &&& 31).toUInt32).toInt32) &&& (3 : Int32)) / (3 : Int32) * (3 : Int32)) l2)) rfl ?_
    show Steps p.tables e below (s₁.setTop (mkF m 60 (own_F4 i1 i2 i3 i4 i5 i6 v3 v7 ((((i6.toUInt32 >>> ((3 : Int32) &&& 31).toUInt32).toInt32) &&& (3 : Int32)) - (((i6.toUInt32 >>> ((3 : Int32) &&& 31).toUInt32).toInt32) &&& (3 : Int32)) / (3 : Int32) * (3 : Int32)) l2) [])) _
    refine XS.iload X0.here hx rfl (hb hby at_60) rfl ?_
    show Steps p.tables e below (s₁.setTop (mkF m 62 (own_F4 i1 i2 i3 i4 i5 i6 v3 v7 ((((i6.toUInt32 >>> ((3 : Int32) &&& 31).toUInt32).toInt32) &&& (3 : Int32)) - (((i6.toUInt32 >>> ((3 : Int32) &&& 31).toUInt32).toInt32) &&& (3 : Int32)) / (3 : Int32) * (3 : Int32)) l2) [(.int i6)])) _
    refine XS.sipush X0.here hx rfl (hb hby at_62) ?_
    show Steps p.tables e below (s₁.setTop (mkF m 65 (own_F4 i1 i2 i3 i4 i5 i6 v3 v7 ((((i6.toUInt32 >>> ((3 : Int32) &&& 31).toUInt32).toInt32) &&& (3 : Int32)) - (((i6.toUInt32 >>> ((3 : Int32) &&& 31).toUInt32).toInt32) &&& (3 : Int32)) / (3 : Int32) * (3 : Int32)) l2) [(.int (128 : Int32)), (.int i6)])) _
    refine XS.iand X0.here hx rfl (hb hby at_65) rfl ?_
    show Steps p.tables e below (s₁.setTop (mkF m 66 (own_F4 i1 i2 i3 i4 i5 i6 v3 v7 ((((i6.toUInt32 >>> ((3 : Int32) &&& 31).toUInt32).toInt32) &&& (3 : Int32)) - (((i6.toUInt32 >>> ((3 : Int32) &&& 31).toUInt32).toInt32) &&& (3 : Int32)) / (3 : Int32) * (3 : Int32)) l2) [(.int (i6 &&& (128 : Int32)))])) _
    exact k
  obtain ⟨v14, hv14⟩ : ∃ v : Int32, v = (if (i6 &&& (128 : Int32)) = (0 : Int32) then ((i5.toUInt32 >>> ((16 : Int32) &&& 31).toUInt32).toInt32) else i5) := ⟨_, rfl⟩
  have w15 : ∀ t, Steps p.tables e below (s₁.setTop (mkF m 79 (own_F4 i1 i2 i3 i4 i5 i6 v3 v7 ((((i6.toUInt32 >>> ((3 : Int32) &&& 31).toUInt32).toInt32) &&& (3 : Int32)) - (((i6.toUInt32 >>> ((3 : Int32) &&& 31).toUInt32).toInt32) &&& (3 : Int32)) / (3 : Int32) * (3 : Int32)) l2) [(.int v14)])) t → Steps p.tables e below (s₁.setTop (entryFrame m #[(.int i1), (.int i2), (.int i3), (.int i4), (.int i5), (.int i6)] maxLocals)) t := fun t k => by
    refine w12 t ?_
    show Steps p.tables e below (s₁.setTop (mkF m 66 (own_F4 i1 i2 i3 i4 i5 i6 v3 v7 ((((i6.toUInt32 >>> ((3 : Int32) &&& 31).toUInt32).toInt32) &&& (3 : Int32)) - (((i6.toUInt32 >>> ((3 : Int32) &&& 31).toUInt32).toInt32) &&& (3 : Int32)) / (3 : Int32) * (3 : Int32)) l2) [(.int (i6 &&& (128 : Int32)))])) _
    by_cases hm13 : (i6 &&& (128 : Int32)) = (0 : Int32)
    · refine XS.ifYes X0.here hx rfl (pc0 := 66) (pc' := 74) rfl (hb hby at_66) rfl ((if0 _ _).trans (teq hm13).1) (by decide) (by decide) ?_
      show Steps p.tables e below (s₁.setTop (mkF m 74 (own_F4 i1 i2 i3 i4 i5 i6 v3 v7 ((((i6.toUInt32 >>> ((3 : Int32) &&& 31).toUInt32).toInt32) &&& (3 : Int32)) - (((i6.toUInt32 >>> ((3 : Int32) &&& 31).toUInt32).toInt32) &&& (3 : Int32)) / (3 : Int32) * (3 : Int32)) l2) [])) _
      refine XS.iload X0.here hx rfl (hb hby at_74) rfl ?_
      show Steps p.tables e below (s₁.setTop (mkF m 76 (own_F4 i1 i2 i3 i4 i5 i6 v3 v7 ((((i6.toUInt32 >>> ((3 : Int32) &&& 31).toUInt32).toInt32) &&& (3 : Int32)) - (((i6.toUInt32 >>> ((3 : Int32) &&& 31).toUInt32).toInt32) &&& (3 : Int32)) / (3 : Int32) * (3 : Int32)) l2) [(.int i5)])) _
      refine XS.bipush X0.here hx rfl (hb hby at_76) ?_
      show Steps p.tables e below (s₁.setTop (mkF m 78 (own_F4 i1 i2 i3 i4 i5 i6 v3 v7 ((((i6.toUInt32 >>> ((3 : Int32) &&& 31).toUInt32).toInt32) &&& (3 : Int32)) - (((i6.toUInt32 >>> ((3 : Int32) &&& 31).toUInt32).toInt32) &&& (3 : Int32)) / (3 : Int32) * (3 : Int32)) l2) [(.int (16 : Int32)), (.int i5)])) _
      refine XS.iushr X0.here hx rfl (hb hby at_78) rfl ?_
      show Steps p.tables e below (s₁.setTop (mkF m 79 (own_F4 i1 i2 i3 i4 i5 i6 v3 v7 ((((i6.toUInt32 >>> ((3 : Int32) &&& 31).toUInt32).toInt32) &&& (3 : Int32)) - (((i6.toUInt32 >>> ((3 : Int32) &&& 31).toUInt32).toInt32) &&& (3 : Int32)) / (3 : Int32) * (3 : Int32)) l2) [(.int ((i5.toUInt32 >>> ((16 : Int32) &&& 31).toUInt32).toInt32))])) _
      rw [show v14 = ((i5.toUInt32 >>> ((16 : Int32) &&& 31).toUInt32).toInt32) from by rw [hv14]; simp only [if_pos hm13]] at k
      exact k
    · refine XS.ifNo X0.here hx rfl (hb hby at_66) rfl ((if0 _ _).trans (feq hm13).1) ?_
      show Steps p.tables e below (s₁.setTop (mkF m 69 (own_F4 i1 i2 i3 i4 i5 i6 v3 v7 ((((i6.toUInt32 >>> ((3 : Int32) &&& 31).toUInt32).toInt32) &&& (3 : Int32)) - (((i6.toUInt32 >>> ((3 : Int32) &&& 31).toUInt32).toInt32) &&& (3 : Int32)) / (3 : Int32) * (3 : Int32)) l2) [])) _
      refine XS.iload X0.here hx rfl (hb hby at_69) rfl ?_
      show Steps p.tables e below (s₁.setTop (mkF m 71 (own_F4 i1 i2 i3 i4 i5 i6 v3 v7 ((((i6.toUInt32 >>> ((3 : Int32) &&& 31).toUInt32).toInt32) &&& (3 : Int32)) - (((i6.toUInt32 >>> ((3 : Int32) &&& 31).toUInt32).toInt32) &&& (3 : Int32)) / (3 : Int32) * (3 : Int32)) l2) [(.int i5)])) _
      refine XS.goto X0.here hx rfl (pc0 := 71) (pc' := 79) rfl (hb hby at_71) (by decide) (by decide) ?_
      show Steps p.tables e below (s₁.setTop (mkF m 79 (own_F4 i1 i2 i3 i4 i5 i6 v3 v7 ((((i6.toUInt32 >>> ((3 : Int32) &&& 31).toUInt32).toInt32) &&& (3 : Int32)) - (((i6.toUInt32 >>> ((3 : Int32) &&& 31).toUInt32).toInt32) &&& (3 : Int32)) / (3 : Int32) * (3 : Int32)) l2) [(.int i5)])) _
      rw [show v14 = i5 from by rw [hv14]; simp only [if_neg hm13]] at k
      exact k
  have w16 : ∀ t, Steps p.tables e below (s₁.setTop (mkF m 87 (own_F5 i1 i2 i3 i4 i5 i6 v3 v7 ((((i6.toUInt32 >>> ((3 : Int32) &&& 31).toUInt32).toInt32) &&& (3 : Int32)) - (((i6.toUInt32 >>> ((3 : Int32) &&& 31).toUInt32).toInt32) &&& (3 : Int32)) / (3 : Int32) * (3 : Int32)) l2 v14) [(.int (i6 &&& (256 : Int32)))])) t → Steps p.tables e below (s₁.setTop (entryFrame m #[(.int i1), (.int i2), (.int i3), (.int i4), (.int i5), (.int i6)] maxLocals)) t := fun t k => by
    refine w15 t ?_
    refine XS.istore X0.here hx rfl (hb hby at_79) rfl (l' := (own_F5 i1 i2 i3 i4 i5 i6 v3 v7 ((((i6.toUInt32 >>> ((3 : Int32) &&& 31).toUInt32).toInt32) &&& (3 : Int32)) - (((i6.toUInt32 >>> ((3 : Int32) &&& 31).toUInt32).toInt32) &&& (3 : Int32)) / (3 : Int32) * (3 : Int32)) l2 v14)) rfl ?_
    show Steps p.tables e below (s₁.setTop (mkF m 81 (own_F5 i1 i2 i3 i4 i5 i6 v3 v7 ((((i6.toUInt32 >>> ((3 : Int32) &&& 31).toUInt32).toInt32) &&& (3 : Int32)) - (((i6.toUInt32 >>> ((3 : Int32) &&& 31).toUInt32).toInt32) &&& (3 : Int32)) / (3 : Int32) * (3 : Int32)) l2 v14) [])) _
    refine XS.iload X0.here hx rfl (hb hby at_81) rfl ?_
    show Steps p.tables e below (s₁.setTop (mkF m 83 (own_F5 i1 i2 i3 i4 i5 i6 v3 v7 ((((i6.toUInt32 >>> ((3 : Int32) &&& 31).toUInt32).toInt32) &&& (3 : Int32)) - (((i6.toUInt32 >>> ((3 : Int32) &&& 31).toUInt32).toInt32) &&& (3 : Int32)) / (3 : Int32) * (3 : Int32)) l2 v14) [(.int i6)])) _
    refine XS.sipush X0.here hx rfl (hb hby at_83) ?_
    show Steps p.tables e below (s₁.setTop (mkF m 86 (own_F5 i1 i2 i3 i4 i5 i6 v3 v7 ((((i6.toUInt32 >>> ((3 : Int32) &&& 31).toUInt32).toInt32) &&& (3 : Int32)) - (((i6.toUInt32 >>> ((3 : Int32) &&& 31).toUInt32).toInt32) &&& (3 : Int32)) / (3 : Int32) * (3 : Int32)) l2 v14) [(.int (256 : Int32)), (.int i6)])) _
    refine XS.iand X0.here hx rfl (hb hby at_86) rfl ?_
    show Steps p.tables e below (s₁.setTop (mkF m 87 (own_F5 i1 i2 i3 i4 i5 i6 v3 v7 ((((i6.toUInt32 >>> ((3 : Int32) &&& 31).toUInt32).toInt32) &&& (3 : Int32)) - (((i6.toUInt32 >>> ((3 : Int32) &&& 31).toUInt32).toInt32) &&& (3 : Int32)) / (3 : Int32) * (3 : Int32)) l2 v14) [(.int (i6 &&& (256 : Int32)))])) _
    exact k
  obtain ⟨v18, hv18⟩ : ∃ v : Int32, v = (if (i6 &&& (256 : Int32)) = (0 : Int32) then ((i5.toUInt32 >>> ((24 : Int32) &&& 31).toUInt32).toInt32) else ((i5.toUInt32 >>> ((8 : Int32) &&& 31).toUInt32).toInt32)) := ⟨_, rfl⟩
  have w19 : ∀ t, Steps p.tables e below (s₁.setTop (mkF m 103 (own_F5 i1 i2 i3 i4 i5 i6 v3 v7 ((((i6.toUInt32 >>> ((3 : Int32) &&& 31).toUInt32).toInt32) &&& (3 : Int32)) - (((i6.toUInt32 >>> ((3 : Int32) &&& 31).toUInt32).toInt32) &&& (3 : Int32)) / (3 : Int32) * (3 : Int32)) l2 v14) [(.int v18)])) t → Steps p.tables e below (s₁.setTop (entryFrame m #[(.int i1), (.int i2), (.int i3), (.int i4), (.int i5), (.int i6)] maxLocals)) t := fun t k => by
    refine w16 t ?_
    show Steps p.tables e below (s₁.setTop (mkF m 87 (own_F5 i1 i2 i3 i4 i5 i6 v3 v7 ((((i6.toUInt32 >>> ((3 : Int32) &&& 31).toUInt32).toInt32) &&& (3 : Int32)) - (((i6.toUInt32 >>> ((3 : Int32) &&& 31).toUInt32).toInt32) &&& (3 : Int32)) / (3 : Int32) * (3 : Int32)) l2 v14) [(.int (i6 &&& (256 : Int32)))])) _
    by_cases hm17 : (i6 &&& (256 : Int32)) = (0 : Int32)
    · refine XS.ifYes X0.here hx rfl (pc0 := 87) (pc' := 98) rfl (hb hby at_87) rfl ((if0 _ _).trans (teq hm17).1) (by decide) (by decide) ?_
      show Steps p.tables e below (s₁.setTop (mkF m 98 (own_F5 i1 i2 i3 i4 i5 i6 v3 v7 ((((i6.toUInt32 >>> ((3 : Int32) &&& 31).toUInt32).toInt32) &&& (3 : Int32)) - (((i6.toUInt32 >>> ((3 : Int32) &&& 31).toUInt32).toInt32) &&& (3 : Int32)) / (3 : Int32) * (3 : Int32)) l2 v14) [])) _
      refine XS.iload X0.here hx rfl (hb hby at_98) rfl ?_
      show Steps p.tables e below (s₁.setTop (mkF m 100 (own_F5 i1 i2 i3 i4 i5 i6 v3 v7 ((((i6.toUInt32 >>> ((3 : Int32) &&& 31).toUInt32).toInt32) &&& (3 : Int32)) - (((i6.toUInt32 >>> ((3 : Int32) &&& 31).toUInt32).toInt32) &&& (3 : Int32)) / (3 : Int32) * (3 : Int32)) l2 v14) [(.int i5)])) _
      refine XS.bipush X0.here hx rfl (hb hby at_100) ?_
      show Steps p.tables e below (s₁.setTop (mkF m 102 (own_F5 i1 i2 i3 i4 i5 i6 v3 v7 ((((i6.toUInt32 >>> ((3 : Int32) &&& 31).toUInt32).toInt32) &&& (3 : Int32)) - (((i6.toUInt32 >>> ((3 : Int32) &&& 31).toUInt32).toInt32) &&& (3 : Int32)) / (3 : Int32) * (3 : Int32)) l2 v14) [(.int (24 : Int32)), (.int i5)])) _
      refine XS.iushr X0.here hx rfl (hb hby at_102) rfl ?_
      show Steps p.tables e below (s₁.setTop (mkF m 103 (own_F5 i1 i2 i3 i4 i5 i6 v3 v7 ((((i6.toUInt32 >>> ((3 : Int32) &&& 31).toUInt32).toInt32) &&& (3 : Int32)) - (((i6.toUInt32 >>> ((3 : Int32) &&& 31).toUInt32).toInt32) &&& (3 : Int32)) / (3 : Int32) * (3 : Int32)) l2 v14) [(.int ((i5.toUInt32 >>> ((24 : Int32) &&& 31).toUInt32).toInt32))])) _
      rw [show v18 = ((i5.toUInt32 >>> ((24 : Int32) &&& 31).toUInt32).toInt32) from by rw [hv18]; simp only [if_pos hm17]] at k
      exact k
    · refine XS.ifNo X0.here hx rfl (hb hby at_87) rfl ((if0 _ _).trans (feq hm17).1) ?_
      show Steps p.tables e below (s₁.setTop (mkF m 90 (own_F5 i1 i2 i3 i4 i5 i6 v3 v7 ((((i6.toUInt32 >>> ((3 : Int32) &&& 31).toUInt32).toInt32) &&& (3 : Int32)) - (((i6.toUInt32 >>> ((3 : Int32) &&& 31).toUInt32).toInt32) &&& (3 : Int32)) / (3 : Int32) * (3 : Int32)) l2 v14) [])) _
      refine XS.iload X0.here hx rfl (hb hby at_90) rfl ?_
      show Steps p.tables e below (s₁.setTop (mkF m 92 (own_F5 i1 i2 i3 i4 i5 i6 v3 v7 ((((i6.toUInt32 >>> ((3 : Int32) &&& 31).toUInt32).toInt32) &&& (3 : Int32)) - (((i6.toUInt32 >>> ((3 : Int32) &&& 31).toUInt32).toInt32) &&& (3 : Int32)) / (3 : Int32) * (3 : Int32)) l2 v14) [(.int i5)])) _
      refine XS.bipush X0.here hx rfl (hb hby at_92) ?_
      show Steps p.tables e below (s₁.setTop (mkF m 94 (own_F5 i1 i2 i3 i4 i5 i6 v3 v7 ((((i6.toUInt32 >>> ((3 : Int32) &&& 31).toUInt32).toInt32) &&& (3 : Int32)) - (((i6.toUInt32 >>> ((3 : Int32) &&& 31).toUInt32).toInt32) &&& (3 : Int32)) / (3 : Int32) * (3 : Int32)) l2 v14) [(.int (8 : Int32)), (.int i5)])) _
      refine XS.iushr X0.here hx rfl (hb hby at_94) rfl ?_
      show Steps p.tables e below (s₁.setTop (mkF m 95 (own_F5 i1 i2 i3 i4 i5 i6 v3 v7 ((((i6.toUInt32 >>> ((3 : Int32) &&& 31).toUInt32).toInt32) &&& (3 : Int32)) - (((i6.toUInt32 >>> ((3 : Int32) &&& 31).toUInt32).toInt32) &&& (3 : Int32)) / (3 : Int32) * (3 : Int32)) l2 v14) [(.int ((i5.toUInt32 >>> ((8 : Int32) &&& 31).toUInt32).toInt32))])) _
      refine XS.goto X0.here hx rfl (pc0 := 95) (pc' := 103) rfl (hb hby at_95) (by decide) (by decide) ?_
      show Steps p.tables e below (s₁.setTop (mkF m 103 (own_F5 i1 i2 i3 i4 i5 i6 v3 v7 ((((i6.toUInt32 >>> ((3 : Int32) &&& 31).toUInt32).toInt32) &&& (3 : Int32)) - (((i6.toUInt32 >>> ((3 : Int32) &&& 31).toUInt32).toInt32) &&& (3 : Int32)) / (3 : Int32) * (3 : Int32)) l2 v14) [(.int ((i5.toUInt32 >>> ((8 : Int32) &&& 31).toUInt32).toInt32))])) _
      rw [show v18 = ((i5.toUInt32 >>> ((8 : Int32) &&& 31).toUInt32).toInt32) from by rw [hv18]; simp only [if_neg hm17]] at k
      exact k
  have w20 : ∀ t, Steps p.tables e below (s₁.setTop (mkF m 105 (own_F6 i1 i2 i3 i4 i5 i6 v3 v7 ((((i6.toUInt32 >>> ((3 : Int32) &&& 31).toUInt32).toInt32) &&& (3 : Int32)) - (((i6.toUInt32 >>> ((3 : Int32) &&& 31).toUInt32).toInt32) &&& (3 : Int32)) / (3 : Int32) * (3 : Int32)) l2 v14 v18) [])) t → Steps p.tables e below (s₁.setTop (entryFrame m #[(.int i1), (.int i2), (.int i3), (.int i4), (.int i5), (.int i6)] maxLocals)) t := fun t k => by
    refine w19 t ?_
    refine XS.istore X0.here hx rfl (hb hby at_103) rfl (l' := (own_F6 i1 i2 i3 i4 i5 i6 v3 v7 ((((i6.toUInt32 >>> ((3 : Int32) &&& 31).toUInt32).toInt32) &&& (3 : Int32)) - (((i6.toUInt32 >>> ((3 : Int32) &&& 31).toUInt32).toInt32) &&& (3 : Int32)) / (3 : Int32) * (3 : Int32)) l2 v14 v18)) rfl ?_
    show Steps p.tables e below (s₁.setTop (mkF m 105 (own_F6 i1 i2 i3 i4 i5 i6 v3 v7 ((((i6.toUInt32 >>> ((3 : Int32) &&& 31).toUInt32).toInt32) &&& (3 : Int32)) - (((i6.toUInt32 >>> ((3 : Int32) &&& 31).toUInt32).toInt32) &&& (3 : Int32)) / (3 : Int32) * (3 : Int32)) l2 v14 v18) [])) _
    exact k
  have mm21 : ((((i6.toUInt32 >>> ((3 : Int32) &&& 31).toUInt32).toInt32) &&& (3 : Int32)) - (((i6.toUInt32 >>> ((3 : Int32) &&& 31).toUInt32).toInt32) &&& (3 : Int32)) / (3 : Int32) * (3 : Int32)) = 0 ∨ ((((i6.toUInt32 >>> ((3 : Int32) &&& 31).toUInt32).toInt32) &&& (3 : Int32)) - (((i6.toUInt32 >>> ((3 : Int32) &&& 31).toUInt32).toInt32) &&& (3 : Int32)) / (3 : Int32) * (3 : Int32)) = 1 ∨ ((((i6.toUInt32 >>> ((3 : Int32) &&& 31).toUInt32).toInt32) &&& (3 : Int32)) - (((i6.toUInt32 >>> ((3 : Int32) &&& 31).toUInt32).toInt32) &&& (3 : Int32)) / (3 : Int32) * (3 : Int32)) = 2 := own_m3 _
  rcases mm21 with hk22 | hk22 | hk22
  · rw [hk22] at w20
    obtain ⟨_, _, ⟨T23, L23, k23, n23⟩, -, X23, ⟨Lc23, hQ23, l23, y23, z23⟩, st23⟩ := Jvm.LawKit.callS X0 hx (y := (⟨"com/example/whirligig/whirligig/UnreadableEqualsPinLaw", "chars", "(III)[C"⟩ : MethodName)) hown (mvT hZ (hw _ (List.mem_of_getElem? (i := 0) rfl))) (mvT hZ (hw _ (List.mem_of_getElem? (i := 1) rfl))) (mvT hZ (hw _ (List.mem_of_getElem? (i := 2) rfl))) (mvT hZ (hw _ (List.mem_of_getElem? (i := 3) rfl))) (by decide) (backOf (W := 0) (rm1_0 l Z a0 hw [] i5 ((i5.toUInt32 >>> ((8 : Int32) &&& 31).toUInt32).toInt32) h0 n0 O ) hZ (hw _ (List.mem_of_getElem? (i := 3) rfl)) (hw _ (List.mem_of_getElem? (i := 2) rfl)) (by decide) (by decide)) (g := (mkF m 114 (own_F6 i1 i2 i3 i4 i5 i6 v3 v7 (0 : Int32) l2 v14 v18) [(.int ((i5.toUInt32 >>> ((8 : Int32) &&& 31).toUInt32).toInt32)), (.int i5), (.int (0 : Int32))])) rfl (by rw [hml]; rfl) (argsL := [(.int (0 : Int32)), (.int i5), (.int ((i5.toUInt32 >>> ((8 : Int32) &&& 31).toUInt32).toInt32))]) (rest := []) (lenOf pd__40III_41_91C rfl) rfl (by show 2 * 0 + _ ≤ _; exact Nat.le_of_eq rfl) (hb hby at_114) (fun _ _ => ⟨rfl, e0, (by decide : 0 + 1 ≤ _), (by decide : 0 + 0 ≤ _)⟩)
    dsimp only [Pt.U, Pt.locs, Pt.cells, Pt.slots] at X23 l23 y23 z23 st23 hQ23
    subst l23 y23 z23
    obtain ⟨z_23, kz_23, rfl, N23q, K23, V_z_c23, gz_23, gn_23⟩ := hQ23
    have N23 := Fr.app N0 N23q
    have R := CHr.keep K23 all0 C.1
    have C := C.trans R
    have hk := Nat.le_trans hk K23.1
    have g_z_23 := gn_23
    have O := O.keep K23 all0
    have w24 : ∀ t, Steps p.tables e below (T23.setTop (mkF m 119 (own_F7 i1 i2 i3 i4 i5 i6 v3 v7 (0 : Int32) l2 v14 v18 z_23) [])) t → Steps p.tables e below (s₁.setTop (entryFrame m #[(.int i1), (.int i2), (.int i3), (.int i4), (.int i5), (.int i6)] maxLocals)) t := fun t k => by
      refine w20 t ?_
      refine XS.iload X0.here hx rfl (hb hby at_105) rfl ?_
      show Steps p.tables e below (s₁.setTop (mkF m 107 (own_F6 i1 i2 i3 i4 i5 i6 v3 v7 (0 : Int32) l2 v14 v18) [(.int (0 : Int32))])) _
      refine XS.iload X0.here hx rfl (hb hby at_107) rfl ?_
      show Steps p.tables e below (s₁.setTop (mkF m 109 (own_F6 i1 i2 i3 i4 i5 i6 v3 v7 (0 : Int32) l2 v14 v18) [(.int i5), (.int (0 : Int32))])) _
      refine XS.iload X0.here hx rfl (hb hby at_109) rfl ?_
      show Steps p.tables e below (s₁.setTop (mkF m 111 (own_F6 i1 i2 i3 i4 i5 i6 v3 v7 (0 : Int32) l2 v14 v18) [(.int i5), (.int i5), (.int (0 : Int32))])) _
      refine XS.bipush X0.here hx rfl (hb hby at_111) ?_
      show Steps p.tables e below (s₁.setTop (mkF m 113 (own_F6 i1 i2 i3 i4 i5 i6 v3 v7 (0 : Int32) l2 v14 v18) [(.int (8 : Int32)), (.int i5), (.int i5), (.int (0 : Int32))])) _
      refine XS.iushr X0.here hx rfl (hb hby at_113) rfl ?_
      show Steps p.tables e below (s₁.setTop (mkF m 114 (own_F6 i1 i2 i3 i4 i5 i6 v3 v7 (0 : Int32) l2 v14 v18) [(.int ((i5.toUInt32 >>> ((8 : Int32) &&& 31).toUInt32).toInt32)), (.int i5), (.int (0 : Int32))])) _
      refine st23 _ ?_
      show Steps p.tables e below (T23.setTop (mkF m 117 (own_F6 i1 i2 i3 i4 i5 i6 v3 v7 (0 : Int32) l2 v14 v18) [(.ref z_23)])) _
      refine XS.astore X23.here hx rfl (hb hby at_117) rfl rfl (l' := (own_F7 i1 i2 i3 i4 i5 i6 v3 v7 (0 : Int32) l2 v14 v18 z_23)) rfl ?_
      show Steps p.tables e below (T23.setTop (mkF m 119 (own_F7 i1 i2 i3 i4 i5 i6 v3 v7 (0 : Int32) l2 v14 v18 z_23) [])) _
      exact k
    have mm25 : l2 = 0 ∨ l2 = 1 ∨ l2 = 2 := by rw [hl2]; split <;> first | exact own_m3 _ | exact mk8
    rcases mm25 with hk26 | hk26 | hk26
    · rw [hk26] at w24
      have lt27_z_23 := V_z_c23.lt
      obtain ⟨_, _, ⟨T27, L27, k27, n27⟩, -, X27, ⟨Lc27, hQ27, l27, y27, z27⟩, st27⟩ := Jvm.LawKit.callS X23 hx (y := (⟨"com/example/whirligig/whirligig/UnreadableEqualsPinLaw", "chars", "(III)[C"⟩ : MethodName)) hown (mvT hZ (hw _ (List.mem_of_getElem? (i := 0) rfl))) (mvT hZ (hw _ (List.mem_of_getElem? (i := 1) rfl))) (mvT hZ (hw _ (List.mem_of_getElem? (i := 2) rfl))) (mvT hZ (hw _ (List.mem_of_getElem? (i := 3) rfl))) (by decide) (backOf (W := 0) (rm1_0 l Z a0 hw [] v14 v18 T23.heap n0 O ) hZ (hw _ (List.mem_of_getElem? (i := 3) rfl)) (hw _ (List.mem_of_getElem? (i := 2) rfl)) (by decide) (by decide)) (g := (mkF m 125 (own_F7 i1 i2 i3 i4 i5 i6 v3 v7 (0 : Int32) (0 : Int32) v14 v18 z_23) [(.int v18), (.int v14), (.int (0 : Int32))])) rfl (by rw [hml]; rfl) (argsL := [(.int (0 : Int32)), (.int v14), (.int v18)]) (rest := []) (lenOf pd__40III_41_91C rfl) rfl (by show 2 * 0 + _ ≤ _; exact Nat.le_of_eq rfl) (hb hby at_125) (fun _ _ => ⟨rfl, rfl, (by decide : 1 + 1 ≤ _), (by decide : 0 + 0 ≤ _)⟩)
      dsimp only [Pt.U, Pt.locs, Pt.cells, Pt.slots] at X27 l27 y27 z27 st27 hQ27
      subst l27 y27 z27
      obtain ⟨z_27, kz_27, rfl, N27q, K27, V_z_c27, gz_27, gn_27⟩ := hQ27
      have N27 := Fr.app N23 N27q
      have R := CHr.keep K27 all0 C.1
      have C := C.trans R
      have hk := Nat.le_trans hk K27.1
      have V_z_c23 := V_z_c23.keep K27 nin0
      have ne_z_23_z_27 : z_23 ≠ z_27 := Nat.ne_of_lt (Nat.lt_of_lt_of_le lt27_z_23 gz_27)
      have g_z_27 := gn_27
      have O := O.keep K27 all0
      obtain ⟨T28, h28, X28, e28, E28, A28, D28, -, st28⟩ := newO X27 hx hZ hown (hw _ (List.mem_of_getElem? (i := 5) rfl)) (hw _ (List.mem_of_getElem? (i := 6) rfl)) (hw _ (List.mem_of_getElem? (i := 7) rfl)) rfl (g := (mkF m 130 (own_F8 i1 i2 i3 i4 i5 i6 v3 v7 (0 : Int32) (0 : Int32) v14 v18 z_23 z_27) [])) rfl (hb hby at_130) (by decide) (by decide)
      obtain ⟨b28, gq28⟩ : ∃ z, z = Array.size T27.heap := ⟨_, rfl⟩
      rw [← gq28] at A28 D28 st28
      have ne_z_23_b28 : z_23 ≠ b28 := Nat.ne_of_lt (Nat.lt_of_lt_of_le V_z_c23.lt (Nat.le_of_eq gq28.symm))
      have ne_z_27_b28 : z_27 ≠ b28 := Nat.ne_of_lt (Nat.lt_of_lt_of_le V_z_c27.lt (Nat.le_of_eq gq28.symm))
      have g_b28 : n0 ≤ b28 := Nat.le_trans (O.1 ▸ O.2.1) (Nat.le_of_eq gq28.symm)
      have sf_b28 := own_safeN C.1 E28 (Nat.le_of_eq gq28.symm)
      have R := CHr.ext E28 C.1
      have C := C.trans R
      have hk := Nat.le_trans hk E28.1
      have V_z_c23 := V_z_c23.ext E28
      have V_z_c27 := V_z_c27.ext E28
      have O := O.ext E28
      have F_value_b28 : Fld Z h28 b28 "java/lang/String" "value" "[B" .null := D28 (Or.inr (hw _ (List.mem_of_getElem? (i := 20) rfl))) (ty := (.array .byte)) (by decide)
      have F_coder_b28 : Fld Z h28 b28 "java/lang/String" "coder" "B" (.int (0 : Int32)) := D28 (Or.inr (hw _ (List.mem_of_getElem? (i := 21) rfl))) (ty := .byte) (by decide)
      obtain ⟨_, _, ⟨T29, L29, k29, n29⟩, -, X29, sn29, gr29, ⟨Lc29, hQ29, l29, y29, z29, R29⟩, st29⟩ := X28.specialBackS hx (y := (⟨"java/lang/String", "<init>", "([C)V"⟩ : MethodName)) rfl hown (mvT hZ (hw _ (List.mem_of_getElem? (i := 8) rfl))) (mvT hZ (hw _ (List.mem_of_getElem? (i := 9) rfl))) (mvT hZ (hw _ (List.mem_of_getElem? (i := 10) rfl))) (by decide) (backOfSH (W := 1) (rm2_e l Z a0 hw [] b28 z_23 kz_23 h28 n0 O A28 F_value_b28 F_coder_b28 V_z_c23 g_b28) hZ (hw _ (List.mem_of_getElem? (i := 10) rfl)) (hw _ (List.mem_of_getElem? (i := 7) rfl)) (by decide) (by decide) hEL C.1) (g := (mkF m 136 (own_F8 i1 i2 i3 i4 i5 i6 v3 v7 (0 : Int32) (0 : Int32) v14 v18 z_23 z_27) [(.ref z_23), (.ref b28), (.ref b28)])) rfl (by rw [hml]; rfl) (Steps.refl _) (a := b28) (argsL := [(.ref z_23)]) (rest := [(.ref b28)]) (lenOf pd__40_91C_41V rfl) rfl (by show 2 * 0 + _ ≤ _; exact Nat.le_of_eq rfl) (hb hby at_136) (fun _ _ => ⟨rfl, e28, (by decide : 3 + 4 ≤ _), (by decide : 4 + 8 ≤ _)⟩)
      dsimp only [Pt.U, Pt.locs, Pt.cells, Pt.slots] at X29 l29 y29 z29 st29 hQ29 sn29 gr29 R29
      subst l29 y29 z29
      obtain ⟨X29, hS, hZ, hown⟩ := rebS hS (by rw [e28]; exact hk) X29 sn29 gr29 hZ hown
      obtain ⟨t1_29, kb_29, rfl, N29q, K29, F_v_a_c29, F_c_a_c29, V_t_c29⟩ := hQ29
      have N29 := Fr.app N27 N29q
      have R := R29
      have sf_b28 := R.safe A28.lt sf_b28
      have C := C.trans R
      have hk : T29.heap.size ≤ T29.heap.size := Nat.le_refl _
      have V_z_c23 := V_z_c23.keep K29 (ninS ne_z_23_b28 nin0)
      have V_z_c27 := V_z_c27.keep K29 (ninS ne_z_27_b28 nin0)
      have A28 := A28.keep K29
      have O := O.keep K29 (allS g_b28 all0)
      obtain ⟨T30, h30, X30, e30, E30, A30, D30, -, st30⟩ := newO X29 hx hZ hown (hw _ (List.mem_of_getElem? (i := 5) rfl)) (hw _ (List.mem_of_getElem? (i := 6) rfl)) (hw _ (List.mem_of_getElem? (i := 7) rfl)) rfl (g := (mkF m 141 (own_F9 i1 i2 i3 i4 i5 i6 v3 v7 (0 : Int32) (0 : Int32) v14 v18 z_23 z_27 b28) [])) rfl (hb hby at_141) (by decide) (by decide)
      obtain ⟨b30, gq30⟩ : ∃ z, z = Array.size T29.heap := ⟨_, rfl⟩
      rw [← gq30] at A30 D30 st30
      have ne_z_23_b30 : z_23 ≠ b30 := Nat.ne_of_lt (Nat.lt_of_lt_of_le V_z_c23.lt (Nat.le_of_eq gq30.symm))
      have ne_z_27_b30 : z_27 ≠ b30 := Nat.ne_of_lt (Nat.lt_of_lt_of_le V_z_c27.lt (Nat.le_of_eq gq30.symm))
      have ne_b28_b30 : b28 ≠ b30 := Nat.ne_of_lt (Nat.lt_of_lt_of_le A28.lt (Nat.le_of_eq gq30.symm))
      have ne_t1_29_b30 : t1_29 ≠ b30 := Nat.ne_of_lt (Nat.lt_of_lt_of_le V_t_c29.lt (Nat.le_of_eq gq30.symm))
      have g_b30 : n0 ≤ b30 := Nat.le_trans (O.1 ▸ O.2.1) (Nat.le_of_eq gq30.symm)
      have sf_b30 := own_safeN C.1 E30 (Nat.le_of_eq gq30.symm)
      have R := CHr.ext E30 C.1
      have sf_b28 := R.safe A28.lt sf_b28
      have C := C.trans R
      have hk := Nat.le_trans hk E30.1
      have V_z_c23 := V_z_c23.ext E30
      have V_z_c27 := V_z_c27.ext E30
      have A28 := A28.ext E30
      have F_v_a_c29 := F_v_a_c29.ext E30
      have F_c_a_c29 := F_c_a_c29.ext E30
      have V_t_c29 := V_t_c29.ext E30
      have O := O.ext E30
      have F_value_b30 : Fld Z h30 b30 "java/lang/String" "value" "[B" .null := D30 (Or.inr (hw _ (List.mem_of_getElem? (i := 20) rfl))) (ty := (.array .byte)) (by decide)
      have F_coder_b30 : Fld Z h30 b30 "java/lang/String" "coder" "B" (.int (0 : Int32)) := D30 (Or.inr (hw _ (List.mem_of_getElem? (i := 21) rfl))) (ty := .byte) (by decide)
      obtain ⟨_, _, ⟨T31, L31, k31, n31⟩, -, X31, sn31, gr31, ⟨Lc31, hQ31, l31, y31, z31, R31⟩, st31⟩ := X30.specialBackS hx (y := (⟨"java/lang/String", "<init>", "([C)V"⟩ : MethodName)) rfl hown (mvT hZ (hw _ (List.mem_of_getElem? (i := 8) rfl))) (mvT hZ (hw _ (List.mem_of_getElem? (i := 9) rfl))) (mvT hZ (hw _ (List.mem_of_getElem? (i := 10) rfl))) (by decide) (backOfSH (W := 1) (rm2_e l Z a0 hw [] b30 z_27 kz_27 h30 n0 O A30 F_value_b30 F_coder_b30 V_z_c27 g_b30) hZ (hw _ (List.mem_of_getElem? (i := 10) rfl)) (hw _ (List.mem_of_getElem? (i := 7) rfl)) (by decide) (by decide) hEL C.1) (g := (mkF m 147 (own_F9 i1 i2 i3 i4 i5 i6 v3 v7 (0 : Int32) (0 : Int32) v14 v18 z_23 z_27 b28) [(.ref z_27), (.ref b30), (.ref b30)])) rfl (by rw [hml]; rfl) (Steps.refl _) (a := b30) (argsL := [(.ref z_27)]) (rest := [(.ref b30)]) (lenOf pd__40_91C_41V rfl) rfl (by show 2 * 0 + _ ≤ _; exact Nat.le_of_eq rfl) (hb hby at_147) (fun _ _ => ⟨rfl, e30, (by decide : 8 + 4 ≤ _), (by decide : 16 + 8 ≤ _)⟩)
      dsimp only [Pt.U, Pt.locs, Pt.cells, Pt.slots] at X31 l31 y31 z31 st31 hQ31 sn31 gr31 R31
      subst l31 y31 z31
      obtain ⟨X31, hS, hZ, hown⟩ := rebS hS (by rw [e30]; exact hk) X31 sn31 gr31 hZ hown
      obtain ⟨t1_31, kb_31, rfl, N31q, K31, F_v_a_c31, F_c_a_c31, V_t_c31⟩ := hQ31
      have N31 := Fr.app N29 N31q
      have R := R31
      have sf_b28 := R.safe A28.lt sf_b28
      have sf_b30 := R.safe A30.lt sf_b30
      have C := C.trans R
      have hk : T31.heap.size ≤ T31.heap.size := Nat.le_refl _
      have V_z_c23 := V_z_c23.keep K31 (ninS ne_z_23_b30 nin0)
      have V_z_c27 := V_z_c27.keep K31 (ninS ne_z_27_b30 nin0)
      have A28 := A28.keep K31
      have F_v_a_c29 := F_v_a_c29.keep K31 (ninS ne_b28_b30 nin0)
      have F_c_a_c29 := F_c_a_c29.keep K31 (ninS ne_b28_b30 nin0)
      have V_t_c29 := V_t_c29.keep K31 (ninS ne_t1_29_b30 nin0)
      have A30 := A30.keep K31
      have O := O.keep K31 (allS g_b30 all0)
      have w32 : ∀ t, Steps p.tables e below (T31.setTop (mkF m 203 (own_F11 i1 i2 i3 i4 i5 i6 v3 v7 (0 : Int32) (0 : Int32) v14 v18 z_23 z_27 b28 b30 (1 : Int32)) [(.int v3), (.int i1)])) t → Steps p.tables e below (s₁.setTop (entryFrame m #[(.int i1), (.int i2), (.int i3), (.int i4), (.int i5), (.int i6)] maxLocals)) t := fun t k => by
        refine w24 t ?_
        refine XS.iload X23.here hx rfl (hb hby at_119) rfl ?_
        show Steps p.tables e below (T23.setTop (mkF m 121 (own_F7 i1 i2 i3 i4 i5 i6 v3 v7 (0 : Int32) (0 : Int32) v14 v18 z_23) [(.int (0 : Int32))])) _
        refine XS.iload X23.here hx rfl (hb hby at_121) rfl ?_
        show Steps p.tables e below (T23.setTop (mkF m 123 (own_F7 i1 i2 i3 i4 i5 i6 v3 v7 (0 : Int32) (0 : Int32) v14 v18 z_23) [(.int v14), (.int (0 : Int32))])) _
        refine XS.iload X23.here hx rfl (hb hby at_123) rfl ?_
        show Steps p.tables e below (T23.setTop (mkF m 125 (own_F7 i1 i2 i3 i4 i5 i6 v3 v7 (0 : Int32) (0 : Int32) v14 v18 z_23) [(.int v18), (.int v14), (.int (0 : Int32))])) _
        refine st27 _ ?_
        show Steps p.tables e below (T27.setTop (mkF m 128 (own_F7 i1 i2 i3 i4 i5 i6 v3 v7 (0 : Int32) (0 : Int32) v14 v18 z_23) [(.ref z_27)])) _
        refine XS.astore X27.here hx rfl (hb hby at_128) rfl rfl (l' := (own_F8 i1 i2 i3 i4 i5 i6 v3 v7 (0 : Int32) (0 : Int32) v14 v18 z_23 z_27)) rfl ?_
        show Steps p.tables e below (T27.setTop (mkF m 130 (own_F8 i1 i2 i3 i4 i5 i6 v3 v7 (0 : Int32) (0 : Int32) v14 v18 z_23 z_27) [])) _
        refine st28 _ ?_
        show Steps p.tables e below (T28.setTop (mkF m 133 (own_F8 i1 i2 i3 i4 i5 i6 v3 v7 (0 : Int32) (0 : Int32) v14 v18 z_23 z_27) [(.ref b28)])) _
        refine XS.dup X28.here hx rfl (hb hby at_133) rfl rfl ?_
        show Steps p.tables e below (T28.setTop (mkF m 134 (own_F8 i1 i2 i3 i4 i5 i6 v3 v7 (0 : Int32) (0 : Int32) v14 v18 z_23 z_27) [(.ref b28), (.ref b28)])) _
        refine XS.aload X28.here hx rfl (hb hby at_134) rfl rfl ?_
        show Steps p.tables e below (T28.setTop (mkF m 136 (own_F8 i1 i2 i3 i4 i5 i6 v3 v7 (0 : Int32) (0 : Int32) v14 v18 z_23 z_27) [(.ref z_23), (.ref b28), (.ref b28)])) _
        refine st29.trans ?_
        show Steps p.tables e below (T29.setTop (mkF m 139 (own_F8 i1 i2 i3 i4 i5 i6 v3 v7 (0 : Int32) (0 : Int32) v14 v18 z_23 z_27) [(.ref b28)])) _
        refine XS.astore X29.here hx rfl (hb hby at_139) rfl rfl (l' := (own_F9 i1 i2 i3 i4 i5 i6 v3 v7 (0 : Int32) (0 : Int32) v14 v18 z_23 z_27 b28)) rfl ?_
        show Steps p.tables e below (T29.setTop (mkF m 141 (own_F9 i1 i2 i3 i4 i5 i6 v3 v7 (0 : Int32) (0 : Int32) v14 v18 z_23 z_27 b28) [])) _
        refine st30 _ ?_
        show Steps p.tables e below (T30.setTop (mkF m 144 (own_F9 i1 i2 i3 i4 i5 i6 v3 v7 (0 : Int32) (0 : Int32) v14 v18 z_23 z_27 b28) [(.ref b30)])) _
        refine XS.dup X30.here hx rfl (hb hby at_144) rfl rfl ?_
        show Steps p.tables e below (T30.setTop (mkF m 145 (own_F9 i1 i2 i3 i4 i5 i6 v3 v7 (0 : Int32) (0 : Int32) v14 v18 z_23 z_27 b28) [(.ref b30), (.ref b30)])) _
        refine XS.aload X30.here hx rfl (hb hby at_145) rfl rfl ?_
        show Steps p.tables e below (T30.setTop (mkF m 147 (own_F9 i1 i2 i3 i4 i5 i6 v3 v7 (0 : Int32) (0 : Int32) v14 v18 z_23 z_27 b28) [(.ref z_27), (.ref b30), (.ref b30)])) _
        refine st31.trans ?_
        show Steps p.tables e below (T31.setTop (mkF m 150 (own_F9 i1 i2 i3 i4 i5 i6 v3 v7 (0 : Int32) (0 : Int32) v14 v18 z_23 z_27 b28) [(.ref b30)])) _
        refine XS.astore X31.here hx rfl (hb hby at_150) rfl rfl (l' := (own_F10 i1 i2 i3 i4 i5 i6 v3 v7 (0 : Int32) (0 : Int32) v14 v18 z_23 z_27 b28 b30)) rfl ?_
        show Steps p.tables e below (T31.setTop (mkF m 152 (own_F10 i1 i2 i3 i4 i5 i6 v3 v7 (0 : Int32) (0 : Int32) v14 v18 z_23 z_27 b28 b30) [])) _
        refine XS.iload X31.here hx rfl (hb hby at_152) rfl ?_
        show Steps p.tables e below (T31.setTop (mkF m 154 (own_F10 i1 i2 i3 i4 i5 i6 v3 v7 (0 : Int32) (0 : Int32) v14 v18 z_23 z_27 b28 b30) [(.int (0 : Int32))])) _
        refine XS.iload X31.here hx rfl (hb hby at_154) rfl ?_
        show Steps p.tables e below (T31.setTop (mkF m 156 (own_F10 i1 i2 i3 i4 i5 i6 v3 v7 (0 : Int32) (0 : Int32) v14 v18 z_23 z_27 b28 b30) [(.int (0 : Int32)), (.int (0 : Int32))])) _
        refine XS.icmpNo X31.here hx rfl (hb hby at_156) rfl (teq (rfl : (0 : Int32) = (0 : Int32))).2 ?_
        show Steps p.tables e below (T31.setTop (mkF m 159 (own_F10 i1 i2 i3 i4 i5 i6 v3 v7 (0 : Int32) (0 : Int32) v14 v18 z_23 z_27 b28 b30) [])) _
        refine XS.iload X31.here hx rfl (hb hby at_159) rfl ?_
        show Steps p.tables e below (T31.setTop (mkF m 161 (own_F10 i1 i2 i3 i4 i5 i6 v3 v7 (0 : Int32) (0 : Int32) v14 v18 z_23 z_27 b28 b30) [(.int (0 : Int32))])) _
        refine XS.iconst X31.here hx rfl (hb hby at_161) ?_
        show Steps p.tables e below (T31.setTop (mkF m 162 (own_F10 i1 i2 i3 i4 i5 i6 v3 v7 (0 : Int32) (0 : Int32) v14 v18 z_23 z_27 b28 b30) [(.int (1 : Int32)), (.int (0 : Int32))])) _
        refine XS.icmpYes X31.here hx rfl (pc0 := 162) (pc' := 176) rfl (hb hby at_162) rfl (tlt ((by decide) : (0 : Int32) < (1 : Int32))).1 (by decide) (by decide) ?_
        show Steps p.tables e below (T31.setTop (mkF m 176 (own_F10 i1 i2 i3 i4 i5 i6 v3 v7 (0 : Int32) (0 : Int32) v14 v18 z_23 z_27 b28 b30) [])) _
        refine XS.iload X31.here hx rfl (hb hby at_176) rfl ?_
        show Steps p.tables e below (T31.setTop (mkF m 178 (own_F10 i1 i2 i3 i4 i5 i6 v3 v7 (0 : Int32) (0 : Int32) v14 v18 z_23 z_27 b28 b30) [(.int (0 : Int32))])) _
        refine XS.iconst X31.here hx rfl (hb hby at_178) ?_
        show Steps p.tables e below (T31.setTop (mkF m 179 (own_F10 i1 i2 i3 i4 i5 i6 v3 v7 (0 : Int32) (0 : Int32) v14 v18 z_23 z_27 b28 b30) [(.int (2 : Int32)), (.int (0 : Int32))])) _
        refine XS.icmpYes X31.here hx rfl (pc0 := 179) (pc' := 193) rfl (hb hby at_179) rfl (tlt ((by decide) : (0 : Int32) < (2 : Int32))).1 (by decide) (by decide) ?_
        show Steps p.tables e below (T31.setTop (mkF m 193 (own_F10 i1 i2 i3 i4 i5 i6 v3 v7 (0 : Int32) (0 : Int32) v14 v18 z_23 z_27 b28 b30) [])) _
        refine XS.iconst X31.here hx rfl (hb hby at_193) ?_
        show Steps p.tables e below (T31.setTop (mkF m 194 (own_F10 i1 i2 i3 i4 i5 i6 v3 v7 (0 : Int32) (0 : Int32) v14 v18 z_23 z_27 b28 b30) [(.int (1 : Int32))])) _
        refine XS.goto X31.here hx rfl (pc0 := 194) (pc' := 198) rfl (hb hby at_194) (by decide) (by decide) ?_
        show Steps p.tables e below (T31.setTop (mkF m 198 (own_F10 i1 i2 i3 i4 i5 i6 v3 v7 (0 : Int32) (0 : Int32) v14 v18 z_23 z_27 b28 b30) [(.int (1 : Int32))])) _
        refine XS.istore X31.here hx rfl (hb hby at_198) rfl (l' := (own_F11 i1 i2 i3 i4 i5 i6 v3 v7 (0 : Int32) (0 : Int32) v14 v18 z_23 z_27 b28 b30 (1 : Int32))) rfl ?_
        show Steps p.tables e below (T31.setTop (mkF m 200 (own_F11 i1 i2 i3 i4 i5 i6 v3 v7 (0 : Int32) (0 : Int32) v14 v18 z_23 z_27 b28 b30 (1 : Int32)) [])) _
        refine XS.iloadN X31.here hx rfl (hb hby at_200) rfl ?_
        show Steps p.tables e below (T31.setTop (mkF m 201 (own_F11 i1 i2 i3 i4 i5 i6 v3 v7 (0 : Int32) (0 : Int32) v14 v18 z_23 z_27 b28 b30 (1 : Int32)) [(.int i1)])) _
        refine XS.iload X31.here hx rfl (hb hby at_201) rfl ?_
        show Steps p.tables e below (T31.setTop (mkF m 203 (own_F11 i1 i2 i3 i4 i5 i6 v3 v7 (0 : Int32) (0 : Int32) v14 v18 z_23 z_27 b28 b30 (1 : Int32)) [(.int v3), (.int i1)])) _
        exact k
      obtain ⟨ve, hve⟩ : ∃ v : Int32, v = (if i1 = v3 then (if i3 = v7 then (1 : Int32) else (0 : Int32)) else (0 : Int32)) := ⟨_, rfl⟩
      have w35 : ∀ t, Steps p.tables e below (T31.setTop (mkF m 222 (own_F11 i1 i2 i3 i4 i5 i6 v3 v7 (0 : Int32) (0 : Int32) v14 v18 z_23 z_27 b28 b30 (1 : Int32)) [(.int ve)])) t → Steps p.tables e below (s₁.setTop (entryFrame m #[(.int i1), (.int i2), (.int i3), (.int i4), (.int i5), (.int i6)] maxLocals)) t := fun t k => by
        refine w32 t ?_
        show Steps p.tables e below (T31.setTop (mkF m 203 (own_F11 i1 i2 i3 i4 i5 i6 v3 v7 (0 : Int32) (0 : Int32) v14 v18 z_23 z_27 b28 b30 (1 : Int32)) [(.int v3), (.int i1)])) _
        by_cases hm33 : i1 = v3
        · refine XS.icmpNo X31.here hx rfl (hb hby at_203) rfl (teq hm33).2 ?_
          show Steps p.tables e below (T31.setTop (mkF m 206 (own_F11 i1 i2 i3 i4 i5 i6 v3 v7 (0 : Int32) (0 : Int32) v14 v18 z_23 z_27 b28 b30 (1 : Int32)) [])) _
          refine XS.iloadN X31.here hx rfl (hb hby at_206) rfl ?_
          show Steps p.tables e below (T31.setTop (mkF m 207 (own_F11 i1 i2 i3 i4 i5 i6 v3 v7 (0 : Int32) (0 : Int32) v14 v18 z_23 z_27 b28 b30 (1 : Int32)) [(.int i3)])) _
          refine XS.iload X31.here hx rfl (hb hby at_207) rfl ?_
          show Steps p.tables e below (T31.setTop (mkF m 209 (own_F11 i1 i2 i3 i4 i5 i6 v3 v7 (0 : Int32) (0 : Int32) v14 v18 z_23 z_27 b28 b30 (1 : Int32)) [(.int v7), (.int i3)])) _
          by_cases hm34 : i3 = v7
          · refine XS.icmpNo X31.here hx rfl (hb hby at_209) rfl (teq hm34).2 ?_
            show Steps p.tables e below (T31.setTop (mkF m 212 (own_F11 i1 i2 i3 i4 i5 i6 v3 v7 (0 : Int32) (0 : Int32) v14 v18 z_23 z_27 b28 b30 (1 : Int32)) [])) _
            refine XS.iload X31.here hx rfl (hb hby at_212) rfl ?_
            show Steps p.tables e below (T31.setTop (mkF m 214 (own_F11 i1 i2 i3 i4 i5 i6 v3 v7 (0 : Int32) (0 : Int32) v14 v18 z_23 z_27 b28 b30 (1 : Int32)) [(.int (1 : Int32))])) _
            refine XS.ifNo X31.here hx rfl (hb hby at_214) rfl ((if0 _ _).trans (feq ((by decide) : ¬ ((1 : Int32) = (0 : Int32)))).1) ?_
            show Steps p.tables e below (T31.setTop (mkF m 217 (own_F11 i1 i2 i3 i4 i5 i6 v3 v7 (0 : Int32) (0 : Int32) v14 v18 z_23 z_27 b28 b30 (1 : Int32)) [])) _
            refine XS.iconst X31.here hx rfl (hb hby at_217) ?_
            show Steps p.tables e below (T31.setTop (mkF m 218 (own_F11 i1 i2 i3 i4 i5 i6 v3 v7 (0 : Int32) (0 : Int32) v14 v18 z_23 z_27 b28 b30 (1 : Int32)) [(.int (1 : Int32))])) _
            refine XS.goto X31.here hx rfl (pc0 := 218) (pc' := 222) rfl (hb hby at_218) (by decide) (by decide) ?_
            show Steps p.tables e below (T31.setTop (mkF m 222 (own_F11 i1 i2 i3 i4 i5 i6 v3 v7 (0 : Int32) (0 : Int32) v14 v18 z_23 z_27 b28 b30 (1 : Int32)) [(.int (1 : Int32))])) _
            rw [show ve = (1 : Int32) from by rw [hve]; simp only [if_pos hm33, if_pos hm34]] at k
            exact k
          · refine XS.icmpYes X31.here hx rfl (pc0 := 209) (pc' := 221) rfl (hb hby at_209) rfl (feq hm34).2 (by decide) (by decide) ?_
            show Steps p.tables e below (T31.setTop (mkF m 221 (own_F11 i1 i2 i3 i4 i5 i6 v3 v7 (0 : Int32) (0 : Int32) v14 v18 z_23 z_27 b28 b30 (1 : Int32)) [])) _
            refine XS.iconst X31.here hx rfl (hb hby at_221) ?_
            show Steps p.tables e below (T31.setTop (mkF m 222 (own_F11 i1 i2 i3 i4 i5 i6 v3 v7 (0 : Int32) (0 : Int32) v14 v18 z_23 z_27 b28 b30 (1 : Int32)) [(.int (0 : Int32))])) _
            rw [show ve = (0 : Int32) from by rw [hve]; simp only [if_pos hm33, if_neg hm34]] at k
            exact k
        · refine XS.icmpYes X31.here hx rfl (pc0 := 203) (pc' := 221) rfl (hb hby at_203) rfl (feq hm33).2 (by decide) (by decide) ?_
          show Steps p.tables e below (T31.setTop (mkF m 221 (own_F11 i1 i2 i3 i4 i5 i6 v3 v7 (0 : Int32) (0 : Int32) v14 v18 z_23 z_27 b28 b30 (1 : Int32)) [])) _
          refine XS.iconst X31.here hx rfl (hb hby at_221) ?_
          show Steps p.tables e below (T31.setTop (mkF m 222 (own_F11 i1 i2 i3 i4 i5 i6 v3 v7 (0 : Int32) (0 : Int32) v14 v18 z_23 z_27 b28 b30 (1 : Int32)) [(.int (0 : Int32))])) _
          rw [show ve = (0 : Int32) from by rw [hve]; simp only [if_neg hm33]] at k
          exact k
      obtain ⟨T36, h36, X36, e36, E36, A36, D36, -, st36⟩ := newO X31 hx hZ hown (hw _ (List.mem_of_getElem? (i := 26) rfl)) (hw _ (List.mem_of_getElem? (i := 27) rfl)) (hw _ (List.mem_of_getElem? (i := 28) rfl)) rfl (g := (mkF m 224 (own_F12 i1 i2 i3 i4 i5 i6 v3 v7 (0 : Int32) (0 : Int32) v14 v18 z_23 z_27 b28 b30 (1 : Int32) ve) [])) rfl (hb hby at_224) (by decide) (by decide)
      obtain ⟨b36, gq36⟩ : ∃ z, z = Array.size T31.heap := ⟨_, rfl⟩
      rw [← gq36] at A36 D36 st36
      have ne_z_23_b36 : z_23 ≠ b36 := Nat.ne_of_lt (Nat.lt_of_lt_of_le V_z_c23.lt (Nat.le_of_eq gq36.symm))
      have ne_z_27_b36 : z_27 ≠ b36 := Nat.ne_of_lt (Nat.lt_of_lt_of_le V_z_c27.lt (Nat.le_of_eq gq36.symm))
      have ne_b28_b36 : b28 ≠ b36 := Nat.ne_of_lt (Nat.lt_of_lt_of_le A28.lt (Nat.le_of_eq gq36.symm))
      have ne_t1_29_b36 : t1_29 ≠ b36 := Nat.ne_of_lt (Nat.lt_of_lt_of_le V_t_c29.lt (Nat.le_of_eq gq36.symm))
      have ne_b30_b36 : b30 ≠ b36 := Nat.ne_of_lt (Nat.lt_of_lt_of_le A30.lt (Nat.le_of_eq gq36.symm))
      have ne_t1_31_b36 : t1_31 ≠ b36 := Nat.ne_of_lt (Nat.lt_of_lt_of_le V_t_c31.lt (Nat.le_of_eq gq36.symm))
      have g_b36 : n0 ≤ b36 := Nat.le_trans (O.1 ▸ O.2.1) (Nat.le_of_eq gq36.symm)
      have sf_b36 := own_safeN C.1 E36 (Nat.le_of_eq gq36.symm)
      have R := CHr.ext E36 C.1
      have sf_b28 := R.safe A28.lt sf_b28
      have sf_b30 := R.safe A30.lt sf_b30
      have C := C.trans R
      have hk := Nat.le_trans hk E36.1
      have V_z_c23 := V_z_c23.ext E36
      have V_z_c27 := V_z_c27.ext E36
      have A28 := A28.ext E36
      have F_v_a_c29 := F_v_a_c29.ext E36
      have F_c_a_c29 := F_c_a_c29.ext E36
      have V_t_c29 := V_t_c29.ext E36
      have A30 := A30.ext E36
      have F_v_a_c31 := F_v_a_c31.ext E36
      have F_c_a_c31 := F_c_a_c31.ext E36
      have V_t_c31 := V_t_c31.ext E36
      have O := O.ext E36
      have F_id_b36 : Fld Z h36 b36 "com/example/whirligig/whirligig/DownloadInfoIndication$Unreadable" "id" "I" (.int (0 : Int32)) := D36 (Or.inr (hw _ (List.mem_of_getElem? (i := 39) rfl))) (ty := .int) (by decide)
      have F_version_b36 : Fld Z h36 b36 "com/example/whirligig/whirligig/DownloadInfoIndication$Unreadable" "version" "I" (.int (0 : Int32)) := D36 (Or.inr (hw _ (List.mem_of_getElem? (i := 41) rfl))) (ty := .int) (by decide)
      have F_reason_b36 : Fld Z h36 b36 "com/example/whirligig/whirligig/DownloadInfoIndication$Unreadable" "reason" "Ljava/lang/String;" .null := D36 (Or.inr (hw _ (List.mem_of_getElem? (i := 43) rfl))) (ty := (.object "java/lang/String")) (by decide)
      obtain ⟨_, _, ⟨T37, L37, k37, n37⟩, -, X37, ⟨Lc37, hQ37, l37, y37, z37⟩, st37⟩ := X36.specialBack hx (y := (⟨"com/example/whirligig/whirligig/DownloadInfoIndication$Unreadable", "<init>", "(IILjava/lang/String;)V"⟩ : MethodName)) rfl hown (mvT hZ (hw _ (List.mem_of_getElem? (i := 29) rfl))) (mvT hZ (hw _ (List.mem_of_getElem? (i := 30) rfl))) (mvT hZ (hw _ (List.mem_of_getElem? (i := 31) rfl))) (by decide) (backOf (W := 1) (rm5 l Z a0 hw [] b36 i1 i3 b28 h36 n0 O A36 F_id_b36 F_version_b36 F_reason_b36 g_b36) hZ (hw _ (List.mem_of_getElem? (i := 31) rfl)) (hw _ (List.mem_of_getElem? (i := 28) rfl)) (by decide) (by decide)) (g := (mkF m 232 (own_F12 i1 i2 i3 i4 i5 i6 v3 v7 (0 : Int32) (0 : Int32) v14 v18 z_23 z_27 b28 b30 (1 : Int32) ve) [(.ref b28), (.int i3), (.int i1), (.ref b36), (.ref b36)])) rfl (by rw [hml]; rfl) (Steps.refl _) (a := b36) (argsL := [(.int i1), (.int i3), (.ref b28)]) (rest := [(.ref b36)]) (lenOf pd__40IILjava_47lang_47String_59_41V rfl) rfl (by show 2 * 0 + _ ≤ _; exact Nat.le_of_eq rfl) (hb hby at_232) (fun _ _ => ⟨rfl, e36, (by decide : 13 + 0 ≤ _), (by decide : 27 + 0 ≤ _)⟩)
      dsimp only [Pt.U, Pt.locs, Pt.cells, Pt.slots] at X37 l37 y37 z37 st37 hQ37
      subst l37 y37 z37
      obtain ⟨rfl, N37q, K37, F_i_a_c37, F_w_a_c37, F_r_a_c37⟩ := hQ37
      have N37 := Fr.app N31 N37q
      have R := CHr.keep K37 (allS sf_b36 all0) C.1
      have sf_b28 := R.safe A28.lt sf_b28
      have sf_b30 := R.safe A30.lt sf_b30
      have sf_b36 := R.safe A36.lt sf_b36
      have C := C.trans R
      have hk := Nat.le_trans hk K37.1
      have V_z_c23 := V_z_c23.keep K37 (ninS ne_z_23_b36 nin0)
      have V_z_c27 := V_z_c27.keep K37 (ninS ne_z_27_b36 nin0)
      have A28 := A28.keep K37
      have F_v_a_c29 := F_v_a_c29.keep K37 (ninS ne_b28_b36 nin0)
      have F_c_a_c29 := F_c_a_c29.keep K37 (ninS ne_b28_b36 nin0)
      have V_t_c29 := V_t_c29.keep K37 (ninS ne_t1_29_b36 nin0)
      have A30 := A30.keep K37
      have F_v_a_c31 := F_v_a_c31.keep K37 (ninS ne_b30_b36 nin0)
      have F_c_a_c31 := F_c_a_c31.keep K37 (ninS ne_b30_b36 nin0)
      have V_t_c31 := V_t_c31.keep K37 (ninS ne_t1_31_b36 nin0)
      have A36 := A36.keep K37
      have O := O.keep K37 (allS g_b36 all0)
      obtain ⟨T38, h38, X38, e38, E38, A38, D38, -, st38⟩ := newO X37 hx hZ hown (hw _ (List.mem_of_getElem? (i := 26) rfl)) (hw _ (List.mem_of_getElem? (i := 27) rfl)) (hw _ (List.mem_of_getElem? (i := 28) rfl)) rfl (g := (mkF m 237 (own_F13 i1 i2 i3 i4 i5 i6 v3 v7 (0 : Int32) (0 : Int32) v14 v18 z_23 z_27 b28 b30 (1 : Int32) ve b36) [])) rfl (hb hby at_237) (by decide) (by decide)
      obtain ⟨b38, gq38⟩ : ∃ z, z = Array.size T37.heap := ⟨_, rfl⟩
      rw [← gq38] at A38 D38 st38
      have ne_z_23_b38 : z_23 ≠ b38 := Nat.ne_of_lt (Nat.lt_of_lt_of_le V_z_c23.lt (Nat.le_of_eq gq38.symm))
      have ne_z_27_b38 : z_27 ≠ b38 := Nat.ne_of_lt (Nat.lt_of_lt_of_le V_z_c27.lt (Nat.le_of_eq gq38.symm))
      have ne_b28_b38 : b28 ≠ b38 := Nat.ne_of_lt (Nat.lt_of_lt_of_le A28.lt (Nat.le_of_eq gq38.symm))
      have ne_t1_29_b38 : t1_29 ≠ b38 := Nat.ne_of_lt (Nat.lt_of_lt_of_le V_t_c29.lt (Nat.le_of_eq gq38.symm))
      have ne_b30_b38 : b30 ≠ b38 := Nat.ne_of_lt (Nat.lt_of_lt_of_le A30.lt (Nat.le_of_eq gq38.symm))
      have ne_t1_31_b38 : t1_31 ≠ b38 := Nat.ne_of_lt (Nat.lt_of_lt_of_le V_t_c31.lt (Nat.le_of_eq gq38.symm))
      have ne_b36_b38 : b36 ≠ b38 := Nat.ne_of_lt (Nat.lt_of_lt_of_le A36.lt (Nat.le_of_eq gq38.symm))
      have g_b38 : n0 ≤ b38 := Nat.le_trans (O.1 ▸ O.2.1) (Nat.le_of_eq gq38.symm)
      have sf_b38 := own_safeN C.1 E38 (Nat.le_of_eq gq38.symm)
      have R := CHr.ext E38 C.1
      have sf_b28 := R.safe A28.lt sf_b28
      have sf_b30 := R.safe A30.lt sf_b30
      have sf_b36 := R.safe A36.lt sf_b36
      have C := C.trans R
      have hk := Nat.le_trans hk E38.1
      have V_z_c23 := V_z_c23.ext E38
      have V_z_c27 := V_z_c27.ext E38
      have A28 := A28.ext E38
      have F_v_a_c29 := F_v_a_c29.ext E38
      have F_c_a_c29 := F_c_a_c29.ext E38
      have V_t_c29 := V_t_c29.ext E38
      have A30 := A30.ext E38
      have F_v_a_c31 := F_v_a_c31.ext E38
      have F_c_a_c31 := F_c_a_c31.ext E38
      have V_t_c31 := V_t_c31.ext E38
      have A36 := A36.ext E38
      have F_i_a_c37 := F_i_a_c37.ext E38
      have F_w_a_c37 := F_w_a_c37.ext E38
      have F_r_a_c37 := F_r_a_c37.ext E38
      have O := O.ext E38
      have F_id_b38 : Fld Z h38 b38 "com/example/whirligig/whirligig/DownloadInfoIndication$Unreadable" "id" "I" (.int (0 : Int32)) := D38 (Or.inr (hw _ (List.mem_of_getElem? (i := 39) rfl))) (ty := .int) (by decide)
      have F_version_b38 : Fld Z h38 b38 "com/example/whirligig/whirligig/DownloadInfoIndication$Unreadable" "version" "I" (.int (0 : Int32)) := D38 (Or.inr (hw _ (List.mem_of_getElem? (i := 41) rfl))) (ty := .int) (by decide)
      have F_reason_b38 : Fld Z h38 b38 "com/example/whirligig/whirligig/DownloadInfoIndication$Unreadable" "reason" "Ljava/lang/String;" .null := D38 (Or.inr (hw _ (List.mem_of_getElem? (i := 43) rfl))) (ty := (.object "java/lang/String")) (by decide)
      obtain ⟨_, _, ⟨T39, L39, k39, n39⟩, -, X39, ⟨Lc39, hQ39, l39, y39, z39⟩, st39⟩ := X38.specialBack hx (y := (⟨"com/example/whirligig/whirligig/DownloadInfoIndication$Unreadable", "<init>", "(IILjava/lang/String;)V"⟩ : MethodName)) rfl hown (mvT hZ (hw _ (List.mem_of_getElem? (i := 29) rfl))) (mvT hZ (hw _ (List.mem_of_getElem? (i := 30) rfl))) (mvT hZ (hw _ (List.mem_of_getElem? (i := 31) rfl))) (by decide) (backOf (W := 1) (rm5 l Z a0 hw [] b38 v3 v7 b30 h38 n0 O A38 F_id_b38 F_version_b38 F_reason_b38 g_b38) hZ (hw _ (List.mem_of_getElem? (i := 31) rfl)) (hw _ (List.mem_of_getElem? (i := 28) rfl)) (by decide) (by decide)) (g := (mkF m 247 (own_F13 i1 i2 i3 i4 i5 i6 v3 v7 (0 : Int32) (0 : Int32) v14 v18 z_23 z_27 b28 b30 (1 : Int32) ve b36) [(.ref b30), (.int v7), (.int v3), (.ref b38), (.ref b38)])) rfl (by rw [hml]; rfl) (Steps.refl _) (a := b38) (argsL := [(.int v3), (.int v7), (.ref b30)]) (rest := [(.ref b38)]) (lenOf pd__40IILjava_47lang_47String_59_41V rfl) rfl (by show 2 * 0 + _ ≤ _; exact Nat.le_of_eq rfl) (hb hby at_247) (fun _ _ => ⟨rfl, e38, (by decide : 14 + 0 ≤ _), (by decide : 30 + 0 ≤ _)⟩)
      dsimp only [Pt.U, Pt.locs, Pt.cells, Pt.slots] at X39 l39 y39 z39 st39 hQ39
      subst l39 y39 z39
      obtain ⟨rfl, N39q, K39, F_i_a_c39, F_w_a_c39, F_r_a_c39⟩ := hQ39
      have N39 := Fr.app N37 N39q
      have R := CHr.keep K39 (allS sf_b38 all0) C.1
      have sf_b28 := R.safe A28.lt sf_b28
      have sf_b30 := R.safe A30.lt sf_b30
      have sf_b36 := R.safe A36.lt sf_b36
      have sf_b38 := R.safe A38.lt sf_b38
      have C := C.trans R
      have hk := Nat.le_trans hk K39.1
      have V_z_c23 := V_z_c23.keep K39 (ninS ne_z_23_b38 nin0)
      have V_z_c27 := V_z_c27.keep K39 (ninS ne_z_27_b38 nin0)
      have A28 := A28.keep K39
      have F_v_a_c29 := F_v_a_c29.keep K39 (ninS ne_b28_b38 nin0)
      have F_c_a_c29 := F_c_a_c29.keep K39 (ninS ne_b28_b38 nin0)
      have V_t_c29 := V_t_c29.keep K39 (ninS ne_t1_29_b38 nin0)
      have A30 := A30.keep K39
      have F_v_a_c31 := F_v_a_c31.keep K39 (ninS ne_b30_b38 nin0)
      have F_c_a_c31 := F_c_a_c31.keep K39 (ninS ne_b30_b38 nin0)
      have V_t_c31 := V_t_c31.keep K39 (ninS ne_t1_31_b38 nin0)
      have A36 := A36.keep K39
      have F_i_a_c37 := F_i_a_c37.keep K39 (ninS ne_b36_b38 nin0)
      have F_w_a_c37 := F_w_a_c37.keep K39 (ninS ne_b36_b38 nin0)
      have F_r_a_c37 := F_r_a_c37.keep K39 (ninS ne_b36_b38 nin0)
      have A38 := A38.keep K39
      have O := O.keep K39 (allS g_b38 all0)
      obtain ⟨cq40, kq40, q40a, q40b, q40c⟩ := isOf hZ rfl A36
      obtain ⟨_, _, ⟨T40, L40, k40, n40⟩, -, X40, ⟨Lc40, hQ40, l40, y40, z40⟩, st40⟩ := X39.virtualBack hx (y := (⟨"com/example/whirligig/whirligig/DownloadInfoIndication$Unreadable", "equals", "(Ljava/lang/Object;)Z"⟩ : MethodName)) (z := (⟨"com/example/whirligig/whirligig/DownloadInfoIndication$Unreadable", "equals", "(Ljava/lang/Object;)Z"⟩ : MethodName)) hown (mvT hZ (hw _ (List.mem_of_getElem? (i := 44) rfl))) (mvT hZ (hw _ (List.mem_of_getElem? (i := 45) rfl))) (notFace_of_selects (args := #[]) (mvT hZ (hw _ (List.mem_of_getElem? (i := 47) rfl)))) (mvT hZ (hw _ (List.mem_of_getElem? (i := 47) rfl))) (mvT hZ (hw _ (List.mem_of_getElem? (i := 46) rfl))) (by decide) (backOf (W := 0) (rm7 l Z a0 hw [] b36 b38 i1 v3 i3 v7 b28 b30 t1_29 t1_31 kb_29 kb_31 ([] : List Int32) ([] : List Int32) zc T39.heap n0 O A38 F_i_a_c37 F_i_a_c39 F_w_a_c37 F_w_a_c39 F_r_a_c37 F_r_a_c39 A28 F_v_a_c29 F_c_a_c29 V_t_c29 A30 F_v_a_c31 F_c_a_c31 V_t_c31 own_hp0 (Nat.zero_le _) own_hp0 (Nat.zero_le _) SC hzc) hZ (hw _ (List.mem_of_getElem? (i := 48) rfl)) (hw _ (List.mem_of_getElem? (i := 28) rfl)) (by decide) (by decide)) q40a q40c (g := (mkF m 264 (own_F16 i1 i2 i3 i4 i5 i6 v3 v7 (0 : Int32) (0 : Int32) v14 v18 z_23 z_27 b28 b30 (1 : Int32) ve b36 b38 b38 b36) [(.ref b38), (.ref b36)])) rfl (by rw [hml]; rfl) (Steps.refl _) (argsL := [(.ref b38)]) (rest := []) (lenOf pd__40Ljava_47lang_47Object_59_41Z rfl) rfl (by show 2 * 0 + _ ≤ _; exact Nat.le_of_eq rfl) (hb hby at_264) (fun _ _ => ⟨rfl, rfl, (by decide : 14 + 0 ≤ _), (by decide : 30 + 0 ≤ _)⟩)
      dsimp only [Pt.U, Pt.locs, Pt.cells, Pt.slots] at X40 l40 y40 z40 st40 hQ40
      subst l40 y40 z40
      obtain ⟨rfl, N40q, eh40⟩ := hQ40
      have N40 := Fr.app N39 N40q
      obtain ⟨cq41, kq41, q41a, q41b, q41c⟩ := isOf hZ eh40 A38
      obtain ⟨_, _, ⟨T41, L41, k41, n41⟩, -, X41, ⟨Lc41, hQ41, l41, y41, z41⟩, st41⟩ := X40.virtualBack hx (y := (⟨"com/example/whirligig/whirligig/DownloadInfoIndication$Unreadable", "equals", "(Ljava/lang/Object;)Z"⟩ : MethodName)) (z := (⟨"com/example/whirligig/whirligig/DownloadInfoIndication$Unreadable", "equals", "(Ljava/lang/Object;)Z"⟩ : MethodName)) hown (mvT hZ (hw _ (List.mem_of_getElem? (i := 44) rfl))) (mvT hZ (hw _ (List.mem_of_getElem? (i := 45) rfl))) (notFace_of_selects (args := #[]) (mvT hZ (hw _ (List.mem_of_getElem? (i := 47) rfl)))) (mvT hZ (hw _ (List.mem_of_getElem? (i := 47) rfl))) (mvT hZ (hw _ (List.mem_of_getElem? (i := 46) rfl))) (by decide) (backOf (W := 0) (rm7 l Z a0 hw [] b38 b36 v3 i1 v7 i3 b30 b28 t1_31 t1_29 kb_31 kb_29 ([] : List Int32) ([] : List Int32) zc T39.heap n0 O A36 F_i_a_c39 F_i_a_c37 F_w_a_c39 F_w_a_c37 F_r_a_c39 F_r_a_c37 A30 F_v_a_c31 F_c_a_c31 V_t_c31 A28 F_v_a_c29 F_c_a_c29 V_t_c29 own_hp0 (Nat.zero_le _) own_hp0 (Nat.zero_le _) SC hzc) hZ (hw _ (List.mem_of_getElem? (i := 48) rfl)) (hw _ (List.mem_of_getElem? (i := 28) rfl)) (by decide) (by decide)) q41a q41c (g := (mkF m 276 (own_F16 i1 i2 i3 i4 i5 i6 v3 v7 (0 : Int32) (0 : Int32) v14 v18 z_23 z_27 b28 b30 (1 : Int32) ve b36 b38 b38 b36) [(.ref b36), (.ref b38)])) rfl (by rw [hml]; rfl) (Steps.refl _) (argsL := [(.ref b36)]) (rest := []) (lenOf pd__40Ljava_47lang_47Object_59_41Z rfl) rfl (by show 2 * 0 + _ ≤ _; exact Nat.le_of_eq rfl) (hb hby at_276) (fun _ _ => ⟨rfl, eh40, (by decide : 14 + 0 ≤ _), (by decide : 30 + 0 ≤ _)⟩)
      dsimp only [Pt.U, Pt.locs, Pt.cells, Pt.slots] at X41 l41 y41 z41 st41 hQ41
      subst l41 y41 z41
      obtain ⟨rfl, N41q, eh41⟩ := hQ41
      have N41 := Fr.app N40 N41q
      obtain ⟨cq42, kq42, q42a, q42b, q42c⟩ := isOf hZ eh41 A36
      obtain ⟨_, _, ⟨T42, L42, k42, n42⟩, -, X42, ⟨Lc42, hQ42, l42, y42, z42⟩, st42⟩ := X41.virtualBack hx (y := (⟨"com/example/whirligig/whirligig/DownloadInfoIndication$Unreadable", "equals", "(Ljava/lang/Object;)Z"⟩ : MethodName)) (z := (⟨"com/example/whirligig/whirligig/DownloadInfoIndication$Unreadable", "equals", "(Ljava/lang/Object;)Z"⟩ : MethodName)) hown (mvT hZ (hw _ (List.mem_of_getElem? (i := 44) rfl))) (mvT hZ (hw _ (List.mem_of_getElem? (i := 45) rfl))) (notFace_of_selects (args := #[]) (mvT hZ (hw _ (List.mem_of_getElem? (i := 47) rfl)))) (mvT hZ (hw _ (List.mem_of_getElem? (i := 47) rfl))) (mvT hZ (hw _ (List.mem_of_getElem? (i := 46) rfl))) (by decide) (backOf (W := 0) (rm7 l Z a0 hw [] b36 b36 i1 i1 i3 i3 b28 b28 t1_29 t1_29 kb_29 kb_29 ([] : List Int32) ([] : List Int32) zc T39.heap n0 O A36 F_i_a_c37 F_i_a_c37 F_w_a_c37 F_w_a_c37 F_r_a_c37 F_r_a_c37 A28 F_v_a_c29 F_c_a_c29 V_t_c29 A28 F_v_a_c29 F_c_a_c29 V_t_c29 own_hp0 (Nat.zero_le _) own_hp0 (Nat.zero_le _) SC hzc) hZ (hw _ (List.mem_of_getElem? (i := 48) rfl)) (hw _ (List.mem_of_getElem? (i := 28) rfl)) (by decide) (by decide)) q42a q42c (g := (mkF m 288 (own_F16 i1 i2 i3 i4 i5 i6 v3 v7 (0 : Int32) (0 : Int32) v14 v18 z_23 z_27 b28 b30 (1 : Int32) ve b36 b38 b38 b36) [(.ref b36), (.ref b36)])) rfl (by rw [hml]; rfl) (Steps.refl _) (argsL := [(.ref b36)]) (rest := []) (lenOf pd__40Ljava_47lang_47Object_59_41Z rfl) rfl (by show 2 * 0 + _ ≤ _; exact Nat.le_of_eq rfl) (hb hby at_288) (fun _ _ => ⟨rfl, eh41, (by decide : 14 + 0 ≤ _), (by decide : 30 + 0 ≤ _)⟩)
      dsimp only [Pt.U, Pt.locs, Pt.cells, Pt.slots] at X42 l42 y42 z42 st42 hQ42
      subst l42 y42 z42
      obtain ⟨rfl, N42q, eh42⟩ := hQ42
      have N42 := Fr.app N41 N42q
      obtain ⟨cq43, kq43, q43a, q43b, q43c⟩ := isOf hZ eh42 A36
      obtain ⟨_, _, ⟨T43, L43, k43, n43⟩, -, X43, ⟨Lc43, hQ43, l43, y43, z43⟩, st43⟩ := X42.virtualBack hx (y := (⟨"com/example/whirligig/whirligig/DownloadInfoIndication$Unreadable", "equals", "(Ljava/lang/Object;)Z"⟩ : MethodName)) (z := (⟨"com/example/whirligig/whirligig/DownloadInfoIndication$Unreadable", "equals", "(Ljava/lang/Object;)Z"⟩ : MethodName)) hown (mvT hZ (hw _ (List.mem_of_getElem? (i := 44) rfl))) (mvT hZ (hw _ (List.mem_of_getElem? (i := 45) rfl))) (notFace_of_selects (args := #[]) (mvT hZ (hw _ (List.mem_of_getElem? (i := 47) rfl)))) (mvT hZ (hw _ (List.mem_of_getElem? (i := 47) rfl))) (mvT hZ (hw _ (List.mem_of_getElem? (i := 46) rfl))) (by decide) (backOf (W := 0) (rm7_n l Z a0 hw [] b36 T39.heap n0 O ) hZ (hw _ (List.mem_of_getElem? (i := 48) rfl)) (hw _ (List.mem_of_getElem? (i := 28) rfl)) (by decide) (by decide)) q43a q43c (g := (mkF m 297 (own_F16 i1 i2 i3 i4 i5 i6 v3 v7 (0 : Int32) (0 : Int32) v14 v18 z_23 z_27 b28 b30 (1 : Int32) ve b36 b38 b38 b36) [.null, (.ref b36)])) rfl (by rw [hml]; rfl) (Steps.refl _) (argsL := [.null]) (rest := []) (lenOf pd__40Ljava_47lang_47Object_59_41Z rfl) rfl (by show 2 * 0 + _ ≤ _; exact Nat.le_of_eq rfl) (hb hby at_297) (fun _ _ => ⟨rfl, eh42, (by decide : 14 + 0 ≤ _), (by decide : 30 + 0 ≤ _)⟩)
      dsimp only [Pt.U, Pt.locs, Pt.cells, Pt.slots] at X43 l43 y43 z43 st43 hQ43
      subst l43 y43 z43
      obtain ⟨rfl, N43q, eh43⟩ := hQ43
      have N43 := Fr.app N42 N43q
      obtain ⟨cq44, kq44, q44a, q44b, q44c⟩ := isOf hZ eh43 A36
      obtain ⟨_, _, ⟨T44, L44, k44, n44⟩, -, X44, ⟨Lc44, hQ44, l44, y44, z44⟩, st44⟩ := X43.virtualBack hx (y := (⟨"com/example/whirligig/whirligig/DownloadInfoIndication$Unreadable", "equals", "(Ljava/lang/Object;)Z"⟩ : MethodName)) (z := (⟨"com/example/whirligig/whirligig/DownloadInfoIndication$Unreadable", "equals", "(Ljava/lang/Object;)Z"⟩ : MethodName)) hown (mvT hZ (hw _ (List.mem_of_getElem? (i := 44) rfl))) (mvT hZ (hw _ (List.mem_of_getElem? (i := 45) rfl))) (notFace_of_selects (args := #[]) (mvT hZ (hw _ (List.mem_of_getElem? (i := 47) rfl)))) (mvT hZ (hw _ (List.mem_of_getElem? (i := 47) rfl))) (mvT hZ (hw _ (List.mem_of_getElem? (i := 46) rfl))) (by decide) (backOf (W := 0) (rm7_S l Z a0 hw [] b36 b28 T39.heap n0 O A28) hZ (hw _ (List.mem_of_getElem? (i := 48) rfl)) (hw _ (List.mem_of_getElem? (i := 28) rfl)) (by decide) (by decide)) q44a q44c (g := (mkF m 307 (own_F16 i1 i2 i3 i4 i5 i6 v3 v7 (0 : Int32) (0 : Int32) v14 v18 z_23 z_27 b28 b30 (1 : Int32) ve b36 b38 b38 b36) [(.ref b28), (.ref b36)])) rfl (by rw [hml]; rfl) (Steps.refl _) (argsL := [(.ref b28)]) (rest := []) (lenOf pd__40Ljava_47lang_47Object_59_41Z rfl) rfl (by show 2 * 0 + _ ≤ _; exact Nat.le_of_eq rfl) (hb hby at_307) (fun _ _ => ⟨rfl, eh43, (by decide : 14 + 0 ≤ _), (by decide : 30 + 0 ≤ _)⟩)
      dsimp only [Pt.U, Pt.locs, Pt.cells, Pt.slots] at X44 l44 y44 z44 st44 hQ44
      subst l44 y44 z44
      obtain ⟨rfl, N44q, eh44⟩ := hQ44
      have N44 := Fr.app N43 N44q
      obtain ⟨_, _, ⟨T45, L45, k45, n45⟩, -, X45, ⟨Lc45, hQ45, l45, y45, z45⟩, st45⟩ := Jvm.LawKit.callS X44 hx (y := (⟨"java/lang/Integer", "valueOf", "(I)Ljava/lang/Integer;"⟩ : MethodName)) hown (mvT hZ (hw _ (List.mem_of_getElem? (i := 64) rfl))) (mvT hZ (hw _ (List.mem_of_getElem? (i := 65) rfl))) (mvT hZ (hw _ (List.mem_of_getElem? (i := 66) rfl))) (mvT hZ (hw _ (List.mem_of_getElem? (i := 67) rfl))) (by decide) (backOf (W := 1) (rm10 l Z a0 hw [] i1 cl_s_cacheI s_cacheI T39.heap n0 O S_s_cacheI S_high BI) hZ (hw _ (List.mem_of_getElem? (i := 67) rfl)) (hw _ (List.mem_of_getElem? (i := 66) rfl)) (by decide) (by decide)) (g := (mkF m 316 (own_F16 i1 i2 i3 i4 i5 i6 v3 v7 (0 : Int32) (0 : Int32) v14 v18 z_23 z_27 b28 b30 (1 : Int32) ve b36 b38 b38 b36) [(.int i1), (.ref b36)])) rfl (by rw [hml]; rfl) (argsL := [(.int i1)]) (rest := [(.ref b36)]) (lenOf pd__40I_41Ljava_47lang_47Integer_59 rfl) rfl (by show 2 * 0 + _ ≤ _; exact Nat.le_of_eq rfl) (hb hby at_316) (fun _ _ => ⟨rfl, eh44, (by decide : 14 + 1 ≤ _), (by decide : 30 + 1 ≤ _)⟩)
      dsimp only [Pt.U, Pt.locs, Pt.cells, Pt.slots] at X45 l45 y45 z45 st45 hQ45
      subst l45 y45 z45
      obtain ⟨z_45, rfl, N45q, K45, E_z_c45⟩ := hQ45
      have N45 := Fr.app N44 N45q
      have R := CHr.keep K45 all0 C.1
      have sf_b28 := R.safe A28.lt sf_b28
      have sf_b30 := R.safe A30.lt sf_b30
      have sf_b36 := R.safe A36.lt sf_b36
      have sf_b38 := R.safe A38.lt sf_b38
      have C := C.trans R
      have hk := Nat.le_trans hk K45.1
      have V_z_c23 := V_z_c23.keep K45 nin0
      have V_z_c27 := V_z_c27.keep K45 nin0
      have A28 := A28.keep K45
      have F_v_a_c29 := F_v_a_c29.keep K45 nin0
      have F_c_a_c29 := F_c_a_c29.keep K45 nin0
      have V_t_c29 := V_t_c29.keep K45 nin0
      have A30 := A30.keep K45
      have F_v_a_c31 := F_v_a_c31.keep K45 nin0
      have F_c_a_c31 := F_c_a_c31.keep K45 nin0
      have V_t_c31 := V_t_c31.keep K45 nin0
      have A36 := A36.keep K45
      have F_i_a_c37 := F_i_a_c37.keep K45 nin0
      have F_w_a_c37 := F_w_a_c37.keep K45 nin0
      have F_r_a_c37 := F_r_a_c37.keep K45 nin0
      have A38 := A38.keep K45
      have F_i_a_c39 := F_i_a_c39.keep K45 nin0
      have F_w_a_c39 := F_w_a_c39.keep K45 nin0
      have F_r_a_c39 := F_r_a_c39.keep K45 nin0
      have O := O.keep K45 all0
      obtain ⟨cq46, kq46, q46a, q46b, q46c⟩ := isOf hZ rfl A36
      obtain ⟨_, _, ⟨T46, L46, k46, n46⟩, -, X46, ⟨Lc46, hQ46, l46, y46, z46⟩, st46⟩ := X45.virtualBack hx (y := (⟨"com/example/whirligig/whirligig/DownloadInfoIndication$Unreadable", "equals", "(Ljava/lang/Object;)Z"⟩ : MethodName)) (z := (⟨"com/example/whirligig/whirligig/DownloadInfoIndication$Unreadable", "equals", "(Ljava/lang/Object;)Z"⟩ : MethodName)) hown (mvT hZ (hw _ (List.mem_of_getElem? (i := 44) rfl))) (mvT hZ (hw _ (List.mem_of_getElem? (i := 45) rfl))) (notFace_of_selects (args := #[]) (mvT hZ (hw _ (List.mem_of_getElem? (i := 47) rfl)))) (mvT hZ (hw _ (List.mem_of_getElem? (i := 47) rfl))) (mvT hZ (hw _ (List.mem_of_getElem? (i := 46) rfl))) (by decide) (backOf (W := 0) (rm7_I l Z a0 hw [] b36 z_45 T45.heap n0 O E_z_c45) hZ (hw _ (List.mem_of_getElem? (i := 48) rfl)) (hw _ (List.mem_of_getElem? (i := 28) rfl)) (by decide) (by decide)) q46a q46c (g := (mkF m 319 (own_F16 i1 i2 i3 i4 i5 i6 v3 v7 (0 : Int32) (0 : Int32) v14 v18 z_23 z_27 b28 b30 (1 : Int32) ve b36 b38 b38 b36) [(.ref z_45), (.ref b36)])) rfl (by rw [hml]; rfl) (Steps.refl _) (argsL := [(.ref z_45)]) (rest := []) (lenOf pd__40Ljava_47lang_47Object_59_41Z rfl) rfl (by show 2 * 0 + _ ≤ _; exact Nat.le_of_eq rfl) (hb hby at_319) (fun _ _ => ⟨rfl, rfl, (by decide : 15 + 0 ≤ _), (by decide : 31 + 0 ≤ _)⟩)
      dsimp only [Pt.U, Pt.locs, Pt.cells, Pt.slots] at X46 l46 y46 z46 st46 hQ46
      subst l46 y46 z46
      obtain ⟨rfl, N46q, eh46⟩ := hQ46
      have N46 := Fr.app N45 N46q
      have w47 : ∀ t, Steps p.tables e below (T46.setTop (mkF m 330 (own_F16 i1 i2 i3 i4 i5 i6 v3 v7 (0 : Int32) (0 : Int32) v14 v18 z_23 z_27 b28 b30 (1 : Int32) ve b36 b38 b38 b36) [(.int (1 : Int32))])) t → Steps p.tables e below (s₁.setTop (entryFrame m #[(.int i1), (.int i2), (.int i3), (.int i4), (.int i5), (.int i6)] maxLocals)) t := fun t k => by
        refine w35 t ?_
        refine XS.istore X31.here hx rfl (hb hby at_222) rfl (l' := (own_F12 i1 i2 i3 i4 i5 i6 v3 v7 (0 : Int32) (0 : Int32) v14 v18 z_23 z_27 b28 b30 (1 : Int32) ve)) rfl ?_
        show Steps p.tables e below (T31.setTop (mkF m 224 (own_F12 i1 i2 i3 i4 i5 i6 v3 v7 (0 : Int32) (0 : Int32) v14 v18 z_23 z_27 b28 b30 (1 : Int32) ve) [])) _
        refine st36 _ ?_
        show Steps p.tables e below (T36.setTop (mkF m 227 (own_F12 i1 i2 i3 i4 i5 i6 v3 v7 (0 : Int32) (0 : Int32) v14 v18 z_23 z_27 b28 b30 (1 : Int32) ve) [(.ref b36)])) _
        refine XS.dup X36.here hx rfl (hb hby at_227) rfl rfl ?_
        show Steps p.tables e below (T36.setTop (mkF m 228 (own_F12 i1 i2 i3 i4 i5 i6 v3 v7 (0 : Int32) (0 : Int32) v14 v18 z_23 z_27 b28 b30 (1 : Int32) ve) [(.ref b36), (.ref b36)])) _
        refine XS.iloadN X36.here hx rfl (hb hby at_228) rfl ?_
        show Steps p.tables e below (T36.setTop (mkF m 229 (own_F12 i1 i2 i3 i4 i5 i6 v3 v7 (0 : Int32) (0 : Int32) v14 v18 z_23 z_27 b28 b30 (1 : Int32) ve) [(.int i1), (.ref b36), (.ref b36)])) _
        refine XS.iloadN X36.here hx rfl (hb hby at_229) rfl ?_
        show Steps p.tables e below (T36.setTop (mkF m 230 (own_F12 i1 i2 i3 i4 i5 i6 v3 v7 (0 : Int32) (0 : Int32) v14 v18 z_23 z_27 b28 b30 (1 : Int32) ve) [(.int i3), (.int i1), (.ref b36), (.ref b36)])) _
        refine XS.aload X36.here hx rfl (hb hby at_230) rfl rfl ?_
        show Steps p.tables e below (T36.setTop (mkF m 232 (own_F12 i1 i2 i3 i4 i5 i6 v3 v7 (0 : Int32) (0 : Int32) v14 v18 z_23 z_27 b28 b30 (1 : Int32) ve) [(.ref b28), (.int i3), (.int i1), (.ref b36), (.ref b36)])) _
        refine st37.trans ?_
        show Steps p.tables e below (T37.setTop (mkF m 235 (own_F12 i1 i2 i3 i4 i5 i6 v3 v7 (0 : Int32) (0 : Int32) v14 v18 z_23 z_27 b28 b30 (1 : Int32) ve) [(.ref b36)])) _
        refine XS.astore X37.here hx rfl (hb hby at_235) rfl rfl (l' := (own_F13 i1 i2 i3 i4 i5 i6 v3 v7 (0 : Int32) (0 : Int32) v14 v18 z_23 z_27 b28 b30 (1 : Int32) ve b36)) rfl ?_
        show Steps p.tables e below (T37.setTop (mkF m 237 (own_F13 i1 i2 i3 i4 i5 i6 v3 v7 (0 : Int32) (0 : Int32) v14 v18 z_23 z_27 b28 b30 (1 : Int32) ve b36) [])) _
        refine st38 _ ?_
        show Steps p.tables e below (T38.setTop (mkF m 240 (own_F13 i1 i2 i3 i4 i5 i6 v3 v7 (0 : Int32) (0 : Int32) v14 v18 z_23 z_27 b28 b30 (1 : Int32) ve b36) [(.ref b38)])) _
        refine XS.dup X38.here hx rfl (hb hby at_240) rfl rfl ?_
        show Steps p.tables e below (T38.setTop (mkF m 241 (own_F13 i1 i2 i3 i4 i5 i6 v3 v7 (0 : Int32) (0 : Int32) v14 v18 z_23 z_27 b28 b30 (1 : Int32) ve b36) [(.ref b38), (.ref b38)])) _
        refine XS.iload X38.here hx rfl (hb hby at_241) rfl ?_
        show Steps p.tables e below (T38.setTop (mkF m 243 (own_F13 i1 i2 i3 i4 i5 i6 v3 v7 (0 : Int32) (0 : Int32) v14 v18 z_23 z_27 b28 b30 (1 : Int32) ve b36) [(.int v3), (.ref b38), (.ref b38)])) _
        refine XS.iload X38.here hx rfl (hb hby at_243) rfl ?_
        show Steps p.tables e below (T38.setTop (mkF m 245 (own_F13 i1 i2 i3 i4 i5 i6 v3 v7 (0 : Int32) (0 : Int32) v14 v18 z_23 z_27 b28 b30 (1 : Int32) ve b36) [(.int v7), (.int v3), (.ref b38), (.ref b38)])) _
        refine XS.aload X38.here hx rfl (hb hby at_245) rfl rfl ?_
        show Steps p.tables e below (T38.setTop (mkF m 247 (own_F13 i1 i2 i3 i4 i5 i6 v3 v7 (0 : Int32) (0 : Int32) v14 v18 z_23 z_27 b28 b30 (1 : Int32) ve b36) [(.ref b30), (.int v7), (.int v3), (.ref b38), (.ref b38)])) _
        refine st39.trans ?_
        show Steps p.tables e below (T39.setTop (mkF m 250 (own_F13 i1 i2 i3 i4 i5 i6 v3 v7 (0 : Int32) (0 : Int32) v14 v18 z_23 z_27 b28 b30 (1 : Int32) ve b36) [(.ref b38)])) _
        refine XS.astore X39.here hx rfl (hb hby at_250) rfl rfl (l' := (own_F14 i1 i2 i3 i4 i5 i6 v3 v7 (0 : Int32) (0 : Int32) v14 v18 z_23 z_27 b28 b30 (1 : Int32) ve b36 b38)) rfl ?_
        show Steps p.tables e below (T39.setTop (mkF m 252 (own_F14 i1 i2 i3 i4 i5 i6 v3 v7 (0 : Int32) (0 : Int32) v14 v18 z_23 z_27 b28 b30 (1 : Int32) ve b36 b38) [])) _
        refine XS.aload X39.here hx rfl (hb hby at_252) rfl rfl ?_
        show Steps p.tables e below (T39.setTop (mkF m 254 (own_F14 i1 i2 i3 i4 i5 i6 v3 v7 (0 : Int32) (0 : Int32) v14 v18 z_23 z_27 b28 b30 (1 : Int32) ve b36 b38) [(.ref b38)])) _
        refine XS.astore X39.here hx rfl (hb hby at_254) rfl rfl (l' := (own_F15 i1 i2 i3 i4 i5 i6 v3 v7 (0 : Int32) (0 : Int32) v14 v18 z_23 z_27 b28 b30 (1 : Int32) ve b36 b38 b38)) rfl ?_
        show Steps p.tables e below (T39.setTop (mkF m 256 (own_F15 i1 i2 i3 i4 i5 i6 v3 v7 (0 : Int32) (0 : Int32) v14 v18 z_23 z_27 b28 b30 (1 : Int32) ve b36 b38 b38) [])) _
        refine XS.aload X39.here hx rfl (hb hby at_256) rfl rfl ?_
        show Steps p.tables e below (T39.setTop (mkF m 258 (own_F15 i1 i2 i3 i4 i5 i6 v3 v7 (0 : Int32) (0 : Int32) v14 v18 z_23 z_27 b28 b30 (1 : Int32) ve b36 b38 b38) [(.ref b36)])) _
        refine XS.astore X39.here hx rfl (hb hby at_258) rfl rfl (l' := (own_F16 i1 i2 i3 i4 i5 i6 v3 v7 (0 : Int32) (0 : Int32) v14 v18 z_23 z_27 b28 b30 (1 : Int32) ve b36 b38 b38 b36)) rfl ?_
        show Steps p.tables e below (T39.setTop (mkF m 260 (own_F16 i1 i2 i3 i4 i5 i6 v3 v7 (0 : Int32) (0 : Int32) v14 v18 z_23 z_27 b28 b30 (1 : Int32) ve b36 b38 b38 b36) [])) _
        refine XS.aload X39.here hx rfl (hb hby at_260) rfl rfl ?_
        show Steps p.tables e below (T39.setTop (mkF m 262 (own_F16 i1 i2 i3 i4 i5 i6 v3 v7 (0 : Int32) (0 : Int32) v14 v18 z_23 z_27 b28 b30 (1 : Int32) ve b36 b38 b38 b36) [(.ref b36)])) _
        refine XS.aload X39.here hx rfl (hb hby at_262) rfl rfl ?_
        show Steps p.tables e below (T39.setTop (mkF m 264 (own_F16 i1 i2 i3 i4 i5 i6 v3 v7 (0 : Int32) (0 : Int32) v14 v18 z_23 z_27 b28 b30 (1 : Int32) ve b36 b38 b38 b36) [(.ref b38), (.ref b36)])) _
        refine st40.trans ?_
        show Steps p.tables e below (T40.setTop (mkF m 267 (own_F16 i1 i2 i3 i4 i5 i6 v3 v7 (0 : Int32) (0 : Int32) v14 v18 z_23 z_27 b28 b30 (1 : Int32) ve b36 b38 b38 b36) [(.int (own_e i1 v3 i3 v7 ([] : List Int32) ([] : List Int32)))])) _
        refine XS.iload X40.here hx rfl (hb hby at_267) rfl ?_
        show Steps p.tables e below (T40.setTop (mkF m 269 (own_F16 i1 i2 i3 i4 i5 i6 v3 v7 (0 : Int32) (0 : Int32) v14 v18 z_23 z_27 b28 b30 (1 : Int32) ve b36 b38 b38 b36) [(.int ve), (.int (own_e i1 v3 i3 v7 ([] : List Int32) ([] : List Int32)))])) _
        refine XS.icmpNo X40.here hx rfl (hb hby at_269) rfl (teq ((own_e1 _ _ _ _ rfl).trans hve.symm : (own_e i1 v3 i3 v7 ([] : List Int32) ([] : List Int32)) = ve)).2 ?_
        show Steps p.tables e below (T40.setTop (mkF m 272 (own_F16 i1 i2 i3 i4 i5 i6 v3 v7 (0 : Int32) (0 : Int32) v14 v18 z_23 z_27 b28 b30 (1 : Int32) ve b36 b38 b38 b36) [])) _
        refine XS.aload X40.here hx rfl (hb hby at_272) rfl rfl ?_
        show Steps p.tables e below (T40.setTop (mkF m 274 (own_F16 i1 i2 i3 i4 i5 i6 v3 v7 (0 : Int32) (0 : Int32) v14 v18 z_23 z_27 b28 b30 (1 : Int32) ve b36 b38 b38 b36) [(.ref b38)])) _
        refine XS.aload X40.here hx rfl (hb hby at_274) rfl rfl ?_
        show Steps p.tables e below (T40.setTop (mkF m 276 (own_F16 i1 i2 i3 i4 i5 i6 v3 v7 (0 : Int32) (0 : Int32) v14 v18 z_23 z_27 b28 b30 (1 : Int32) ve b36 b38 b38 b36) [(.ref b36), (.ref b38)])) _
        refine st41.trans ?_
        show Steps p.tables e below (T41.setTop (mkF m 279 (own_F16 i1 i2 i3 i4 i5 i6 v3 v7 (0 : Int32) (0 : Int32) v14 v18 z_23 z_27 b28 b30 (1 : Int32) ve b36 b38 b38 b36) [(.int (own_e v3 i1 v7 i3 ([] : List Int32) ([] : List Int32)))])) _
        refine XS.iload X41.here hx rfl (hb hby at_279) rfl ?_
        show Steps p.tables e below (T41.setTop (mkF m 281 (own_F16 i1 i2 i3 i4 i5 i6 v3 v7 (0 : Int32) (0 : Int32) v14 v18 z_23 z_27 b28 b30 (1 : Int32) ve b36 b38 b38 b36) [(.int ve), (.int (own_e v3 i1 v7 i3 ([] : List Int32) ([] : List Int32)))])) _
        refine XS.icmpNo X41.here hx rfl (hb hby at_281) rfl (teq ((own_sym _ _ _ _ _ _).trans ((own_e1 _ _ _ _ rfl).trans hve.symm) : (own_e v3 i1 v7 i3 ([] : List Int32) ([] : List Int32)) = ve)).2 ?_
        show Steps p.tables e below (T41.setTop (mkF m 284 (own_F16 i1 i2 i3 i4 i5 i6 v3 v7 (0 : Int32) (0 : Int32) v14 v18 z_23 z_27 b28 b30 (1 : Int32) ve b36 b38 b38 b36) [])) _
        refine XS.aload X41.here hx rfl (hb hby at_284) rfl rfl ?_
        show Steps p.tables e below (T41.setTop (mkF m 286 (own_F16 i1 i2 i3 i4 i5 i6 v3 v7 (0 : Int32) (0 : Int32) v14 v18 z_23 z_27 b28 b30 (1 : Int32) ve b36 b38 b38 b36) [(.ref b36)])) _
        refine XS.aload X41.here hx rfl (hb hby at_286) rfl rfl ?_
        show Steps p.tables e below (T41.setTop (mkF m 288 (own_F16 i1 i2 i3 i4 i5 i6 v3 v7 (0 : Int32) (0 : Int32) v14 v18 z_23 z_27 b28 b30 (1 : Int32) ve b36 b38 b38 b36) [(.ref b36), (.ref b36)])) _
        refine st42.trans ?_
        show Steps p.tables e below (T42.setTop (mkF m 291 (own_F16 i1 i2 i3 i4 i5 i6 v3 v7 (0 : Int32) (0 : Int32) v14 v18 z_23 z_27 b28 b30 (1 : Int32) ve b36 b38 b38 b36) [(.int (own_e i1 i1 i3 i3 ([] : List Int32) ([] : List Int32)))])) _
        refine XS.ifNo X42.here hx rfl (hb hby at_291) rfl ((if0 _ _).trans (feq (own_rfl _ _ _ : ¬ ((own_e i1 i1 i3 i3 ([] : List Int32) ([] : List Int32)) = (0 : Int32)))).1) ?_
        show Steps p.tables e below (T42.setTop (mkF m 294 (own_F16 i1 i2 i3 i4 i5 i6 v3 v7 (0 : Int32) (0 : Int32) v14 v18 z_23 z_27 b28 b30 (1 : Int32) ve b36 b38 b38 b36) [])) _
        refine XS.aload X42.here hx rfl (hb hby at_294) rfl rfl ?_
        show Steps p.tables e below (T42.setTop (mkF m 296 (own_F16 i1 i2 i3 i4 i5 i6 v3 v7 (0 : Int32) (0 : Int32) v14 v18 z_23 z_27 b28 b30 (1 : Int32) ve b36 b38 b38 b36) [(.ref b36)])) _
        refine XS.aconstNull X42.here hx rfl (hb hby at_296) ?_
        show Steps p.tables e below (T42.setTop (mkF m 297 (own_F16 i1 i2 i3 i4 i5 i6 v3 v7 (0 : Int32) (0 : Int32) v14 v18 z_23 z_27 b28 b30 (1 : Int32) ve b36 b38 b38 b36) [.null, (.ref b36)])) _
        refine st43.trans ?_
        show Steps p.tables e below (T43.setTop (mkF m 300 (own_F16 i1 i2 i3 i4 i5 i6 v3 v7 (0 : Int32) (0 : Int32) v14 v18 z_23 z_27 b28 b30 (1 : Int32) ve b36 b38 b38 b36) [(.int (0 : Int32))])) _
        refine XS.ifNo X43.here hx rfl (hb hby at_300) rfl ((if0 _ _).trans (teq (rfl : (0 : Int32) = (0 : Int32))).2) ?_
        show Steps p.tables e below (T43.setTop (mkF m 303 (own_F16 i1 i2 i3 i4 i5 i6 v3 v7 (0 : Int32) (0 : Int32) v14 v18 z_23 z_27 b28 b30 (1 : Int32) ve b36 b38 b38 b36) [])) _
        refine XS.aload X43.here hx rfl (hb hby at_303) rfl rfl ?_
        show Steps p.tables e below (T43.setTop (mkF m 305 (own_F16 i1 i2 i3 i4 i5 i6 v3 v7 (0 : Int32) (0 : Int32) v14 v18 z_23 z_27 b28 b30 (1 : Int32) ve b36 b38 b38 b36) [(.ref b36)])) _
        refine XS.aload X43.here hx rfl (hb hby at_305) rfl rfl ?_
        show Steps p.tables e below (T43.setTop (mkF m 307 (own_F16 i1 i2 i3 i4 i5 i6 v3 v7 (0 : Int32) (0 : Int32) v14 v18 z_23 z_27 b28 b30 (1 : Int32) ve b36 b38 b38 b36) [(.ref b28), (.ref b36)])) _
        refine st44.trans ?_
        show Steps p.tables e below (T44.setTop (mkF m 310 (own_F16 i1 i2 i3 i4 i5 i6 v3 v7 (0 : Int32) (0 : Int32) v14 v18 z_23 z_27 b28 b30 (1 : Int32) ve b36 b38 b38 b36) [(.int (0 : Int32))])) _
        refine XS.ifNo X44.here hx rfl (hb hby at_310) rfl ((if0 _ _).trans (teq (rfl : (0 : Int32) = (0 : Int32))).2) ?_
        show Steps p.tables e below (T44.setTop (mkF m 313 (own_F16 i1 i2 i3 i4 i5 i6 v3 v7 (0 : Int32) (0 : Int32) v14 v18 z_23 z_27 b28 b30 (1 : Int32) ve b36 b38 b38 b36) [])) _
        refine XS.aload X44.here hx rfl (hb hby at_313) rfl rfl ?_
        show Steps p.tables e below (T44.setTop (mkF m 315 (own_F16 i1 i2 i3 i4 i5 i6 v3 v7 (0 : Int32) (0 : Int32) v14 v18 z_23 z_27 b28 b30 (1 : Int32) ve b36 b38 b38 b36) [(.ref b36)])) _
        refine XS.iloadN X44.here hx rfl (hb hby at_315) rfl ?_
        show Steps p.tables e below (T44.setTop (mkF m 316 (own_F16 i1 i2 i3 i4 i5 i6 v3 v7 (0 : Int32) (0 : Int32) v14 v18 z_23 z_27 b28 b30 (1 : Int32) ve b36 b38 b38 b36) [(.int i1), (.ref b36)])) _
        refine st45 _ ?_
        show Steps p.tables e below (T45.setTop (mkF m 319 (own_F16 i1 i2 i3 i4 i5 i6 v3 v7 (0 : Int32) (0 : Int32) v14 v18 z_23 z_27 b28 b30 (1 : Int32) ve b36 b38 b38 b36) [(.ref z_45), (.ref b36)])) _
        refine st46.trans ?_
        show Steps p.tables e below (T46.setTop (mkF m 322 (own_F16 i1 i2 i3 i4 i5 i6 v3 v7 (0 : Int32) (0 : Int32) v14 v18 z_23 z_27 b28 b30 (1 : Int32) ve b36 b38 b38 b36) [(.int (0 : Int32))])) _
        refine XS.ifNo X46.here hx rfl (hb hby at_322) rfl ((if0 _ _).trans (teq (rfl : (0 : Int32) = (0 : Int32))).2) ?_
        show Steps p.tables e below (T46.setTop (mkF m 325 (own_F16 i1 i2 i3 i4 i5 i6 v3 v7 (0 : Int32) (0 : Int32) v14 v18 z_23 z_27 b28 b30 (1 : Int32) ve b36 b38 b38 b36) [])) _
        refine XS.iconst X46.here hx rfl (hb hby at_325) ?_
        show Steps p.tables e below (T46.setTop (mkF m 326 (own_F16 i1 i2 i3 i4 i5 i6 v3 v7 (0 : Int32) (0 : Int32) v14 v18 z_23 z_27 b28 b30 (1 : Int32) ve b36 b38 b38 b36) [(.int (1 : Int32))])) _
        refine XS.goto X46.here hx rfl (pc0 := 326) (pc' := 330) rfl (hb hby at_326) (by decide) (by decide) ?_
        show Steps p.tables e below (T46.setTop (mkF m 330 (own_F16 i1 i2 i3 i4 i5 i6 v3 v7 (0 : Int32) (0 : Int32) v14 v18 z_23 z_27 b28 b30 (1 : Int32) ve b36 b38 b38 b36) [(.int (1 : Int32))])) _
        exact k
      obtain ⟨fs, hr, hrun, hended, hE⟩ := Stand.leaveW (s := s) (vm₁ := T31.vm) X46 hS (by rw [eh46]; exact hk) (v := some (.int (1 : Int32))) (fun h => by rw [Bd.returns] at h; cases h)
      refine ⟨_, _, w47 _ ?_, hrun, hended, _, _, rfl, ?_, ?_, own_mono hE (by decide) (by decide)⟩
      · exact retN X46 hx (t := .boolean) Bd.returns (by simp) (hb hby at_330) hr
      · show Q0 Z i1 i2 i3 i4 i5 i6 cl_s_cacheI zc s_cacheI h0 n0 _ T46.heap _
        rw [eh46]
        exact ⟨rfl, N46⟩
      · rw [hh]; show CHr Z consts_1 s.vm h0 T46.vm T46.heap; rw [eh46]; exact C.trans (CHv.at X46 hZ hEL C.1)
    · rw [hk26] at w24
      have lt48_z_23 := V_z_c23.lt
      obtain ⟨_, _, ⟨T48, L48, k48, n48⟩, -, X48, ⟨Lc48, hQ48, l48, y48, z48⟩, st48⟩ := Jvm.LawKit.callS X23 hx (y := (⟨"com/example/whirligig/whirligig/UnreadableEqualsPinLaw", "chars", "(III)[C"⟩ : MethodName)) hown (mvT hZ (hw _ (List.mem_of_getElem? (i := 0) rfl))) (mvT hZ (hw _ (List.mem_of_getElem? (i := 1) rfl))) (mvT hZ (hw _ (List.mem_of_getElem? (i := 2) rfl))) (mvT hZ (hw _ (List.mem_of_getElem? (i := 3) rfl))) (by decide) (backOf (W := 0) (rm1_1 l Z a0 hw [] v14 v18 T23.heap n0 O ) hZ (hw _ (List.mem_of_getElem? (i := 3) rfl)) (hw _ (List.mem_of_getElem? (i := 2) rfl)) (by decide) (by decide)) (g := (mkF m 125 (own_F7 i1 i2 i3 i4 i5 i6 v3 v7 (0 : Int32) (1 : Int32) v14 v18 z_23) [(.int v18), (.int v14), (.int (1 : Int32))])) rfl (by rw [hml]; rfl) (argsL := [(.int (1 : Int32)), (.int v14), (.int v18)]) (rest := []) (lenOf pd__40III_41_91C rfl) rfl (by show 2 * 0 + _ ≤ _; exact Nat.le_of_eq rfl) (hb hby at_125) (fun _ _ => ⟨rfl, rfl, (by decide : 1 + 1 ≤ _), (by decide : 0 + 1 ≤ _)⟩)
      dsimp only [Pt.U, Pt.locs, Pt.cells, Pt.slots] at X48 l48 y48 z48 st48 hQ48
      subst l48 y48 z48
      obtain ⟨z_48, kz_48, c1_48, rfl, N48q, K48, V_z_c48, gz_48, gn_48, bc_48⟩ := hQ48
      have N48 := Fr.app N23 N48q
      have R := CHr.keep K48 all0 C.1
      have C := C.trans R
      have hk := Nat.le_trans hk K48.1
      have V_z_c23 := V_z_c23.keep K48 nin0
      have ne_z_23_z_48 : z_23 ≠ z_48 := Nat.ne_of_lt (Nat.lt_of_lt_of_le lt48_z_23 gz_48)
      have g_z_48 := gn_48
      have O := O.keep K48 all0
      obtain ⟨T49, h49, X49, e49, E49, A49, D49, -, st49⟩ := newO X48 hx hZ hown (hw _ (List.mem_of_getElem? (i := 5) rfl)) (hw _ (List.mem_of_getElem? (i := 6) rfl)) (hw _ (List.mem_of_getElem? (i := 7) rfl)) rfl (g := (mkF m 130 (own_F8 i1 i2 i3 i4 i5 i6 v3 v7 (0 : Int32) (1 : Int32) v14 v18 z_23 z_48) [])) rfl (hb hby at_130) (by decide) (by decide)
      obtain ⟨b49, gq49⟩ : ∃ z, z = Array.size T48.heap := ⟨_, rfl⟩
      rw [← gq49] at A49 D49 st49
      have ne_z_23_b49 : z_23 ≠ b49 := Nat.ne_of_lt (Nat.lt_of_lt_of_le V_z_c23.lt (Nat.le_of_eq gq49.symm))
      have ne_z_48_b49 : z_48 ≠ b49 := Nat.ne_of_lt (Nat.lt_of_lt_of_le V_z_c48.lt (Nat.le_of_eq gq49.symm))
      have g_b49 : n0 ≤ b49 := Nat.le_trans (O.1 ▸ O.2.1) (Nat.le_of_eq gq49.symm)
      have sf_b49 := own_safeN C.1 E49 (Nat.le_of_eq gq49.symm)
      have R := CHr.ext E49 C.1
      have C := C.trans R
      have hk := Nat.le_trans hk E49.1
      have V_z_c23 := V_z_c23.ext E49
      have V_z_c48 := V_z_c48.ext E49
      have O := O.ext E49
      have F_value_b49 : Fld Z h49 b49 "java/lang/String" "value" "[B" .null := D49 (Or.inr (hw _ (List.mem_of_getElem? (i := 20) rfl))) (ty := (.array .byte)) (by decide)
      have F_coder_b49 : Fld Z h49 b49 "java/lang/String" "coder" "B" (.int (0 : Int32)) := D49 (Or.inr (hw _ (List.mem_of_getElem? (i := 21) rfl))) (ty := .byte) (by decide)
      obtain ⟨_, _, ⟨T50, L50, k50, n50⟩, -, X50, sn50, gr50, ⟨Lc50, hQ50, l50, y50, z50, R50⟩, st50⟩ := X49.specialBackS hx (y := (⟨"java/lang/String", "<init>", "([C)V"⟩ : MethodName)) rfl hown (mvT hZ (hw _ (List.mem_of_getElem? (i := 8) rfl))) (mvT hZ (hw _ (List.mem_of_getElem? (i := 9) rfl))) (mvT hZ (hw _ (List.mem_of_getElem? (i := 10) rfl))) (by decide) (backOfSH (W := 1) (rm2_e l Z a0 hw [] b49 z_23 kz_23 h49 n0 O A49 F_value_b49 F_coder_b49 V_z_c23 g_b49) hZ (hw _ (List.mem_of_getElem? (i := 10) rfl)) (hw _ (List.mem_of_getElem? (i := 7) rfl)) (by decide) (by decide) hEL C.1) (g := (mkF m 136 (own_F8 i1 i2 i3 i4 i5 i6 v3 v7 (0 : Int32) (1 : Int32) v14 v18 z_23 z_48) [(.ref z_23), (.ref b49), (.ref b49)])) rfl (by rw [hml]; rfl) (Steps.refl _) (a := b49) (argsL := [(.ref z_23)]) (rest := [(.ref b49)]) (lenOf pd__40_91C_41V rfl) rfl (by show 2 * 0 + _ ≤ _; exact Nat.le_of_eq rfl) (hb hby at_136) (fun _ _ => ⟨rfl, e49, (by decide : 3 + 4 ≤ _), (by decide : 5 + 8 ≤ _)⟩)
      dsimp only [Pt.U, Pt.locs, Pt.cells, Pt.slots] at X50 l50 y50 z50 st50 hQ50 sn50 gr50 R50
      subst l50 y50 z50
      obtain ⟨X50, hS, hZ, hown⟩ := rebS hS (by rw [e49]; exact hk) X50 sn50 gr50 hZ hown
      obtain ⟨t1_50, kb_50, rfl, N50q, K50, F_v_a_c50, F_c_a_c50, V_t_c50⟩ := hQ50
      have N50 := Fr.app N48 N50q
      have R := R50
      have sf_b49 := R.safe A49.lt sf_b49
      have C := C.trans R
      have hk : T50.heap.size ≤ T50.heap.size := Nat.le_refl _
      have V_z_c23 := V_z_c23.keep K50 (ninS ne_z_23_b49 nin0)
      have V_z_c48 := V_z_c48.keep K50 (ninS ne_z_48_b49 nin0)
      have A49 := A49.keep K50
      have O := O.keep K50 (allS g_b49 all0)
      obtain ⟨T51, h51, X51, e51, E51, A51, D51, -, st51⟩ := newO X50 hx hZ hown (hw _ (List.mem_of_getElem? (i := 5) rfl)) (hw _ (List.mem_of_getElem? (i := 6) rfl)) (hw _ (List.mem_of_getElem? (i := 7) rfl)) rfl (g := (mkF m 141 (own_F9 i1 i2 i3 i4 i5 i6 v3 v7 (0 : Int32) (1 : Int32) v14 v18 z_23 z_48 b49) [])) rfl (hb hby at_141) (by decide) (by decide)
      obtain ⟨b51, gq51⟩ : ∃ z, z = Array.size T50.heap := ⟨_, rfl⟩
      rw [← gq51] at A51 D51 st51
      have ne_z_23_b51 : z_23 ≠ b51 := Nat.ne_of_lt (Nat.lt_of_lt_of_le V_z_c23.lt (Nat.le_of_eq gq51.symm))
      have ne_z_48_b51 : z_48 ≠ b51 := Nat.ne_of_lt (Nat.lt_of_lt_of_le V_z_c48.lt (Nat.le_of_eq gq51.symm))
      have ne_b49_b51 : b49 ≠ b51 := Nat.ne_of_lt (Nat.lt_of_lt_of_le A49.lt (Nat.le_of_eq gq51.symm))
      have ne_t1_50_b51 : t1_50 ≠ b51 := Nat.ne_of_lt (Nat.lt_of_lt_of_le V_t_c50.lt (Nat.le_of_eq gq51.symm))
      have g_b51 : n0 ≤ b51 := Nat.le_trans (O.1 ▸ O.2.1) (Nat.le_of_eq gq51.symm)
      have sf_b51 := own_safeN C.1 E51 (Nat.le_of_eq gq51.symm)
      have R := CHr.ext E51 C.1
      have sf_b49 := R.safe A49.lt sf_b49
      have C := C.trans R
      have hk := Nat.le_trans hk E51.1
      have V_z_c23 := V_z_c23.ext E51
      have V_z_c48 := V_z_c48.ext E51
      have A49 := A49.ext E51
      have F_v_a_c50 := F_v_a_c50.ext E51
      have F_c_a_c50 := F_c_a_c50.ext E51
      have V_t_c50 := V_t_c50.ext E51
      have O := O.ext E51
      have F_value_b51 : Fld Z h51 b51 "java/lang/String" "value" "[B" .null := D51 (Or.inr (hw _ (List.mem_of_getElem? (i := 20) rfl))) (ty := (.array .byte)) (by decide)
      have F_coder_b51 : Fld Z h51 b51 "java/lang/String" "coder" "B" (.int (0 : Int32)) := D51 (Or.inr (hw _ (List.mem_of_getElem? (i := 21) rfl))) (ty := .byte) (by decide)
      have hp_b51 := own_hp1 bc_48
      have h9_b51 : 0 < ([c1_48] : List Int32).length ∧ ([c1_48] : List Int32).length ≤ 2 := ⟨Nat.le_of_ble_eq_true rfl, Nat.le_of_ble_eq_true rfl⟩
      obtain ⟨_, _, ⟨T52, L52, k52, n52⟩, -, X52, ⟨Lc52, hQ52, l52, y52, z52⟩, st52⟩ := X51.specialBack hx (y := (⟨"java/lang/String", "<init>", "([C)V"⟩ : MethodName)) rfl hown (mvT hZ (hw _ (List.mem_of_getElem? (i := 8) rfl))) (mvT hZ (hw _ (List.mem_of_getElem? (i := 9) rfl))) (mvT hZ (hw _ (List.mem_of_getElem? (i := 10) rfl))) (by decide) (StrChars.Road.backV (W := 1) hZ (own_wNew hw) (kI := 4) (hw _ (List.mem_of_getElem? (i := 6) rfl)) (cs := ([c1_48] : List Int32)) (bs := (([c1_48] : List Int32).map (fun c => c.toInt8.toInt32))) (n := ([c1_48] : List Int32).length) g_b51 (O.1 ▸ O.2.1) A51 F_value_b51 F_coder_b51 V_z_c48 (SC.ext O.2) hzc rfl rfl h9_b51.1 (Nat.le_trans h9_b51.2 (by decide)) hp_b51 rfl (by decide) (by decide)) (g := (mkF m 147 (own_F9 i1 i2 i3 i4 i5 i6 v3 v7 (0 : Int32) (1 : Int32) v14 v18 z_23 z_48 b49) [(.ref z_48), (.ref b51), (.ref b51)])) rfl (by rw [hml]; rfl) (Steps.refl _) (a := b51) (argsL := [(.ref z_48)]) (rest := [(.ref b51)]) (lenOf pd__40_91C_41V rfl) rfl (by show 2 * 0 + _ ≤ _; exact Nat.le_of_eq rfl) (hb hby at_147) (fun _ _ => ⟨rfl, e51, (by decide : 8 + 1 ≤ _), Nat.le_trans (Nat.add_le_add_left h9_b51.2 17) (by decide)⟩)
      dsimp only [Pt.U, Pt.locs, Pt.cells, Pt.slots] at X52 l52 y52 z52 st52 hQ52
      subst l52 y52 z52
      have X52 := X52.more (Nat.le_refl _) (Nat.add_le_add_left h9_b51.2 17)
      obtain ⟨rfl, N52q, K52, Ex52, Fc52, t52, kb52, gn52, gz52, nx52, Fv52, Av52⟩ := hQ52
      have N52 := Fr.app N50 N52q
      have ne_z_23_t52 : z_23 ≠ t52 := Nat.ne_of_lt (Nat.lt_of_lt_of_le V_z_c23.lt gz52)
      have ne_z_48_t52 : z_48 ≠ t52 := Nat.ne_of_lt (Nat.lt_of_lt_of_le V_z_c48.lt gz52)
      have ne_b49_t52 : b49 ≠ t52 := Nat.ne_of_lt (Nat.lt_of_lt_of_le A49.lt gz52)
      have ne_t1_50_t52 : t1_50 ≠ t52 := Nat.ne_of_lt (Nat.lt_of_lt_of_le V_t_c50.lt gz52)
      have ne_b51_t52 : b51 ≠ t52 := Nat.ne_of_lt (Nat.lt_of_lt_of_le A51.lt gz52)
      have R := CHr.keep K52 (allS sf_b51 all0) C.1
      have sf_b49 := R.safe A49.lt sf_b49
      have sf_b51 := R.safe A51.lt sf_b51
      have C := C.trans R
      have hk := Nat.le_trans hk K52.1
      have V_z_c23 := V_z_c23.keep K52 (ninS ne_z_23_b51 nin0)
      have V_z_c48 := V_z_c48.keep K52 (ninS ne_z_48_b51 nin0)
      have A49 := A49.keep K52
      have F_v_a_c50 := F_v_a_c50.keep K52 (ninS ne_b49_b51 nin0)
      have F_c_a_c50 := F_c_a_c50.keep K52 (ninS ne_b49_b51 nin0)
      have V_t_c50 := V_t_c50.keep K52 (ninS ne_t1_50_b51 nin0)
      have A51 := A51.keep K52
      have g_t52 := gn52
      have O := O.keep K52 (allS g_b51 all0)
      have w53 : ∀ t, Steps p.tables e below (T52.setTop (mkF m 203 (own_F11 i1 i2 i3 i4 i5 i6 v3 v7 (0 : Int32) (1 : Int32) v14 v18 z_23 z_48 b49 b51 (0 : Int32)) [(.int v3), (.int i1)])) t → Steps p.tables e below (s₁.setTop (entryFrame m #[(.int i1), (.int i2), (.int i3), (.int i4), (.int i5), (.int i6)] maxLocals)) t := fun t k => by
        refine w24 t ?_
        refine XS.iload X23.here hx rfl (hb hby at_119) rfl ?_
        show Steps p.tables e below (T23.setTop (mkF m 121 (own_F7 i1 i2 i3 i4 i5 i6 v3 v7 (0 : Int32) (1 : Int32) v14 v18 z_23) [(.int (1 : Int32))])) _
        refine XS.iload X23.here hx rfl (hb hby at_121) rfl ?_
        show Steps p.tables e below (T23.setTop (mkF m 123 (own_F7 i1 i2 i3 i4 i5 i6 v3 v7 (0 : Int32) (1 : Int32) v14 v18 z_23) [(.int v14), (.int (1 : Int32))])) _
        refine XS.iload X23.here hx rfl (hb hby at_123) rfl ?_
        show Steps p.tables e below (T23.setTop (mkF m 125 (own_F7 i1 i2 i3 i4 i5 i6 v3 v7 (0 : Int32) (1 : Int32) v14 v18 z_23) [(.int v18), (.int v14), (.int (1 : Int32))])) _
        refine st48 _ ?_
        show Steps p.tables e below (T48.setTop (mkF m 128 (own_F7 i1 i2 i3 i4 i5 i6 v3 v7 (0 : Int32) (1 : Int32) v14 v18 z_23) [(.ref z_48)])) _
        refine XS.astore X48.here hx rfl (hb hby at_128) rfl rfl (l' := (own_F8 i1 i2 i3 i4 i5 i6 v3 v7 (0 : Int32) (1 : Int32) v14 v18 z_23 z_48)) rfl ?_
        show Steps p.tables e below (T48.setTop (mkF m 130 (own_F8 i1 i2 i3 i4 i5 i6 v3 v7 (0 : Int32) (1 : Int32) v14 v18 z_23 z_48) [])) _
        refine st49 _ ?_
        show Steps p.tables e below (T49.setTop (mkF m 133 (own_F8 i1 i2 i3 i4 i5 i6 v3 v7 (0 : Int32) (1 : Int32) v14 v18 z_23 z_48) [(.ref b49)])) _
        refine XS.dup X49.here hx rfl (hb hby at_133) rfl rfl ?_
        show Steps p.tables e below (T49.setTop (mkF m 134 (own_F8 i1 i2 i3 i4 i5 i6 v3 v7 (0 : Int32) (1 : Int32) v14 v18 z_23 z_48) [(.ref b49), (.ref b49)])) _
        refine XS.aload X49.here hx rfl (hb hby at_134) rfl rfl ?_
        show Steps p.tables e below (T49.setTop (mkF m 136 (own_F8 i1 i2 i3 i4 i5 i6 v3 v7 (0 : Int32) (1 : Int32) v14 v18 z_23 z_48) [(.ref z_23), (.ref b49), (.ref b49)])) _
        refine st50.trans ?_
        show Steps p.tables e below (T50.setTop (mkF m 139 (own_F8 i1 i2 i3 i4 i5 i6 v3 v7 (0 : Int32) (1 : Int32) v14 v18 z_23 z_48) [(.ref b49)])) _
        refine XS.astore X50.here hx rfl (hb hby at_139) rfl rfl (l' := (own_F9 i1 i2 i3 i4 i5 i6 v3 v7 (0 : Int32) (1 : Int32) v14 v18 z_23 z_48 b49)) rfl ?_
        show Steps p.tables e below (T50.setTop (mkF m 141 (own_F9 i1 i2 i3 i4 i5 i6 v3 v7 (0 : Int32) (1 : Int32) v14 v18 z_23 z_48 b49) [])) _
        refine st51 _ ?_
        show Steps p.tables e below (T51.setTop (mkF m 144 (own_F9 i1 i2 i3 i4 i5 i6 v3 v7 (0 : Int32) (1 : Int32) v14 v18 z_23 z_48 b49) [(.ref b51)])) _
        refine XS.dup X51.here hx rfl (hb hby at_144) rfl rfl ?_
        show Steps p.tables e below (T51.setTop (mkF m 145 (own_F9 i1 i2 i3 i4 i5 i6 v3 v7 (0 : Int32) (1 : Int32) v14 v18 z_23 z_48 b49) [(.ref b51), (.ref b51)])) _
        refine XS.aload X51.here hx rfl (hb hby at_145) rfl rfl ?_
        show Steps p.tables e below (T51.setTop (mkF m 147 (own_F9 i1 i2 i3 i4 i5 i6 v3 v7 (0 : Int32) (1 : Int32) v14 v18 z_23 z_48 b49) [(.ref z_48), (.ref b51), (.ref b51)])) _
        refine st52.trans ?_
        show Steps p.tables e below (T52.setTop (mkF m 150 (own_F9 i1 i2 i3 i4 i5 i6 v3 v7 (0 : Int32) (1 : Int32) v14 v18 z_23 z_48 b49) [(.ref b51)])) _
        refine XS.astore X52.here hx rfl (hb hby at_150) rfl rfl (l' := (own_F10 i1 i2 i3 i4 i5 i6 v3 v7 (0 : Int32) (1 : Int32) v14 v18 z_23 z_48 b49 b51)) rfl ?_
        show Steps p.tables e below (T52.setTop (mkF m 152 (own_F10 i1 i2 i3 i4 i5 i6 v3 v7 (0 : Int32) (1 : Int32) v14 v18 z_23 z_48 b49 b51) [])) _
        refine XS.iload X52.here hx rfl (hb hby at_152) rfl ?_
        show Steps p.tables e below (T52.setTop (mkF m 154 (own_F10 i1 i2 i3 i4 i5 i6 v3 v7 (0 : Int32) (1 : Int32) v14 v18 z_23 z_48 b49 b51) [(.int (0 : Int32))])) _
        refine XS.iload X52.here hx rfl (hb hby at_154) rfl ?_
        show Steps p.tables e below (T52.setTop (mkF m 156 (own_F10 i1 i2 i3 i4 i5 i6 v3 v7 (0 : Int32) (1 : Int32) v14 v18 z_23 z_48 b49 b51) [(.int (1 : Int32)), (.int (0 : Int32))])) _
        refine XS.icmpYes X52.here hx rfl (pc0 := 156) (pc' := 197) rfl (hb hby at_156) rfl (feq ((by decide) : ¬ ((0 : Int32) = (1 : Int32)))).2 (by decide) (by decide) ?_
        show Steps p.tables e below (T52.setTop (mkF m 197 (own_F10 i1 i2 i3 i4 i5 i6 v3 v7 (0 : Int32) (1 : Int32) v14 v18 z_23 z_48 b49 b51) [])) _
        refine XS.iconst X52.here hx rfl (hb hby at_197) ?_
        show Steps p.tables e below (T52.setTop (mkF m 198 (own_F10 i1 i2 i3 i4 i5 i6 v3 v7 (0 : Int32) (1 : Int32) v14 v18 z_23 z_48 b49 b51) [(.int (0 : Int32))])) _
        refine XS.istore X52.here hx rfl (hb hby at_198) rfl (l' := (own_F11 i1 i2 i3 i4 i5 i6 v3 v7 (0 : Int32) (1 : Int32) v14 v18 z_23 z_48 b49 b51 (0 : Int32))) rfl ?_
        show Steps p.tables e below (T52.setTop (mkF m 200 (own_F11 i1 i2 i3 i4 i5 i6 v3 v7 (0 : Int32) (1 : Int32) v14 v18 z_23 z_48 b49 b51 (0 : Int32)) [])) _
        refine XS.iloadN X52.here hx rfl (hb hby at_200) rfl ?_
        show Steps p.tables e below (T52.setTop (mkF m 201 (own_F11 i1 i2 i3 i4 i5 i6 v3 v7 (0 : Int32) (1 : Int32) v14 v18 z_23 z_48 b49 b51 (0 : Int32)) [(.int i1)])) _
        refine XS.iload X52.here hx rfl (hb hby at_201) rfl ?_
        show Steps p.tables e below (T52.setTop (mkF m 203 (own_F11 i1 i2 i3 i4 i5 i6 v3 v7 (0 : Int32) (1 : Int32) v14 v18 z_23 z_48 b49 b51 (0 : Int32)) [(.int v3), (.int i1)])) _
        exact k
      have w56 : ∀ t, Steps p.tables e below (T52.setTop (mkF m 222 (own_F11 i1 i2 i3 i4 i5 i6 v3 v7 (0 : Int32) (1 : Int32) v14 v18 z_23 z_48 b49 b51 (0 : Int32)) [(.int (0 : Int32))])) t → Steps p.tables e below (s₁.setTop (entryFrame m #[(.int i1), (.int i2), (.int i3), (.int i4), (.int i5), (.int i6)] maxLocals)) t := fun t k => by
        refine w53 t ?_
        show Steps p.tables e below (T52.setTop (mkF m 203 (own_F11 i1 i2 i3 i4 i5 i6 v3 v7 (0 : Int32) (1 : Int32) v14 v18 z_23 z_48 b49 b51 (0 : Int32)) [(.int v3), (.int i1)])) _
        by_cases hm54 : i1 = v3
        · refine XS.icmpNo X52.here hx rfl (hb hby at_203) rfl (teq hm54).2 ?_
          show Steps p.tables e below (T52.setTop (mkF m 206 (own_F11 i1 i2 i3 i4 i5 i6 v3 v7 (0 : Int32) (1 : Int32) v14 v18 z_23 z_48 b49 b51 (0 : Int32)) [])) _
          refine XS.iloadN X52.here hx rfl (hb hby at_206) rfl ?_
          show Steps p.tables e below (T52.setTop (mkF m 207 (own_F11 i1 i2 i3 i4 i5 i6 v3 v7 (0 : Int32) (1 : Int32) v14 v18 z_23 z_48 b49 b51 (0 : Int32)) [(.int i3)])) _
          refine XS.iload X52.here hx rfl (hb hby at_207) rfl ?_
          show Steps p.tables e below (T52.setTop (mkF m 209 (own_F11 i1 i2 i3 i4 i5 i6 v3 v7 (0 : Int32) (1 : Int32) v14 v18 z_23 z_48 b49 b51 (0 : Int32)) [(.int v7), (.int i3)])) _
          by_cases hm55 : i3 = v7
          · refine XS.icmpNo X52.here hx rfl (hb hby at_209) rfl (teq hm55).2 ?_
            show Steps p.tables e below (T52.setTop (mkF m 212 (own_F11 i1 i2 i3 i4 i5 i6 v3 v7 (0 : Int32) (1 : Int32) v14 v18 z_23 z_48 b49 b51 (0 : Int32)) [])) _
            refine XS.iload X52.here hx rfl (hb hby at_212) rfl ?_
            show Steps p.tables e below (T52.setTop (mkF m 214 (own_F11 i1 i2 i3 i4 i5 i6 v3 v7 (0 : Int32) (1 : Int32) v14 v18 z_23 z_48 b49 b51 (0 : Int32)) [(.int (0 : Int32))])) _
            refine XS.ifYes X52.here hx rfl (pc0 := 214) (pc' := 221) rfl (hb hby at_214) rfl ((if0 _ _).trans (teq ((by decide) : (0 : Int32) = (0 : Int32))).1) (by decide) (by decide) ?_
            show Steps p.tables e below (T52.setTop (mkF m 221 (own_F11 i1 i2 i3 i4 i5 i6 v3 v7 (0 : Int32) (1 : Int32) v14 v18 z_23 z_48 b49 b51 (0 : Int32)) [])) _
            refine XS.iconst X52.here hx rfl (hb hby at_221) ?_
            show Steps p.tables e below (T52.setTop (mkF m 222 (own_F11 i1 i2 i3 i4 i5 i6 v3 v7 (0 : Int32) (1 : Int32) v14 v18 z_23 z_48 b49 b51 (0 : Int32)) [(.int (0 : Int32))])) _
            exact k
          · refine XS.icmpYes X52.here hx rfl (pc0 := 209) (pc' := 221) rfl (hb hby at_209) rfl (feq hm55).2 (by decide) (by decide) ?_
            show Steps p.tables e below (T52.setTop (mkF m 221 (own_F11 i1 i2 i3 i4 i5 i6 v3 v7 (0 : Int32) (1 : Int32) v14 v18 z_23 z_48 b49 b51 (0 : Int32)) [])) _
            refine XS.iconst X52.here hx rfl (hb hby at_221) ?_
            show Steps p.tables e below (T52.setTop (mkF m 222 (own_F11 i1 i2 i3 i4 i5 i6 v3 v7 (0 : Int32) (1 : Int32) v14 v18 z_23 z_48 b49 b51 (0 : Int32)) [(.int (0 : Int32))])) _
            exact k
        · refine XS.icmpYes X52.here hx rfl (pc0 := 203) (pc' := 221) rfl (hb hby at_203) rfl (feq hm54).2 (by decide) (by decide) ?_
          show Steps p.tables e below (T52.setTop (mkF m 221 (own_F11 i1 i2 i3 i4 i5 i6 v3 v7 (0 : Int32) (1 : Int32) v14 v18 z_23 z_48 b49 b51 (0 : Int32)) [])) _
          refine XS.iconst X52.here hx rfl (hb hby at_221) ?_
          show Steps p.tables e below (T52.setTop (mkF m 222 (own_F11 i1 i2 i3 i4 i5 i6 v3 v7 (0 : Int32) (1 : Int32) v14 v18 z_23 z_48 b49 b51 (0 : Int32)) [(.int (0 : Int32))])) _
          exact k
      obtain ⟨T57, h57, X57, e57, E57, A57, D57, -, st57⟩ := newO X52 hx hZ hown (hw _ (List.mem_of_getElem? (i := 26) rfl)) (hw _ (List.mem_of_getElem? (i := 27) rfl)) (hw _ (List.mem_of_getElem? (i := 28) rfl)) rfl (g := (mkF m 224 (own_F12 i1 i2 i3 i4 i5 i6 v3 v7 (0 : Int32) (1 : Int32) v14 v18 z_23 z_48 b49 b51 (0 : Int32) (0 : Int32)) [])) rfl (hb hby at_224) (by decide) (by decide)
      obtain ⟨b57, gq57⟩ : ∃ z, z = Array.size T52.heap := ⟨_, rfl⟩
      rw [← gq57] at A57 D57 st57
      have ne_z_23_b57 : z_23 ≠ b57 := Nat.ne_of_lt (Nat.lt_of_lt_of_le V_z_c23.lt (Nat.le_of_eq gq57.symm))
      have ne_z_48_b57 : z_48 ≠ b57 := Nat.ne_of_lt (Nat.lt_of_lt_of_le V_z_c48.lt (Nat.le_of_eq gq57.symm))
      have ne_b49_b57 : b49 ≠ b57 := Nat.ne_of_lt (Nat.lt_of_lt_of_le A49.lt (Nat.le_of_eq gq57.symm))
      have ne_t1_50_b57 : t1_50 ≠ b57 := Nat.ne_of_lt (Nat.lt_of_lt_of_le V_t_c50.lt (Nat.le_of_eq gq57.symm))
      have ne_b51_b57 : b51 ≠ b57 := Nat.ne_of_lt (Nat.lt_of_lt_of_le Ex52.lt (Nat.le_of_eq gq57.symm))
      have ne_t52_b57 : t52 ≠ b57 := Nat.ne_of_lt (Nat.lt_of_lt_of_le Av52.lt (Nat.le_of_eq gq57.symm))
      have g_b57 : n0 ≤ b57 := Nat.le_trans (O.1 ▸ O.2.1) (Nat.le_of_eq gq57.symm)
      have sf_b57 := own_safeN C.1 E57 (Nat.le_of_eq gq57.symm)
      have R := CHr.ext E57 C.1
      have sf_b49 := R.safe A49.lt sf_b49
      have sf_b51 := R.safe Ex52.lt sf_b51
      have C := C.trans R
      have hk := Nat.le_trans hk E57.1
      have V_z_c23 := V_z_c23.ext E57
      have V_z_c48 := V_z_c48.ext E57
      have A49 := A49.ext E57
      have F_v_a_c50 := F_v_a_c50.ext E57
      have F_c_a_c50 := F_c_a_c50.ext E57
      have V_t_c50 := V_t_c50.ext E57
      have Ex52 := Ex52.ext E57
      have Fc52 := Fc52.ext E57
      have Fv52 := Fv52.ext E57
      have Av52 := Av52.ext E57
      have O := O.ext E57
      have F_id_b57 : Fld Z h57 b57 "com/example/whirligig/whirligig/DownloadInfoIndication$Unreadable" "id" "I" (.int (0 : Int32)) := D57 (Or.inr (hw _ (List.mem_of_getElem? (i := 39) rfl))) (ty := .int) (by decide)
      have F_version_b57 : Fld Z h57 b57 "com/example/whirligig/whirligig/DownloadInfoIndication$Unreadable" "version" "I" (.int (0 : Int32)) := D57 (Or.inr (hw _ (List.mem_of_getElem? (i := 41) rfl))) (ty := .int) (by decide)
      have F_reason_b57 : Fld Z h57 b57 "com/example/whirligig/whirligig/DownloadInfoIndication$Unreadable" "reason" "Ljava/lang/String;" .null := D57 (Or.inr (hw _ (List.mem_of_getElem? (i := 43) rfl))) (ty := (.object "java/lang/String")) (by decide)
      obtain ⟨_, _, ⟨T58, L58, k58, n58⟩, -, X58, ⟨Lc58, hQ58, l58, y58, z58⟩, st58⟩ := X57.specialBack hx (y := (⟨"com/example/whirligig/whirligig/DownloadInfoIndication$Unreadable", "<init>", "(IILjava/lang/String;)V"⟩ : MethodName)) rfl hown (mvT hZ (hw _ (List.mem_of_getElem? (i := 29) rfl))) (mvT hZ (hw _ (List.mem_of_getElem? (i := 30) rfl))) (mvT hZ (hw _ (List.mem_of_getElem? (i := 31) rfl))) (by decide) (backOf (W := 1) (rm5 l Z a0 hw [] b57 i1 i3 b49 h57 n0 O A57 F_id_b57 F_version_b57 F_reason_b57 g_b57) hZ (hw _ (List.mem_of_getElem? (i := 31) rfl)) (hw _ (List.mem_of_getElem? (i := 28) rfl)) (by decide) (by decide)) (g := (mkF m 232 (own_F12 i1 i2 i3 i4 i5 i6 v3 v7 (0 : Int32) (1 : Int32) v14 v18 z_23 z_48 b49 b51 (0 : Int32) (0 : Int32)) [(.ref b49), (.int i3), (.int i1), (.ref b57), (.ref b57)])) rfl (by rw [hml]; rfl) (Steps.refl _) (a := b57) (argsL := [(.int i1), (.int i3), (.ref b49)]) (rest := [(.ref b57)]) (lenOf pd__40IILjava_47lang_47String_59_41V rfl) rfl (by show 2 * 0 + _ ≤ _; exact Nat.le_of_eq rfl) (hb hby at_232) (fun _ _ => ⟨rfl, e57, (by decide : 10 + 0 ≤ _), (by decide : 22 + 0 ≤ _)⟩)
      dsimp only [Pt.U, Pt.locs, Pt.cells, Pt.slots] at X58 l58 y58 z58 st58 hQ58
      subst l58 y58 z58
      obtain ⟨rfl, N58q, K58, F_i_a_c58, F_w_a_c58, F_r_a_c58⟩ := hQ58
      have N58 := Fr.app N52 N58q
      have R := CHr.keep K58 (allS sf_b57 all0) C.1
      have sf_b49 := R.safe A49.lt sf_b49
      have sf_b51 := R.safe Ex52.lt sf_b51
      have sf_b57 := R.safe A57.lt sf_b57
      have C := C.trans R
      have hk := Nat.le_trans hk K58.1
      have V_z_c23 := V_z_c23.keep K58 (ninS ne_z_23_b57 nin0)
      have V_z_c48 := V_z_c48.keep K58 (ninS ne_z_48_b57 nin0)
      have A49 := A49.keep K58
      have F_v_a_c50 := F_v_a_c50.keep K58 (ninS ne_b49_b57 nin0)
      have F_c_a_c50 := F_c_a_c50.keep K58 (ninS ne_b49_b57 nin0)
      have V_t_c50 := V_t_c50.keep K58 (ninS ne_t1_50_b57 nin0)
      have Ex52 := Ex52.keep K58
      have Fc52 := Fc52.keep K58 (ninS ne_b51_b57 nin0)
      have Fv52 := Fv52.keep K58 (ninS ne_b51_b57 nin0)
      have Av52 := Av52.keep K58 (ninS ne_t52_b57 nin0)
      have A57 := A57.keep K58
      have O := O.keep K58 (allS g_b57 all0)
      obtain ⟨T59, h59, X59, e59, E59, A59, D59, -, st59⟩ := newO X58 hx hZ hown (hw _ (List.mem_of_getElem? (i := 26) rfl)) (hw _ (List.mem_of_getElem? (i := 27) rfl)) (hw _ (List.mem_of_getElem? (i := 28) rfl)) rfl (g := (mkF m 237 (own_F13 i1 i2 i3 i4 i5 i6 v3 v7 (0 : Int32) (1 : Int32) v14 v18 z_23 z_48 b49 b51 (0 : Int32) (0 : Int32) b57) [])) rfl (hb hby at_237) (by decide) (by decide)
      obtain ⟨b59, gq59⟩ : ∃ z, z = Array.size T58.heap := ⟨_, rfl⟩
      rw [← gq59] at A59 D59 st59
      have ne_z_23_b59 : z_23 ≠ b59 := Nat.ne_of_lt (Nat.lt_of_lt_of_le V_z_c23.lt (Nat.le_of_eq gq59.symm))
      have ne_z_48_b59 : z_48 ≠ b59 := Nat.ne_of_lt (Nat.lt_of_lt_of_le V_z_c48.lt (Nat.le_of_eq gq59.symm))
      have ne_b49_b59 : b49 ≠ b59 := Nat.ne_of_lt (Nat.lt_of_lt_of_le A49.lt (Nat.le_of_eq gq59.symm))
      have ne_t1_50_b59 : t1_50 ≠ b59 := Nat.ne_of_lt (Nat.lt_of_lt_of_le V_t_c50.lt (Nat.le_of_eq gq59.symm))
      have ne_b51_b59 : b51 ≠ b59 := Nat.ne_of_lt (Nat.lt_of_lt_of_le Ex52.lt (Nat.le_of_eq gq59.symm))
      have ne_t52_b59 : t52 ≠ b59 := Nat.ne_of_lt (Nat.lt_of_lt_of_le Av52.lt (Nat.le_of_eq gq59.symm))
      have ne_b57_b59 : b57 ≠ b59 := Nat.ne_of_lt (Nat.lt_of_lt_of_le A57.lt (Nat.le_of_eq gq59.symm))
      have g_b59 : n0 ≤ b59 := Nat.le_trans (O.1 ▸ O.2.1) (Nat.le_of_eq gq59.symm)
      have sf_b59 := own_safeN C.1 E59 (Nat.le_of_eq gq59.symm)
      have R := CHr.ext E59 C.1
      have sf_b49 := R.safe A49.lt sf_b49
      have sf_b51 := R.safe Ex52.lt sf_b51
      have sf_b57 := R.safe A57.lt sf_b57
      have C := C.trans R
      have hk := Nat.le_trans hk E59.1
      have V_z_c23 := V_z_c23.ext E59
      have V_z_c48 := V_z_c48.ext E59
      have A49 := A49.ext E59
      have F_v_a_c50 := F_v_a_c50.ext E59
      have F_c_a_c50 := F_c_a_c50.ext E59
      have V_t_c50 := V_t_c50.ext E59
      have Ex52 := Ex52.ext E59
      have Fc52 := Fc52.ext E59
      have Fv52 := Fv52.ext E59
      have Av52 := Av52.ext E59
      have A57 := A57.ext E59
      have F_i_a_c58 := F_i_a_c58.ext E59
      have F_w_a_c58 := F_w_a_c58.ext E59
      have F_r_a_c58 := F_r_a_c58.ext E59
      have O := O.ext E59
      have F_id_b59 : Fld Z h59 b59 "com/example/whirligig/whirligig/DownloadInfoIndication$Unreadable" "id" "I" (.int (0 : Int32)) := D59 (Or.inr (hw _ (List.mem_of_getElem? (i := 39) rfl))) (ty := .int) (by decide)
      have F_version_b59 : Fld Z h59 b59 "com/example/whirligig/whirligig/DownloadInfoIndication$Unreadable" "version" "I" (.int (0 : Int32)) := D59 (Or.inr (hw _ (List.mem_of_getElem? (i := 41) rfl))) (ty := .int) (by decide)
      have F_reason_b59 : Fld Z h59 b59 "com/example/whirligig/whirligig/DownloadInfoIndication$Unreadable" "reason" "Ljava/lang/String;" .null := D59 (Or.inr (hw _ (List.mem_of_getElem? (i := 43) rfl))) (ty := (.object "java/lang/String")) (by decide)
      obtain ⟨_, _, ⟨T60, L60, k60, n60⟩, -, X60, ⟨Lc60, hQ60, l60, y60, z60⟩, st60⟩ := X59.specialBack hx (y := (⟨"com/example/whirligig/whirligig/DownloadInfoIndication$Unreadable", "<init>", "(IILjava/lang/String;)V"⟩ : MethodName)) rfl hown (mvT hZ (hw _ (List.mem_of_getElem? (i := 29) rfl))) (mvT hZ (hw _ (List.mem_of_getElem? (i := 30) rfl))) (mvT hZ (hw _ (List.mem_of_getElem? (i := 31) rfl))) (by decide) (backOf (W := 1) (rm5 l Z a0 hw [] b59 v3 v7 b51 h59 n0 O A59 F_id_b59 F_version_b59 F_reason_b59 g_b59) hZ (hw _ (List.mem_of_getElem? (i := 31) rfl)) (hw _ (List.mem_of_getElem? (i := 28) rfl)) (by decide) (by decide)) (g := (mkF m 247 (own_F13 i1 i2 i3 i4 i5 i6 v3 v7 (0 : Int32) (1 : Int32) v14 v18 z_23 z_48 b49 b51 (0 : Int32) (0 : Int32) b57) [(.ref b51), (.int v7), (.int v3), (.ref b59), (.ref b59)])) rfl (by rw [hml]; rfl) (Steps.refl _) (a := b59) (argsL := [(.int v3), (.int v7), (.ref b51)]) (rest := [(.ref b59)]) (lenOf pd__40IILjava_47lang_47String_59_41V rfl) rfl (by show 2 * 0 + _ ≤ _; exact Nat.le_of_eq rfl) (hb hby at_247) (fun _ _ => ⟨rfl, e59, (by decide : 11 + 0 ≤ _), (by decide : 25 + 0 ≤ _)⟩)
      dsimp only [Pt.U, Pt.locs, Pt.cells, Pt.slots] at X60 l60 y60 z60 st60 hQ60
      subst l60 y60 z60
      obtain ⟨rfl, N60q, K60, F_i_a_c60, F_w_a_c60, F_r_a_c60⟩ := hQ60
      have N60 := Fr.app N58 N60q
      have R := CHr.keep K60 (allS sf_b59 all0) C.1
      have sf_b49 := R.safe A49.lt sf_b49
      have sf_b51 := R.safe Ex52.lt sf_b51
      have sf_b57 := R.safe A57.lt sf_b57
      have sf_b59 := R.safe A59.lt sf_b59
      have C := C.trans R
      have hk := Nat.le_trans hk K60.1
      have V_z_c23 := V_z_c23.keep K60 (ninS ne_z_23_b59 nin0)
      have V_z_c48 := V_z_c48.keep K60 (ninS ne_z_48_b59 nin0)
      have A49 := A49.keep K60
      have F_v_a_c50 := F_v_a_c50.keep K60 (ninS ne_b49_b59 nin0)
      have F_c_a_c50 := F_c_a_c50.keep K60 (ninS ne_b49_b59 nin0)
      have V_t_c50 := V_t_c50.keep K60 (ninS ne_t1_50_b59 nin0)
      have Ex52 := Ex52.keep K60
      have Fc52 := Fc52.keep K60 (ninS ne_b51_b59 nin0)
      have Fv52 := Fv52.keep K60 (ninS ne_b51_b59 nin0)
      have Av52 := Av52.keep K60 (ninS ne_t52_b59 nin0)
      have A57 := A57.keep K60
      have F_i_a_c58 := F_i_a_c58.keep K60 (ninS ne_b57_b59 nin0)
      have F_w_a_c58 := F_w_a_c58.keep K60 (ninS ne_b57_b59 nin0)
      have F_r_a_c58 := F_r_a_c58.keep K60 (ninS ne_b57_b59 nin0)
      have A59 := A59.keep K60
      have O := O.keep K60 (allS g_b59 all0)
      obtain ⟨cq61, kq61, q61a, q61b, q61c⟩ := isOf hZ rfl A57
      obtain ⟨_, _, ⟨T61, L61, k61, n61⟩, -, X61, ⟨Lc61, hQ61, l61, y61, z61⟩, st61⟩ := X60.virtualBack hx (y := (⟨"com/example/whirligig/whirligig/DownloadInfoIndication$Unreadable", "equals", "(Ljava/lang/Object;)Z"⟩ : MethodName)) (z := (⟨"com/example/whirligig/whirligig/DownloadInfoIndication$Unreadable", "equals", "(Ljava/lang/Object;)Z"⟩ : MethodName)) hown (mvT hZ (hw _ (List.mem_of_getElem? (i := 44) rfl))) (mvT hZ (hw _ (List.mem_of_getElem? (i := 45) rfl))) (notFace_of_selects (args := #[]) (mvT hZ (hw _ (List.mem_of_getElem? (i := 47) rfl)))) (mvT hZ (hw _ (List.mem_of_getElem? (i := 47) rfl))) (mvT hZ (hw _ (List.mem_of_getElem? (i := 46) rfl))) (by decide) (backOf (W := 0) (rm7 l Z a0 hw [] b57 b59 i1 v3 i3 v7 b49 b51 t1_50 t52 kb_50 kb52 ([] : List Int32) ([c1_48] : List Int32) zc T60.heap n0 O A59 F_i_a_c58 F_i_a_c60 F_w_a_c58 F_w_a_c60 F_r_a_c58 F_r_a_c60 A49 F_v_a_c50 F_c_a_c50 V_t_c50 Ex52 Fv52 Fc52 Av52 own_hp0 (Nat.zero_le _) hp_b51 (Nat.le_trans h9_b51.2 (by decide)) SC hzc) hZ (hw _ (List.mem_of_getElem? (i := 48) rfl)) (hw _ (List.mem_of_getElem? (i := 28) rfl)) (by decide) (by decide)) q61a q61c (g := (mkF m 264 (own_F16 i1 i2 i3 i4 i5 i6 v3 v7 (0 : Int32) (1 : Int32) v14 v18 z_23 z_48 b49 b51 (0 : Int32) (0 : Int32) b57 b59 b59 b57) [(.ref b59), (.ref b57)])) rfl (by rw [hml]; rfl) (Steps.refl _) (argsL := [(.ref b59)]) (rest := []) (lenOf pd__40Ljava_47lang_47Object_59_41Z rfl) rfl (by show 2 * 0 + _ ≤ _; exact Nat.le_of_eq rfl) (hb hby at_264) (fun _ _ => ⟨rfl, rfl, (by decide : 11 + 0 ≤ _), (by decide : 25 + 0 ≤ _)⟩)
      dsimp only [Pt.U, Pt.locs, Pt.cells, Pt.slots] at X61 l61 y61 z61 st61 hQ61
      subst l61 y61 z61
      obtain ⟨rfl, N61q, eh61⟩ := hQ61
      have N61 := Fr.app N60 N61q
      obtain ⟨cq62, kq62, q62a, q62b, q62c⟩ := isOf hZ eh61 A59
      obtain ⟨_, _, ⟨T62, L62, k62, n62⟩, -, X62, ⟨Lc62, hQ62, l62, y62, z62⟩, st62⟩ := X61.virtualBack hx (y := (⟨"com/example/whirligig/whirligig/DownloadInfoIndication$Unreadable", "equals", "(Ljava/lang/Object;)Z"⟩ : MethodName)) (z := (⟨"com/example/whirligig/whirligig/DownloadInfoIndication$Unreadable", "equals", "(Ljava/lang/Object;)Z"⟩ : MethodName)) hown (mvT hZ (hw _ (List.mem_of_getElem? (i := 44) rfl))) (mvT hZ (hw _ (List.mem_of_getElem? (i := 45) rfl))) (notFace_of_selects (args := #[]) (mvT hZ (hw _ (List.mem_of_getElem? (i := 47) rfl)))) (mvT hZ (hw _ (List.mem_of_getElem? (i := 47) rfl))) (mvT hZ (hw _ (List.mem_of_getElem? (i := 46) rfl))) (by decide) (backOf (W := 0) (rm7 l Z a0 hw [] b59 b57 v3 i1 v7 i3 b51 b49 t52 t1_50 kb52 kb_50 ([c1_48] : List Int32) ([] : List Int32) zc T60.heap n0 O A57 F_i_a_c60 F_i_a_c58 F_w_a_c60 F_w_a_c58 F_r_a_c60 F_r_a_c58 Ex52 Fv52 Fc52 Av52 A49 F_v_a_c50 F_c_a_c50 V_t_c50 hp_b51 (Nat.le_trans h9_b51.2 (by decide)) own_hp0 (Nat.zero_le _) SC hzc) hZ (hw _ (List.mem_of_getElem? (i := 48) rfl)) (hw _ (List.mem_of_getElem? (i := 28) rfl)) (by decide) (by decide)) q62a q62c (g := (mkF m 276 (own_F16 i1 i2 i3 i4 i5 i6 v3 v7 (0 : Int32) (1 : Int32) v14 v18 z_23 z_48 b49 b51 (0 : Int32) (0 : Int32) b57 b59 b59 b57) [(.ref b57), (.ref b59)])) rfl (by rw [hml]; rfl) (Steps.refl _) (argsL := [(.ref b57)]) (rest := []) (lenOf pd__40Ljava_47lang_47Object_59_41Z rfl) rfl (by show 2 * 0 + _ ≤ _; exact Nat.le_of_eq rfl) (hb hby at_276) (fun _ _ => ⟨rfl, eh61, (by decide : 11 + 0 ≤ _), (by decide : 25 + 0 ≤ _)⟩)
      dsimp only [Pt.U, Pt.locs, Pt.cells, Pt.slots] at X62 l62 y62 z62 st62 hQ62
      subst l62 y62 z62
      obtain ⟨rfl, N62q, eh62⟩ := hQ62
      have N62 := Fr.app N61 N62q
      obtain ⟨cq63, kq63, q63a, q63b, q63c⟩ := isOf hZ eh62 A57
      obtain ⟨_, _, ⟨T63, L63, k63, n63⟩, -, X63, ⟨Lc63, hQ63, l63, y63, z63⟩, st63⟩ := X62.virtualBack hx (y := (⟨"com/example/whirligig/whirligig/DownloadInfoIndication$Unreadable", "equals", "(Ljava/lang/Object;)Z"⟩ : MethodName)) (z := (⟨"com/example/whirligig/whirligig/DownloadInfoIndication$Unreadable", "equals", "(Ljava/lang/Object;)Z"⟩ : MethodName)) hown (mvT hZ (hw _ (List.mem_of_getElem? (i := 44) rfl))) (mvT hZ (hw _ (List.mem_of_getElem? (i := 45) rfl))) (notFace_of_selects (args := #[]) (mvT hZ (hw _ (List.mem_of_getElem? (i := 47) rfl)))) (mvT hZ (hw _ (List.mem_of_getElem? (i := 47) rfl))) (mvT hZ (hw _ (List.mem_of_getElem? (i := 46) rfl))) (by decide) (backOf (W := 0) (rm7 l Z a0 hw [] b57 b57 i1 i1 i3 i3 b49 b49 t1_50 t1_50 kb_50 kb_50 ([] : List Int32) ([] : List Int32) zc T60.heap n0 O A57 F_i_a_c58 F_i_a_c58 F_w_a_c58 F_w_a_c58 F_r_a_c58 F_r_a_c58 A49 F_v_a_c50 F_c_a_c50 V_t_c50 A49 F_v_a_c50 F_c_a_c50 V_t_c50 own_hp0 (Nat.zero_le _) own_hp0 (Nat.zero_le _) SC hzc) hZ (hw _ (List.mem_of_getElem? (i := 48) rfl)) (hw _ (List.mem_of_getElem? (i := 28) rfl)) (by decide) (by decide)) q63a q63c (g := (mkF m 288 (own_F16 i1 i2 i3 i4 i5 i6 v3 v7 (0 : Int32) (1 : Int32) v14 v18 z_23 z_48 b49 b51 (0 : Int32) (0 : Int32) b57 b59 b59 b57) [(.ref b57), (.ref b57)])) rfl (by rw [hml]; rfl) (Steps.refl _) (argsL := [(.ref b57)]) (rest := []) (lenOf pd__40Ljava_47lang_47Object_59_41Z rfl) rfl (by show 2 * 0 + _ ≤ _; exact Nat.le_of_eq rfl) (hb hby at_288) (fun _ _ => ⟨rfl, eh62, (by decide : 11 + 0 ≤ _), (by decide : 25 + 0 ≤ _)⟩)
      dsimp only [Pt.U, Pt.locs, Pt.cells, Pt.slots] at X63 l63 y63 z63 st63 hQ63
      subst l63 y63 z63
      obtain ⟨rfl, N63q, eh63⟩ := hQ63
      have N63 := Fr.app N62 N63q
      obtain ⟨cq64, kq64, q64a, q64b, q64c⟩ := isOf hZ eh63 A57
      obtain ⟨_, _, ⟨T64, L64, k64, n64⟩, -, X64, ⟨Lc64, hQ64, l64, y64, z64⟩, st64⟩ := X63.virtualBack hx (y := (⟨"com/example/whirligig/whirligig/DownloadInfoIndication$Unreadable", "equals", "(Ljava/lang/Object;)Z"⟩ : MethodName)) (z := (⟨"com/example/whirligig/whirligig/DownloadInfoIndication$Unreadable", "equals", "(Ljava/lang/Object;)Z"⟩ : MethodName)) hown (mvT hZ (hw _ (List.mem_of_getElem? (i := 44) rfl))) (mvT hZ (hw _ (List.mem_of_getElem? (i := 45) rfl))) (notFace_of_selects (args := #[]) (mvT hZ (hw _ (List.mem_of_getElem? (i := 47) rfl)))) (mvT hZ (hw _ (List.mem_of_getElem? (i := 47) rfl))) (mvT hZ (hw _ (List.mem_of_getElem? (i := 46) rfl))) (by decide) (backOf (W := 0) (rm7_n l Z a0 hw [] b57 T60.heap n0 O ) hZ (hw _ (List.mem_of_getElem? (i := 48) rfl)) (hw _ (List.mem_of_getElem? (i := 28) rfl)) (by decide) (by decide)) q64a q64c (g := (mkF m 297 (own_F16 i1 i2 i3 i4 i5 i6 v3 v7 (0 : Int32) (1 : Int32) v14 v18 z_23 z_48 b49 b51 (0 : Int32) (0 : Int32) b57 b59 b59 b57) [.null, (.ref b57)])) rfl (by rw [hml]; rfl) (Steps.refl _) (argsL := [.null]) (rest := []) (lenOf pd__40Ljava_47lang_47Object_59_41Z rfl) rfl (by show 2 * 0 + _ ≤ _; exact Nat.le_of_eq rfl) (hb hby at_297) (fun _ _ => ⟨rfl, eh63, (by decide : 11 + 0 ≤ _), (by decide : 25 + 0 ≤ _)⟩)
      dsimp only [Pt.U, Pt.locs, Pt.cells, Pt.slots] at X64 l64 y64 z64 st64 hQ64
      subst l64 y64 z64
      obtain ⟨rfl, N64q, eh64⟩ := hQ64
      have N64 := Fr.app N63 N64q
      obtain ⟨cq65, kq65, q65a, q65b, q65c⟩ := isOf hZ eh64 A57
      obtain ⟨_, _, ⟨T65, L65, k65, n65⟩, -, X65, ⟨Lc65, hQ65, l65, y65, z65⟩, st65⟩ := X64.virtualBack hx (y := (⟨"com/example/whirligig/whirligig/DownloadInfoIndication$Unreadable", "equals", "(Ljava/lang/Object;)Z"⟩ : MethodName)) (z := (⟨"com/example/whirligig/whirligig/DownloadInfoIndication$Unreadable", "equals", "(Ljava/lang/Object;)Z"⟩ : MethodName)) hown (mvT hZ (hw _ (List.mem_of_getElem? (i := 44) rfl))) (mvT hZ (hw _ (List.mem_of_getElem? (i := 45) rfl))) (notFace_of_selects (args := #[]) (mvT hZ (hw _ (List.mem_of_getElem? (i := 47) rfl)))) (mvT hZ (hw _ (List.mem_of_getElem? (i := 47) rfl))) (mvT hZ (hw _ (List.mem_of_getElem? (i := 46) rfl))) (by decide) (backOf (W := 0) (rm7_S l Z a0 hw [] b57 b49 T60.heap n0 O A49) hZ (hw _ (List.mem_of_getElem? (i := 48) rfl)) (hw _ (List.mem_of_getElem? (i := 28) rfl)) (by decide) (by decide)) q65a q65c (g := (mkF m 307 (own_F16 i1 i2 i3 i4 i5 i6 v3 v7 (0 : Int32) (1 : Int32) v14 v18 z_23 z_48 b49 b51 (0 : Int32) (0 : Int32) b57 b59 b59 b57) [(.ref b49), (.ref b57)])) rfl (by rw [hml]; rfl) (Steps.refl _) (argsL := [(.ref b49)]) (rest := []) (lenOf pd__40Ljava_47lang_47Object_59_41Z rfl) rfl (by show 2 * 0 + _ ≤ _; exact Nat.le_of_eq rfl) (hb hby at_307) (fun _ _ => ⟨rfl, eh64, (by decide : 11 + 0 ≤ _), (by decide : 25 + 0 ≤ _)⟩)
      dsimp only [Pt.U, Pt.locs, Pt.cells, Pt.slots] at X65 l65 y65 z65 st65 hQ65
      subst l65 y65 z65
      obtain ⟨rfl, N65q, eh65⟩ := hQ65
      have N65 := Fr.app N64 N65q
      obtain ⟨_, _, ⟨T66, L66, k66, n66⟩, -, X66, ⟨Lc66, hQ66, l66, y66, z66⟩, st66⟩ := Jvm.LawKit.callS X65 hx (y := (⟨"java/lang/Integer", "valueOf", "(I)Ljava/lang/Integer;"⟩ : MethodName)) hown (mvT hZ (hw _ (List.mem_of_getElem? (i := 64) rfl))) (mvT hZ (hw _ (List.mem_of_getElem? (i := 65) rfl))) (mvT hZ (hw _ (List.mem_of_getElem? (i := 66) rfl))) (mvT hZ (hw _ (List.mem_of_getElem? (i := 67) rfl))) (by decide) (backOf (W := 1) (rm10 l Z a0 hw [] i1 cl_s_cacheI s_cacheI T60.heap n0 O S_s_cacheI S_high BI) hZ (hw _ (List.mem_of_getElem? (i := 67) rfl)) (hw _ (List.mem_of_getElem? (i := 66) rfl)) (by decide) (by decide)) (g := (mkF m 316 (own_F16 i1 i2 i3 i4 i5 i6 v3 v7 (0 : Int32) (1 : Int32) v14 v18 z_23 z_48 b49 b51 (0 : Int32) (0 : Int32) b57 b59 b59 b57) [(.int i1), (.ref b57)])) rfl (by rw [hml]; rfl) (argsL := [(.int i1)]) (rest := [(.ref b57)]) (lenOf pd__40I_41Ljava_47lang_47Integer_59 rfl) rfl (by show 2 * 0 + _ ≤ _; exact Nat.le_of_eq rfl) (hb hby at_316) (fun _ _ => ⟨rfl, eh65, (by decide : 11 + 1 ≤ _), (by decide : 25 + 1 ≤ _)⟩)
      dsimp only [Pt.U, Pt.locs, Pt.cells, Pt.slots] at X66 l66 y66 z66 st66 hQ66
      subst l66 y66 z66
      obtain ⟨z_66, rfl, N66q, K66, E_z_c66⟩ := hQ66
      have N66 := Fr.app N65 N66q
      have R := CHr.keep K66 all0 C.1
      have sf_b49 := R.safe A49.lt sf_b49
      have sf_b51 := R.safe Ex52.lt sf_b51
      have sf_b57 := R.safe A57.lt sf_b57
      have sf_b59 := R.safe A59.lt sf_b59
      have C := C.trans R
      have hk := Nat.le_trans hk K66.1
      have V_z_c23 := V_z_c23.keep K66 nin0
      have V_z_c48 := V_z_c48.keep K66 nin0
      have A49 := A49.keep K66
      have F_v_a_c50 := F_v_a_c50.keep K66 nin0
      have F_c_a_c50 := F_c_a_c50.keep K66 nin0
      have V_t_c50 := V_t_c50.keep K66 nin0
      have Ex52 := Ex52.keep K66
      have Fc52 := Fc52.keep K66 nin0
      have Fv52 := Fv52.keep K66 nin0
      have Av52 := Av52.keep K66 nin0
      have A57 := A57.keep K66
      have F_i_a_c58 := F_i_a_c58.keep K66 nin0
      have F_w_a_c58 := F_w_a_c58.keep K66 nin0
      have F_r_a_c58 := F_r_a_c58.keep K66 nin0
      have A59 := A59.keep K66
      have F_i_a_c60 := F_i_a_c60.keep K66 nin0
      have F_w_a_c60 := F_w_a_c60.keep K66 nin0
      have F_r_a_c60 := F_r_a_c60.keep K66 nin0
      have O := O.keep K66 all0
      obtain ⟨cq67, kq67, q67a, q67b, q67c⟩ := isOf hZ rfl A57
      obtain ⟨_, _, ⟨T67, L67, k67, n67⟩, -, X67, ⟨Lc67, hQ67, l67, y67, z67⟩, st67⟩ := X66.virtualBack hx (y := (⟨"com/example/whirligig/whirligig/DownloadInfoIndication$Unreadable", "equals", "(Ljava/lang/Object;)Z"⟩ : MethodName)) (z := (⟨"com/example/whirligig/whirligig/DownloadInfoIndication$Unreadable", "equals", "(Ljava/lang/Object;)Z"⟩ : MethodName)) hown (mvT hZ (hw _ (List.mem_of_getElem? (i := 44) rfl))) (mvT hZ (hw _ (List.mem_of_getElem? (i := 45) rfl))) (notFace_of_selects (args := #[]) (mvT hZ (hw _ (List.mem_of_getElem? (i := 47) rfl)))) (mvT hZ (hw _ (List.mem_of_getElem? (i := 47) rfl))) (mvT hZ (hw _ (List.mem_of_getElem? (i := 46) rfl))) (by decide) (backOf (W := 0) (rm7_I l Z a0 hw [] b57 z_66 T66.heap n0 O E_z_c66) hZ (hw _ (List.mem_of_getElem? (i := 48) rfl)) (hw _ (List.mem_of_getElem? (i := 28) rfl)) (by decide) (by decide)) q67a q67c (g := (mkF m 319 (own_F16 i1 i2 i3 i4 i5 i6 v3 v7 (0 : Int32) (1 : Int32) v14 v18 z_23 z_48 b49 b51 (0 : Int32) (0 : Int32) b57 b59 b59 b57) [(.ref z_66), (.ref b57)])) rfl (by rw [hml]; rfl) (Steps.refl _) (argsL := [(.ref z_66)]) (rest := []) (lenOf pd__40Ljava_47lang_47Object_59_41Z rfl) rfl (by show 2 * 0 + _ ≤ _; exact Nat.le_of_eq rfl) (hb hby at_319) (fun _ _ => ⟨rfl, rfl, (by decide : 12 + 0 ≤ _), (by decide : 26 + 0 ≤ _)⟩)
      dsimp only [Pt.U, Pt.locs, Pt.cells, Pt.slots] at X67 l67 y67 z67 st67 hQ67
      subst l67 y67 z67
      obtain ⟨rfl, N67q, eh67⟩ := hQ67
      have N67 := Fr.app N66 N67q
      have w68 : ∀ t, Steps p.tables e below (T67.setTop (mkF m 330 (own_F16 i1 i2 i3 i4 i5 i6 v3 v7 (0 : Int32) (1 : Int32) v14 v18 z_23 z_48 b49 b51 (0 : Int32) (0 : Int32) b57 b59 b59 b57) [(.int (1 : Int32))])) t → Steps p.tables e below (s₁.setTop (entryFrame m #[(.int i1), (.int i2), (.int i3), (.int i4), (.int i5), (.int i6)] maxLocals)) t := fun t k => by
        refine w56 t ?_
        refine XS.istore X52.here hx rfl (hb hby at_222) rfl (l' := (own_F12 i1 i2 i3 i4 i5 i6 v3 v7 (0 : Int32) (1 : Int32) v14 v18 z_23 z_48 b49 b51 (0 : Int32) (0 : Int32))) rfl ?_
        show Steps p.tables e below (T52.setTop (mkF m 224 (own_F12 i1 i2 i3 i4 i5 i6 v3 v7 (0 : Int32) (1 : Int32) v14 v18 z_23 z_48 b49 b51 (0 : Int32) (0 : Int32)) [])) _
        refine st57 _ ?_
        show Steps p.tables e below (T57.setTop (mkF m 227 (own_F12 i1 i2 i3 i4 i5 i6 v3 v7 (0 : Int32) (1 : Int32) v14 v18 z_23 z_48 b49 b51 (0 : Int32) (0 : Int32)) [(.ref b57)])) _
        refine XS.dup X57.here hx rfl (hb hby at_227) rfl rfl ?_
        show Steps p.tables e below (T57.setTop (mkF m 228 (own_F12 i1 i2 i3 i4 i5 i6 v3 v7 (0 : Int32) (1 : Int32) v14 v18 z_23 z_48 b49 b51 (0 : Int32) (0 : Int32)) [(.ref b57), (.ref b57)])) _
        refine XS.iloadN X57.here hx rfl (hb hby at_228) rfl ?_
        show Steps p.tables e below (T57.setTop (mkF m 229 (own_F12 i1 i2 i3 i4 i5 i6 v3 v7 (0 : Int32) (1 : Int32) v14 v18 z_23 z_48 b49 b51 (0 : Int32) (0 : Int32)) [(.int i1), (.ref b57), (.ref b57)])) _
        refine XS.iloadN X57.here hx rfl (hb hby at_229) rfl ?_
        show Steps p.tables e below (T57.setTop (mkF m 230 (own_F12 i1 i2 i3 i4 i5 i6 v3 v7 (0 : Int32) (1 : Int32) v14 v18 z_23 z_48 b49 b51 (0 : Int32) (0 : Int32)) [(.int i3), (.int i1), (.ref b57), (.ref b57)])) _
        refine XS.aload X57.here hx rfl (hb hby at_230) rfl rfl ?_
        show Steps p.tables e below (T57.setTop (mkF m 232 (own_F12 i1 i2 i3 i4 i5 i6 v3 v7 (0 : Int32) (1 : Int32) v14 v18 z_23 z_48 b49 b51 (0 : Int32) (0 : Int32)) [(.ref b49), (.int i3), (.int i1), (.ref b57), (.ref b57)])) _
        refine st58.trans ?_
        show Steps p.tables e below (T58.setTop (mkF m 235 (own_F12 i1 i2 i3 i4 i5 i6 v3 v7 (0 : Int32) (1 : Int32) v14 v18 z_23 z_48 b49 b51 (0 : Int32) (0 : Int32)) [(.ref b57)])) _
        refine XS.astore X58.here hx rfl (hb hby at_235) rfl rfl (l' := (own_F13 i1 i2 i3 i4 i5 i6 v3 v7 (0 : Int32) (1 : Int32) v14 v18 z_23 z_48 b49 b51 (0 : Int32) (0 : Int32) b57)) rfl ?_
        show Steps p.tables e below (T58.setTop (mkF m 237 (own_F13 i1 i2 i3 i4 i5 i6 v3 v7 (0 : Int32) (1 : Int32) v14 v18 z_23 z_48 b49 b51 (0 : Int32) (0 : Int32) b57) [])) _
        refine st59 _ ?_
        show Steps p.tables e below (T59.setTop (mkF m 240 (own_F13 i1 i2 i3 i4 i5 i6 v3 v7 (0 : Int32) (1 : Int32) v14 v18 z_23 z_48 b49 b51 (0 : Int32) (0 : Int32) b57) [(.ref b59)])) _
        refine XS.dup X59.here hx rfl (hb hby at_240) rfl rfl ?_
        show Steps p.tables e below (T59.setTop (mkF m 241 (own_F13 i1 i2 i3 i4 i5 i6 v3 v7 (0 : Int32) (1 : Int32) v14 v18 z_23 z_48 b49 b51 (0 : Int32) (0 : Int32) b57) [(.ref b59), (.ref b59)])) _
        refine XS.iload X59.here hx rfl (hb hby at_241) rfl ?_
        show Steps p.tables e below (T59.setTop (mkF m 243 (own_F13 i1 i2 i3 i4 i5 i6 v3 v7 (0 : Int32) (1 : Int32) v14 v18 z_23 z_48 b49 b51 (0 : Int32) (0 : Int32) b57) [(.int v3), (.ref b59), (.ref b59)])) _
        refine XS.iload X59.here hx rfl (hb hby at_243) rfl ?_
        show Steps p.tables e below (T59.setTop (mkF m 245 (own_F13 i1 i2 i3 i4 i5 i6 v3 v7 (0 : Int32) (1 : Int32) v14 v18 z_23 z_48 b49 b51 (0 : Int32) (0 : Int32) b57) [(.int v7), (.int v3), (.ref b59), (.ref b59)])) _
        refine XS.aload X59.here hx rfl (hb hby at_245) rfl rfl ?_
        show Steps p.tables e below (T59.setTop (mkF m 247 (own_F13 i1 i2 i3 i4 i5 i6 v3 v7 (0 : Int32) (1 : Int32) v14 v18 z_23 z_48 b49 b51 (0 : Int32) (0 : Int32) b57) [(.ref b51), (.int v7), (.int v3), (.ref b59), (.ref b59)])) _
        refine st60.trans ?_
        show Steps p.tables e below (T60.setTop (mkF m 250 (own_F13 i1 i2 i3 i4 i5 i6 v3 v7 (0 : Int32) (1 : Int32) v14 v18 z_23 z_48 b49 b51 (0 : Int32) (0 : Int32) b57) [(.ref b59)])) _
        refine XS.astore X60.here hx rfl (hb hby at_250) rfl rfl (l' := (own_F14 i1 i2 i3 i4 i5 i6 v3 v7 (0 : Int32) (1 : Int32) v14 v18 z_23 z_48 b49 b51 (0 : Int32) (0 : Int32) b57 b59)) rfl ?_
        show Steps p.tables e below (T60.setTop (mkF m 252 (own_F14 i1 i2 i3 i4 i5 i6 v3 v7 (0 : Int32) (1 : Int32) v14 v18 z_23 z_48 b49 b51 (0 : Int32) (0 : Int32) b57 b59) [])) _
        refine XS.aload X60.here hx rfl (hb hby at_252) rfl rfl ?_
        show Steps p.tables e below (T60.setTop (mkF m 254 (own_F14 i1 i2 i3 i4 i5 i6 v3 v7 (0 : Int32) (1 : Int32) v14 v18 z_23 z_48 b49 b51 (0 : Int32) (0 : Int32) b57 b59) [(.ref b59)])) _
        refine XS.astore X60.here hx rfl (hb hby at_254) rfl rfl (l' := (own_F15 i1 i2 i3 i4 i5 i6 v3 v7 (0 : Int32) (1 : Int32) v14 v18 z_23 z_48 b49 b51 (0 : Int32) (0 : Int32) b57 b59 b59)) rfl ?_
        show Steps p.tables e below (T60.setTop (mkF m 256 (own_F15 i1 i2 i3 i4 i5 i6 v3 v7 (0 : Int32) (1 : Int32) v14 v18 z_23 z_48 b49 b51 (0 : Int32) (0 : Int32) b57 b59 b59) [])) _
        refine XS.aload X60.here hx rfl (hb hby at_256) rfl rfl ?_
        show Steps p.tables e below (T60.setTop (mkF m 258 (own_F15 i1 i2 i3 i4 i5 i6 v3 v7 (0 : Int32) (1 : Int32) v14 v18 z_23 z_48 b49 b51 (0 : Int32) (0 : Int32) b57 b59 b59) [(.ref b57)])) _
        refine XS.astore X60.here hx rfl (hb hby at_258) rfl rfl (l' := (own_F16 i1 i2 i3 i4 i5 i6 v3 v7 (0 : Int32) (1 : Int32) v14 v18 z_23 z_48 b49 b51 (0 : Int32) (0 : Int32) b57 b59 b59 b57)) rfl ?_
        show Steps p.tables e below (T60.setTop (mkF m 260 (own_F16 i1 i2 i3 i4 i5 i6 v3 v7 (0 : Int32) (1 : Int32) v14 v18 z_23 z_48 b49 b51 (0 : Int32) (0 : Int32) b57 b59 b59 b57) [])) _
        refine XS.aload X60.here hx rfl (hb hby at_260) rfl rfl ?_
        show Steps p.tables e below (T60.setTop (mkF m 262 (own_F16 i1 i2 i3 i4 i5 i6 v3 v7 (0 : Int32) (1 : Int32) v14 v18 z_23 z_48 b49 b51 (0 : Int32) (0 : Int32) b57 b59 b59 b57) [(.ref b57)])) _
        refine XS.aload X60.here hx rfl (hb hby at_262) rfl rfl ?_
        show Steps p.tables e below (T60.setTop (mkF m 264 (own_F16 i1 i2 i3 i4 i5 i6 v3 v7 (0 : Int32) (1 : Int32) v14 v18 z_23 z_48 b49 b51 (0 : Int32) (0 : Int32) b57 b59 b59 b57) [(.ref b59), (.ref b57)])) _
        refine st61.trans ?_
        show Steps p.tables e below (T61.setTop (mkF m 267 (own_F16 i1 i2 i3 i4 i5 i6 v3 v7 (0 : Int32) (1 : Int32) v14 v18 z_23 z_48 b49 b51 (0 : Int32) (0 : Int32) b57 b59 b59 b57) [(.int (own_e i1 v3 i3 v7 ([] : List Int32) ([c1_48] : List Int32)))])) _
        refine XS.iload X61.here hx rfl (hb hby at_267) rfl ?_
        show Steps p.tables e below (T61.setTop (mkF m 269 (own_F16 i1 i2 i3 i4 i5 i6 v3 v7 (0 : Int32) (1 : Int32) v14 v18 z_23 z_48 b49 b51 (0 : Int32) (0 : Int32) b57 b59 b59 b57) [(.int (0 : Int32)), (.int (own_e i1 v3 i3 v7 ([] : List Int32) ([c1_48] : List Int32)))])) _
        refine XS.icmpNo X61.here hx rfl (hb hby at_269) rfl (teq (own_e0 _ _ _ _ (fun e => nomatch e) : (own_e i1 v3 i3 v7 ([] : List Int32) ([c1_48] : List Int32)) = (0 : Int32))).2 ?_
        show Steps p.tables e below (T61.setTop (mkF m 272 (own_F16 i1 i2 i3 i4 i5 i6 v3 v7 (0 : Int32) (1 : Int32) v14 v18 z_23 z_48 b49 b51 (0 : Int32) (0 : Int32) b57 b59 b59 b57) [])) _
        refine XS.aload X61.here hx rfl (hb hby at_272) rfl rfl ?_
        show Steps p.tables e below (T61.setTop (mkF m 274 (own_F16 i1 i2 i3 i4 i5 i6 v3 v7 (0 : Int32) (1 : Int32) v14 v18 z_23 z_48 b49 b51 (0 : Int32) (0 : Int32) b57 b59 b59 b57) [(.ref b59)])) _
        refine XS.aload X61.here hx rfl (hb hby at_274) rfl rfl ?_
        show Steps p.tables e below (T61.setTop (mkF m 276 (own_F16 i1 i2 i3 i4 i5 i6 v3 v7 (0 : Int32) (1 : Int32) v14 v18 z_23 z_48 b49 b51 (0 : Int32) (0 : Int32) b57 b59 b59 b57) [(.ref b57), (.ref b59)])) _
        refine st62.trans ?_
        show Steps p.tables e below (T62.setTop (mkF m 279 (own_F16 i1 i2 i3 i4 i5 i6 v3 v7 (0 : Int32) (1 : Int32) v14 v18 z_23 z_48 b49 b51 (0 : Int32) (0 : Int32) b57 b59 b59 b57) [(.int (own_e v3 i1 v7 i3 ([c1_48] : List Int32) ([] : List Int32)))])) _
        refine XS.iload X62.here hx rfl (hb hby at_279) rfl ?_
        show Steps p.tables e below (T62.setTop (mkF m 281 (own_F16 i1 i2 i3 i4 i5 i6 v3 v7 (0 : Int32) (1 : Int32) v14 v18 z_23 z_48 b49 b51 (0 : Int32) (0 : Int32) b57 b59 b59 b57) [(.int (0 : Int32)), (.int (own_e v3 i1 v7 i3 ([c1_48] : List Int32) ([] : List Int32)))])) _
        refine XS.icmpNo X62.here hx rfl (hb hby at_281) rfl (teq ((own_sym _ _ _ _ _ _).trans (own_e0 _ _ _ _ (fun e => nomatch e)) : (own_e v3 i1 v7 i3 ([c1_48] : List Int32) ([] : List Int32)) = (0 : Int32))).2 ?_
        show Steps p.tables e below (T62.setTop (mkF m 284 (own_F16 i1 i2 i3 i4 i5 i6 v3 v7 (0 : Int32) (1 : Int32) v14 v18 z_23 z_48 b49 b51 (0 : Int32) (0 : Int32) b57 b59 b59 b57) [])) _
        refine XS.aload X62.here hx rfl (hb hby at_284) rfl rfl ?_
        show Steps p.tables e below (T62.setTop (mkF m 286 (own_F16 i1 i2 i3 i4 i5 i6 v3 v7 (0 : Int32) (1 : Int32) v14 v18 z_23 z_48 b49 b51 (0 : Int32) (0 : Int32) b57 b59 b59 b57) [(.ref b57)])) _
        refine XS.aload X62.here hx rfl (hb hby at_286) rfl rfl ?_
        show Steps p.tables e below (T62.setTop (mkF m 288 (own_F16 i1 i2 i3 i4 i5 i6 v3 v7 (0 : Int32) (1 : Int32) v14 v18 z_23 z_48 b49 b51 (0 : Int32) (0 : Int32) b57 b59 b59 b57) [(.ref b57), (.ref b57)])) _
        refine st63.trans ?_
        show Steps p.tables e below (T63.setTop (mkF m 291 (own_F16 i1 i2 i3 i4 i5 i6 v3 v7 (0 : Int32) (1 : Int32) v14 v18 z_23 z_48 b49 b51 (0 : Int32) (0 : Int32) b57 b59 b59 b57) [(.int (own_e i1 i1 i3 i3 ([] : List Int32) ([] : List Int32)))])) _
        refine XS.ifNo X63.here hx rfl (hb hby at_291) rfl ((if0 _ _).trans (feq (own_rfl _ _ _ : ¬ ((own_e i1 i1 i3 i3 ([] : List Int32) ([] : List Int32)) = (0 : Int32)))).1) ?_
        show Steps p.tables e below (T63.setTop (mkF m 294 (own_F16 i1 i2 i3 i4 i5 i6 v3 v7 (0 : Int32) (1 : Int32) v14 v18 z_23 z_48 b49 b51 (0 : Int32) (0 : Int32) b57 b59 b59 b57) [])) _
        refine XS.aload X63.here hx rfl (hb hby at_294) rfl rfl ?_
        show Steps p.tables e below (T63.setTop (mkF m 296 (own_F16 i1 i2 i3 i4 i5 i6 v3 v7 (0 : Int32) (1 : Int32) v14 v18 z_23 z_48 b49 b51 (0 : Int32) (0 : Int32) b57 b59 b59 b57) [(.ref b57)])) _
        refine XS.aconstNull X63.here hx rfl (hb hby at_296) ?_
        show Steps p.tables e below (T63.setTop (mkF m 297 (own_F16 i1 i2 i3 i4 i5 i6 v3 v7 (0 : Int32) (1 : Int32) v14 v18 z_23 z_48 b49 b51 (0 : Int32) (0 : Int32) b57 b59 b59 b57) [.null, (.ref b57)])) _
        refine st64.trans ?_
        show Steps p.tables e below (T64.setTop (mkF m 300 (own_F16 i1 i2 i3 i4 i5 i6 v3 v7 (0 : Int32) (1 : Int32) v14 v18 z_23 z_48 b49 b51 (0 : Int32) (0 : Int32) b57 b59 b59 b57) [(.int (0 : Int32))])) _
        refine XS.ifNo X64.here hx rfl (hb hby at_300) rfl ((if0 _ _).trans (teq (rfl : (0 : Int32) = (0 : Int32))).2) ?_
        show Steps p.tables e below (T64.setTop (mkF m 303 (own_F16 i1 i2 i3 i4 i5 i6 v3 v7 (0 : Int32) (1 : Int32) v14 v18 z_23 z_48 b49 b51 (0 : Int32) (0 : Int32) b57 b59 b59 b57) [])) _
        refine XS.aload X64.here hx rfl (hb hby at_303) rfl rfl ?_
        show Steps p.tables e below (T64.setTop (mkF m 305 (own_F16 i1 i2 i3 i4 i5 i6 v3 v7 (0 : Int32) (1 : Int32) v14 v18 z_23 z_48 b49 b51 (0 : Int32) (0 : Int32) b57 b59 b59 b57) [(.ref b57)])) _
        refine XS.aload X64.here hx rfl (hb hby at_305) rfl rfl ?_
        show Steps p.tables e below (T64.setTop (mkF m 307 (own_F16 i1 i2 i3 i4 i5 i6 v3 v7 (0 : Int32) (1 : Int32) v14 v18 z_23 z_48 b49 b51 (0 : Int32) (0 : Int32) b57 b59 b59 b57) [(.ref b49), (.ref b57)])) _
        refine st65.trans ?_
        show Steps p.tables e below (T65.setTop (mkF m 310 (own_F16 i1 i2 i3 i4 i5 i6 v3 v7 (0 : Int32) (1 : Int32) v14 v18 z_23 z_48 b49 b51 (0 : Int32) (0 : Int32) b57 b59 b59 b57) [(.int (0 : Int32))])) _
        refine XS.ifNo X65.here hx rfl (hb hby at_310) rfl ((if0 _ _).trans (teq (rfl : (0 : Int32) = (0 : Int32))).2) ?_
        show Steps p.tables e below (T65.setTop (mkF m 313 (own_F16 i1 i2 i3 i4 i5 i6 v3 v7 (0 : Int32) (1 : Int32) v14 v18 z_23 z_48 b49 b51 (0 : Int32) (0 : Int32) b57 b59 b59 b57) [])) _
        refine XS.aload X65.here hx rfl (hb hby at_313) rfl rfl ?_
        show Steps p.tables e below (T65.setTop (mkF m 315 (own_F16 i1 i2 i3 i4 i5 i6 v3 v7 (0 : Int32) (1 : Int32) v14 v18 z_23 z_48 b49 b51 (0 : Int32) (0 : Int32) b57 b59 b59 b57) [(.ref b57)])) _
        refine XS.iloadN X65.here hx rfl (hb hby at_315) rfl ?_
        show Steps p.tables e below (T65.setTop (mkF m 316 (own_F16 i1 i2 i3 i4 i5 i6 v3 v7 (0 : Int32) (1 : Int32) v14 v18 z_23 z_48 b49 b51 (0 : Int32) (0 : Int32) b57 b59 b59 b57) [(.int i1), (.ref b57)])) _
        refine st66 _ ?_
        show Steps p.tables e below (T66.setTop (mkF m 319 (own_F16 i1 i2 i3 i4 i5 i6 v3 v7 (0 : Int32) (1 : Int32) v14 v18 z_23 z_48 b49 b51 (0 : Int32) (0 : Int32) b57 b59 b59 b57) [(.ref z_66), (.ref b57)])) _
        refine st67.trans ?_
        show Steps p.tables e below (T67.setTop (mkF m 322 (own_F16 i1 i2 i3 i4 i5 i6 v3 v7 (0 : Int32) (1 : Int32) v14 v18 z_23 z_48 b49 b51 (0 : Int32) (0 : Int32) b57 b59 b59 b57) [(.int (0 : Int32))])) _
        refine XS.ifNo X67.here hx rfl (hb hby at_322) rfl ((if0 _ _).trans (teq (rfl : (0 : Int32) = (0 : Int32))).2) ?_
        show Steps p.tables e below (T67.setTop (mkF m 325 (own_F16 i1 i2 i3 i4 i5 i6 v3 v7 (0 : Int32) (1 : Int32) v14 v18 z_23 z_48 b49 b51 (0 : Int32) (0 : Int32) b57 b59 b59 b57) [])) _
        refine XS.iconst X67.here hx rfl (hb hby at_325) ?_
        show Steps p.tables e below (T67.setTop (mkF m 326 (own_F16 i1 i2 i3 i4 i5 i6 v3 v7 (0 : Int32) (1 : Int32) v14 v18 z_23 z_48 b49 b51 (0 : Int32) (0 : Int32) b57 b59 b59 b57) [(.int (1 : Int32))])) _
        refine XS.goto X67.here hx rfl (pc0 := 326) (pc' := 330) rfl (hb hby at_326) (by decide) (by decide) ?_
        show Steps p.tables e below (T67.setTop (mkF m 330 (own_F16 i1 i2 i3 i4 i5 i6 v3 v7 (0 : Int32) (1 : Int32) v14 v18 z_23 z_48 b49 b51 (0 : Int32) (0 : Int32) b57 b59 b59 b57) [(.int (1 : Int32))])) _
        exact k
      obtain ⟨fs, hr, hrun, hended, hE⟩ := Stand.leaveW (s := s) (vm₁ := T50.vm) X67 hS (by rw [eh67]; exact hk) (v := some (.int (1 : Int32))) (fun h => by rw [Bd.returns] at h; cases h)
      refine ⟨_, _, w68 _ ?_, hrun, hended, _, _, rfl, ?_, ?_, own_mono hE (by decide) (by decide)⟩
      · exact retN X67 hx (t := .boolean) Bd.returns (by simp) (hb hby at_330) hr
      · show Q0 Z i1 i2 i3 i4 i5 i6 cl_s_cacheI zc s_cacheI h0 n0 _ T67.heap _
        rw [eh67]
        exact ⟨rfl, N67⟩
      · rw [hh]; show CHr Z consts_1 s.vm h0 T67.vm T67.heap; rw [eh67]; exact C.trans (CHv.at X67 hZ hEL C.1)
    · rw [hk26] at w24
      have lt69_z_23 := V_z_c23.lt
      obtain ⟨_, _, ⟨T69, L69, k69, n69⟩, -, X69, ⟨Lc69, hQ69, l69, y69, z69⟩, st69⟩ := Jvm.LawKit.callS X23 hx (y := (⟨"com/example/whirligig/whirligig/UnreadableEqualsPinLaw", "chars", "(III)[C"⟩ : MethodName)) hown (mvT hZ (hw _ (List.mem_of_getElem? (i := 0) rfl))) (mvT hZ (hw _ (List.mem_of_getElem? (i := 1) rfl))) (mvT hZ (hw _ (List.mem_of_getElem? (i := 2) rfl))) (mvT hZ (hw _ (List.mem_of_getElem? (i := 3) rfl))) (by decide) (backOf (W := 0) (rm1_2 l Z a0 hw [] v14 v18 T23.heap n0 O ) hZ (hw _ (List.mem_of_getElem? (i := 3) rfl)) (hw _ (List.mem_of_getElem? (i := 2) rfl)) (by decide) (by decide)) (g := (mkF m 125 (own_F7 i1 i2 i3 i4 i5 i6 v3 v7 (0 : Int32) (2 : Int32) v14 v18 z_23) [(.int v18), (.int v14), (.int (2 : Int32))])) rfl (by rw [hml]; rfl) (argsL := [(.int (2 : Int32)), (.int v14), (.int v18)]) (rest := []) (lenOf pd__40III_41_91C rfl) rfl (by show 2 * 0 + _ ≤ _; exact Nat.le_of_eq rfl) (hb hby at_125) (fun _ _ => ⟨rfl, rfl, (by decide : 1 + 1 ≤ _), (by decide : 0 + 2 ≤ _)⟩)
      dsimp only [Pt.U, Pt.locs, Pt.cells, Pt.slots] at X69 l69 y69 z69 st69 hQ69
      subst l69 y69 z69
      obtain ⟨z_69, kz_69, c1_69, d1_69, rfl, N69q, K69, V_z_c69, gz_69, gn_69, bc_69, bd_69⟩ := hQ69
      have N69 := Fr.app N23 N69q
      have R := CHr.keep K69 all0 C.1
      have C := C.trans R
      have hk := Nat.le_trans hk K69.1
      have V_z_c23 := V_z_c23.keep K69 nin0
      have ne_z_23_z_69 : z_23 ≠ z_69 := Nat.ne_of_lt (Nat.lt_of_lt_of_le lt69_z_23 gz_69)
      have g_z_69 := gn_69
      have O := O.keep K69 all0
      obtain ⟨T70, h70, X70, e70, E70, A70, D70, -, st70⟩ := newO X69 hx hZ hown (hw _ (List.mem_of_getElem? (i := 5) rfl)) (hw _ (List.mem_of_getElem? (i := 6) rfl)) (hw _ (List.mem_of_getElem? (i := 7) rfl)) rfl (g := (mkF m 130 (own_F8 i1 i2 i3 i4 i5 i6 v3 v7 (0 : Int32) (2 : Int32) v14 v18 z_23 z_69) [])) rfl (hb hby at_130) (by decide) (by decide)
      obtain ⟨b70, gq70⟩ : ∃ z, z = Array.size T69.heap := ⟨_, rfl⟩
      rw [← gq70] at A70 D70 st70
      have ne_z_23_b70 : z_23 ≠ b70 := Nat.ne_of_lt (Nat.lt_of_lt_of_le V_z_c23.lt (Nat.le_of_eq gq70.symm))
      have ne_z_69_b70 : z_69 ≠ b70 := Nat.ne_of_lt (Nat.lt_of_lt_of_le V_z_c69.lt (Nat.le_of_eq gq70.symm))
      have g_b70 : n0 ≤ b70 := Nat.le_trans (O.1 ▸ O.2.1) (Nat.le_of_eq gq70.symm)
      have sf_b70 := own_safeN C.1 E70 (Nat.le_of_eq gq70.symm)
      have R := CHr.ext E70 C.1
      have C := C.trans R
      have hk := Nat.le_trans hk E70.1
      have V_z_c23 := V_z_c23.ext E70
      have V_z_c69 := V_z_c69.ext E70
      have O := O.ext E70
      have F_value_b70 : Fld Z h70 b70 "java/lang/String" "value" "[B" .null := D70 (Or.inr (hw _ (List.mem_of_getElem? (i := 20) rfl))) (ty := (.array .byte)) (by decide)
      have F_coder_b70 : Fld Z h70 b70 "java/lang/String" "coder" "B" (.int (0 : Int32)) := D70 (Or.inr (hw _ (List.mem_of_getElem? (i := 21) rfl))) (ty := .byte) (by decide)
      obtain ⟨_, _, ⟨T71, L71, k71, n71⟩, -, X71, sn71, gr71, ⟨Lc71, hQ71, l71, y71, z71, R71⟩, st71⟩ := X70.specialBackS hx (y := (⟨"java/lang/String", "<init>", "([C)V"⟩ : MethodName)) rfl hown (mvT hZ (hw _ (List.mem_of_getElem? (i := 8) rfl))) (mvT hZ (hw _ (List.mem_of_getElem? (i := 9) rfl))) (mvT hZ (hw _ (List.mem_of_getElem? (i := 10) rfl))) (by decide) (backOfSH (W := 1) (rm2_e l Z a0 hw [] b70 z_23 kz_23 h70 n0 O A70 F_value_b70 F_coder_b70 V_z_c23 g_b70) hZ (hw _ (List.mem_of_getElem? (i := 10) rfl)) (hw _ (List.mem_of_getElem? (i := 7) rfl)) (by decide) (by decide) hEL C.1) (g := (mkF m 136 (own_F8 i1 i2 i3 i4 i5 i6 v3 v7 (0 : Int32) (2 : Int32) v14 v18 z_23 z_69) [(.ref z_23), (.ref b70), (.ref b70)])) rfl (by rw [hml]; rfl) (Steps.refl _) (a := b70) (argsL := [(.ref z_23)]) (rest := [(.ref b70)]) (lenOf pd__40_91C_41V rfl) rfl (by show 2 * 0 + _ ≤ _; exact Nat.le_of_eq rfl) (hb hby at_136) (fun _ _ => ⟨rfl, e70, (by decide : 3 + 4 ≤ _), (by decide : 6 + 8 ≤ _)⟩)
      dsimp only [Pt.U, Pt.locs, Pt.cells, Pt.slots] at X71 l71 y71 z71 st71 hQ71 sn71 gr71 R71
      subst l71 y71 z71
      obtain ⟨X71, hS, hZ, hown⟩ := rebS hS (by rw [e70]; exact hk) X71 sn71 gr71 hZ hown
      obtain ⟨t1_71, kb_71, rfl, N71q, K71, F_v_a_c71, F_c_a_c71, V_t_c71⟩ := hQ71
      have N71 := Fr.app N69 N71q
      have R := R71
      have sf_b70 := R.safe A70.lt sf_b70
      have C := C.trans R
      have hk : T71.heap.size ≤ T71.heap.size := Nat.le_refl _
      have V_z_c23 := V_z_c23.keep K71 (ninS ne_z_23_b70 nin0)
      have V_z_c69 := V_z_c69.keep K71 (ninS ne_z_69_b70 nin0)
      have A70 := A70.keep K71
      have O := O.keep K71 (allS g_b70 all0)
      obtain ⟨T72, h72, X72, e72, E72, A72, D72, -, st72⟩ := newO X71 hx hZ hown (hw _ (List.mem_of_getElem? (i := 5) rfl)) (hw _ (List.mem_of_getElem? (i := 6) rfl)) (hw _ (List.mem_of_getElem? (i := 7) rfl)) rfl (g := (mkF m 141 (own_F9 i1 i2 i3 i4 i5 i6 v3 v7 (0 : Int32) (2 : Int32) v14 v18 z_23 z_69 b70) [])) rfl (hb hby at_141) (by decide) (by decide)
      obtain ⟨b72, gq72⟩ : ∃ z, z = Array.size T71.heap := ⟨_, rfl⟩
      rw [← gq72] at A72 D72 st72
      have ne_z_23_b72 : z_23 ≠ b72 := Nat.ne_of_lt (Nat.lt_of_lt_of_le V_z_c23.lt (Nat.le_of_eq gq72.symm))
      have ne_z_69_b72 : z_69 ≠ b72 := Nat.ne_of_lt (Nat.lt_of_lt_of_le V_z_c69.lt (Nat.le_of_eq gq72.symm))
      have ne_b70_b72 : b70 ≠ b72 := Nat.ne_of_lt (Nat.lt_of_lt_of_le A70.lt (Nat.le_of_eq gq72.symm))
      have ne_t1_71_b72 : t1_71 ≠ b72 := Nat.ne_of_lt (Nat.lt_of_lt_of_le V_t_c71.lt (Nat.le_of_eq gq72.symm))
      have g_b72 : n0 ≤ b72 := Nat.le_trans (O.1 ▸ O.2.1) (Nat.le_of_eq gq72.symm)
      have sf_b72 := own_safeN C.1 E72 (Nat.le_of_eq gq72.symm)
      have R := CHr.ext E72 C.1
      have sf_b70 := R.safe A70.lt sf_b70
      have C := C.trans R
      have hk := Nat.le_trans hk E72.1
      have V_z_c23 := V_z_c23.ext E72
      have V_z_c69 := V_z_c69.ext E72
      have A70 := A70.ext E72
      have F_v_a_c71 := F_v_a_c71.ext E72
      have F_c_a_c71 := F_c_a_c71.ext E72
      have V_t_c71 := V_t_c71.ext E72
      have O := O.ext E72
      have F_value_b72 : Fld Z h72 b72 "java/lang/String" "value" "[B" .null := D72 (Or.inr (hw _ (List.mem_of_getElem? (i := 20) rfl))) (ty := (.array .byte)) (by decide)
      have F_coder_b72 : Fld Z h72 b72 "java/lang/String" "coder" "B" (.int (0 : Int32)) := D72 (Or.inr (hw _ (List.mem_of_getElem? (i := 21) rfl))) (ty := .byte) (by decide)
      have hp_b72 := own_hp2 bc_69 bd_69
      have h9_b72 : 0 < ([c1_69, d1_69] : List Int32).length ∧ ([c1_69, d1_69] : List Int32).length ≤ 2 := ⟨Nat.le_of_ble_eq_true rfl, Nat.le_of_ble_eq_true rfl⟩
      obtain ⟨_, _, ⟨T73, L73, k73, n73⟩, -, X73, ⟨Lc73, hQ73, l73, y73, z73⟩, st73⟩ := X72.specialBack hx (y := (⟨"java/lang/String", "<init>", "([C)V"⟩ : MethodName)) rfl hown (mvT hZ (hw _ (List.mem_of_getElem? (i := 8) rfl))) (mvT hZ (hw _ (List.mem_of_getElem? (i := 9) rfl))) (mvT hZ (hw _ (List.mem_of_getElem? (i := 10) rfl))) (by decide) (StrChars.Road.backV (W := 1) hZ (own_wNew hw) (kI := 4) (hw _ (List.mem_of_getElem? (i := 6) rfl)) (cs := ([c1_69, d1_69] : List Int32)) (bs := (([c1_69, d1_69] : List Int32).map (fun c => c.toInt8.toInt32))) (n := ([c1_69, d1_69] : List Int32).length) g_b72 (O.1 ▸ O.2.1) A72 F_value_b72 F_coder_b72 V_z_c69 (SC.ext O.2) hzc rfl rfl h9_b72.1 (Nat.le_trans h9_b72.2 (by decide)) hp_b72 rfl (by decide) (by decide)) (g := (mkF m 147 (own_F9 i1 i2 i3 i4 i5 i6 v3 v7 (0 : Int32) (2 : Int32) v14 v18 z_23 z_69 b70) [(.ref z_69), (.ref b72), (.ref b72)])) rfl (by rw [hml]; rfl) (Steps.refl _) (a := b72) (argsL := [(.ref z_69)]) (rest := [(.ref b72)]) (lenOf pd__40_91C_41V rfl) rfl (by show 2 * 0 + _ ≤ _; exact Nat.le_of_eq rfl) (hb hby at_147) (fun _ _ => ⟨rfl, e72, (by decide : 8 + 1 ≤ _), Nat.le_trans (Nat.add_le_add_left h9_b72.2 18) (by decide)⟩)
      dsimp only [Pt.U, Pt.locs, Pt.cells, Pt.slots] at X73 l73 y73 z73 st73 hQ73
      subst l73 y73 z73
      have X73 := X73.more (Nat.le_refl _) (Nat.add_le_add_left h9_b72.2 18)
      obtain ⟨rfl, N73q, K73, Ex73, Fc73, t73, kb73, gn73, gz73, nx73, Fv73, Av73⟩ := hQ73
      have N73 := Fr.app N71 N73q
      have ne_z_23_t73 : z_23 ≠ t73 := Nat.ne_of_lt (Nat.lt_of_lt_of_le V_z_c23.lt gz73)
      have ne_z_69_t73 : z_69 ≠ t73 := Nat.ne_of_lt (Nat.lt_of_lt_of_le V_z_c69.lt gz73)
      have ne_b70_t73 : b70 ≠ t73 := Nat.ne_of_lt (Nat.lt_of_lt_of_le A70.lt gz73)
      have ne_t1_71_t73 : t1_71 ≠ t73 := Nat.ne_of_lt (Nat.lt_of_lt_of_le V_t_c71.lt gz73)
      have ne_b72_t73 : b72 ≠ t73 := Nat.ne_of_lt (Nat.lt_of_lt_of_le A72.lt gz73)
      have R := CHr.keep K73 (allS sf_b72 all0) C.1
      have sf_b70 := R.safe A70.lt sf_b70
      have sf_b72 := R.safe A72.lt sf_b72
      have C := C.trans R
      have hk := Nat.le_trans hk K73.1
      have V_z_c23 := V_z_c23.keep K73 (ninS ne_z_23_b72 nin0)
      have V_z_c69 := V_z_c69.keep K73 (ninS ne_z_69_b72 nin0)
      have A70 := A70.keep K73
      have F_v_a_c71 := F_v_a_c71.keep K73 (ninS ne_b70_b72 nin0)
      have F_c_a_c71 := F_c_a_c71.keep K73 (ninS ne_b70_b72 nin0)
      have V_t_c71 := V_t_c71.keep K73 (ninS ne_t1_71_b72 nin0)
      have A72 := A72.keep K73
      have g_t73 := gn73
      have O := O.keep K73 (allS g_b72 all0)
      have w74 : ∀ t, Steps p.tables e below (T73.setTop (mkF m 203 (own_F11 i1 i2 i3 i4 i5 i6 v3 v7 (0 : Int32) (2 : Int32) v14 v18 z_23 z_69 b70 b72 (0 : Int32)) [(.int v3), (.int i1)])) t → Steps p.tables e below (s₁.setTop (entryFrame m #[(.int i1), (.int i2), (.int i3), (.int i4), (.int i5), (.int i6)] maxLocals)) t := fun t k => by
        refine w24 t ?_
        refine XS.iload X23.here hx rfl (hb hby at_119) rfl ?_
        show Steps p.tables e below (T23.setTop (mkF m 121 (own_F7 i1 i2 i3 i4 i5 i6 v3 v7 (0 : Int32) (2 : Int32) v14 v18 z_23) [(.int (2 : Int32))])) _
        refine XS.iload X23.here hx rfl (hb hby at_121) rfl ?_
        show Steps p.tables e below (T23.setTop (mkF m 123 (own_F7 i1 i2 i3 i4 i5 i6 v3 v7 (0 : Int32) (2 : Int32) v14 v18 z_23) [(.int v14), (.int (2 : Int32))])) _
        refine XS.iload X23.here hx rfl (hb hby at_123) rfl ?_
        show Steps p.tables e below (T23.setTop (mkF m 125 (own_F7 i1 i2 i3 i4 i5 i6 v3 v7 (0 : Int32) (2 : Int32) v14 v18 z_23) [(.int v18), (.int v14), (.int (2 : Int32))])) _
        refine st69 _ ?_
        show Steps p.tables e below (T69.setTop (mkF m 128 (own_F7 i1 i2 i3 i4 i5 i6 v3 v7 (0 : Int32) (2 : Int32) v14 v18 z_23) [(.ref z_69)])) _
        refine XS.astore X69.here hx rfl (hb hby at_128) rfl rfl (l' := (own_F8 i1 i2 i3 i4 i5 i6 v3 v7 (0 : Int32) (2 : Int32) v14 v18 z_23 z_69)) rfl ?_
        show Steps p.tables e below (T69.setTop (mkF m 130 (own_F8 i1 i2 i3 i4 i5 i6 v3 v7 (0 : Int32) (2 : Int32) v14 v18 z_23 z_69) [])) _
        refine st70 _ ?_
        show Steps p.tables e below (T70.setTop (mkF m 133 (own_F8 i1 i2 i3 i4 i5 i6 v3 v7 (0 : Int32) (2 : Int32) v14 v18 z_23 z_69) [(.ref b70)])) _
        refine XS.dup X70.here hx rfl (hb hby at_133) rfl rfl ?_
        show Steps p.tables e below (T70.setTop (mkF m 134 (own_F8 i1 i2 i3 i4 i5 i6 v3 v7 (0 : Int32) (2 : Int32) v14 v18 z_23 z_69) [(.ref b70), (.ref b70)])) _
        refine XS.aload X70.here hx rfl (hb hby at_134) rfl rfl ?_
        show Steps p.tables e below (T70.setTop (mkF m 136 (own_F8 i1 i2 i3 i4 i5 i6 v3 v7 (0 : Int32) (2 : Int32) v14 v18 z_23 z_69) [(.ref z_23), (.ref b70), (.ref b70)])) _
        refine st71.trans ?_
        show Steps p.tables e below (T71.setTop (mkF m 139 (own_F8 i1 i2 i3 i4 i5 i6 v3 v7 (0 : Int32) (2 : Int32) v14 v18 z_23 z_69) [(.ref b70)])) _
        refine XS.astore X71.here hx rfl (hb hby at_139) rfl rfl (l' := (own_F9 i1 i2 i3 i4 i5 i6 v3 v7 (0 : Int32) (2 : Int32) v14 v18 z_23 z_69 b70)) rfl ?_
        show Steps p.tables e below (T71.setTop (mkF m 141 (own_F9 i1 i2 i3 i4 i5 i6 v3 v7 (0 : Int32) (2 : Int32) v14 v18 z_23 z_69 b70) [])) _
        refine st72 _ ?_
        show Steps p.tables e below (T72.setTop (mkF m 144 (own_F9 i1 i2 i3 i4 i5 i6 v3 v7 (0 : Int32) (2 : Int32) v14 v18 z_23 z_69 b70) [(.ref b72)])) _
        refine XS.dup X72.here hx rfl (hb hby at_144) rfl rfl ?_
        show Steps p.tables e below (T72.setTop (mkF m 145 (own_F9 i1 i2 i3 i4 i5 i6 v3 v7 (0 : Int32) (2 : Int32) v14 v18 z_23 z_69 b70) [(.ref b72), (.ref b72)])) _
        refine XS.aload X72.here hx rfl (hb hby at_145) rfl rfl ?_
        show Steps p.tables e below (T72.setTop (mkF m 147 (own_F9 i1 i2 i3 i4 i5 i6 v3 v7 (0 : Int32) (2 : Int32) v14 v18 z_23 z_69 b70) [(.ref z_69), (.ref b72), (.ref b72)])) _
        refine st73.trans ?_
        show Steps p.tables e below (T73.setTop (mkF m 150 (own_F9 i1 i2 i3 i4 i5 i6 v3 v7 (0 : Int32) (2 : Int32) v14 v18 z_23 z_69 b70) [(.ref b72)])) _
        refine XS.astore X73.here hx rfl (hb hby at_150) rfl rfl (l' := (own_F10 i1 i2 i3 i4 i5 i6 v3 v7 (0 : Int32) (2 : Int32) v14 v18 z_23 z_69 b70 b72)) rfl ?_
        show Steps p.tables e below (T73.setTop (mkF m 152 (own_F10 i1 i2 i3 i4 i5 i6 v3 v7 (0 : Int32) (2 : Int32) v14 v18 z_23 z_69 b70 b72) [])) _
        refine XS.iload X73.here hx rfl (hb hby at_152) rfl ?_
        show Steps p.tables e below (T73.setTop (mkF m 154 (own_F10 i1 i2 i3 i4 i5 i6 v3 v7 (0 : Int32) (2 : Int32) v14 v18 z_23 z_69 b70 b72) [(.int (0 : Int32))])) _
        refine XS.iload X73.here hx rfl (hb hby at_154) rfl ?_
        show Steps p.tables e below (T73.setTop (mkF m 156 (own_F10 i1 i2 i3 i4 i5 i6 v3 v7 (0 : Int32) (2 : Int32) v14 v18 z_23 z_69 b70 b72) [(.int (2 : Int32)), (.int (0 : Int32))])) _
        refine XS.icmpYes X73.here hx rfl (pc0 := 156) (pc' := 197) rfl (hb hby at_156) rfl (feq ((by decide) : ¬ ((0 : Int32) = (2 : Int32)))).2 (by decide) (by decide) ?_
        show Steps p.tables e below (T73.setTop (mkF m 197 (own_F10 i1 i2 i3 i4 i5 i6 v3 v7 (0 : Int32) (2 : Int32) v14 v18 z_23 z_69 b70 b72) [])) _
        refine XS.iconst X73.here hx rfl (hb hby at_197) ?_
        show Steps p.tables e below (T73.setTop (mkF m 198 (own_F10 i1 i2 i3 i4 i5 i6 v3 v7 (0 : Int32) (2 : Int32) v14 v18 z_23 z_69 b70 b72) [(.int (0 : Int32))])) _
        refine XS.istore X73.here hx rfl (hb hby at_198) rfl (l' := (own_F11 i1 i2 i3 i4 i5 i6 v3 v7 (0 : Int32) (2 : Int32) v14 v18 z_23 z_69 b70 b72 (0 : Int32))) rfl ?_
        show Steps p.tables e below (T73.setTop (mkF m 200 (own_F11 i1 i2 i3 i4 i5 i6 v3 v7 (0 : Int32) (2 : Int32) v14 v18 z_23 z_69 b70 b72 (0 : Int32)) [])) _
        refine XS.iloadN X73.here hx rfl (hb hby at_200) rfl ?_
        show Steps p.tables e below (T73.setTop (mkF m 201 (own_F11 i1 i2 i3 i4 i5 i6 v3 v7 (0 : Int32) (2 : Int32) v14 v18 z_23 z_69 b70 b72 (0 : Int32)) [(.int i1)])) _
        refine XS.iload X73.here hx rfl (hb hby at_201) rfl ?_
        show Steps p.tables e below (T73.setTop (mkF m 203 (own_F11 i1 i2 i3 i4 i5 i6 v3 v7 (0 : Int32) (2 : Int32) v14 v18 z_23 z_69 b70 b72 (0 : Int32)) [(.int v3), (.int i1)])) _
        exact k
      have w77 : ∀ t, Steps p.tables e below (T73.setTop (mkF m 222 (own_F11 i1 i2 i3 i4 i5 i6 v3 v7 (0 : Int32) (2 : Int32) v14 v18 z_23 z_69 b70 b72 (0 : Int32)) [(.int (0 : Int32))])) t → Steps p.tables e below (s₁.setTop (entryFrame m #[(.int i1), (.int i2), (.int i3), (.int i4), (.int i5), (.int i6)] maxLocals)) t := fun t k => by
        refine w74 t ?_
        show Steps p.tables e below (T73.setTop (mkF m 203 (own_F11 i1 i2 i3 i4 i5 i6 v3 v7 (0 : Int32) (2 : Int32) v14 v18 z_23 z_69 b70 b72 (0 : Int32)) [(.int v3), (.int i1)])) _
        by_cases hm75 : i1 = v3
        · refine XS.icmpNo X73.here hx rfl (hb hby at_203) rfl (teq hm75).2 ?_
          show Steps p.tables e below (T73.setTop (mkF m 206 (own_F11 i1 i2 i3 i4 i5 i6 v3 v7 (0 : Int32) (2 : Int32) v14 v18 z_23 z_69 b70 b72 (0 : Int32)) [])) _
          refine XS.iloadN X73.here hx rfl (hb hby at_206) rfl ?_
          show Steps p.tables e below (T73.setTop (mkF m 207 (own_F11 i1 i2 i3 i4 i5 i6 v3 v7 (0 : Int32) (2 : Int32) v14 v18 z_23 z_69 b70 b72 (0 : Int32)) [(.int i3)])) _
          refine XS.iload X73.here hx rfl (hb hby at_207) rfl ?_
          show Steps p.tables e below (T73.setTop (mkF m 209 (own_F11 i1 i2 i3 i4 i5 i6 v3 v7 (0 : Int32) (2 : Int32) v14 v18 z_23 z_69 b70 b72 (0 : Int32)) [(.int v7), (.int i3)])) _
          by_cases hm76 : i3 = v7
          · refine XS.icmpNo X73.here hx rfl (hb hby at_209) rfl (teq hm76).2 ?_
            show Steps p.tables e below (T73.setTop (mkF m 212 (own_F11 i1 i2 i3 i4 i5 i6 v3 v7 (0 : Int32) (2 : Int32) v14 v18 z_23 z_69 b70 b72 (0 : Int32)) [])) _
            refine XS.iload X73.here hx rfl (hb hby at_212) rfl ?_
            show Steps p.tables e below (T73.setTop (mkF m 214 (own_F11 i1 i2 i3 i4 i5 i6 v3 v7 (0 : Int32) (2 : Int32) v14 v18 z_23 z_69 b70 b72 (0 : Int32)) [(.int (0 : Int32))])) _
            refine XS.ifYes X73.here hx rfl (pc0 := 214) (pc' := 221) rfl (hb hby at_214) rfl ((if0 _ _).trans (teq ((by decide) : (0 : Int32) = (0 : Int32))).1) (by decide) (by decide) ?_
            show Steps p.tables e below (T73.setTop (mkF m 221 (own_F11 i1 i2 i3 i4 i5 i6 v3 v7 (0 : Int32) (2 : Int32) v14 v18 z_23 z_69 b70 b72 (0 : Int32)) [])) _
            refine XS.iconst X73.here hx rfl (hb hby at_221) ?_
            show Steps p.tables e below (T73.setTop (mkF m 222 (own_F11 i1 i2 i3 i4 i5 i6 v3 v7 (0 : Int32) (2 : Int32) v14 v18 z_23 z_69 b70 b72 (0 : Int32)) [(.int (0 : Int32))])) _
            exact k
          · refine XS.icmpYes X73.here hx rfl (pc0 := 209) (pc' := 221) rfl (hb hby at_209) rfl (feq hm76).2 (by decide) (by decide) ?_
            show Steps p.tables e below (T73.setTop (mkF m 221 (own_F11 i1 i2 i3 i4 i5 i6 v3 v7 (0 : Int32) (2 : Int32) v14 v18 z_23 z_69 b70 b72 (0 : Int32)) [])) _
            refine XS.iconst X73.here hx rfl (hb hby at_221) ?_
            show Steps p.tables e below (T73.setTop (mkF m 222 (own_F11 i1 i2 i3 i4 i5 i6 v3 v7 (0 : Int32) (2 : Int32) v14 v18 z_23 z_69 b70 b72 (0 : Int32)) [(.int (0 : Int32))])) _
            exact k
        · refine XS.icmpYes X73.here hx rfl (pc0 := 203) (pc' := 221) rfl (hb hby at_203) rfl (feq hm75).2 (by decide) (by decide) ?_
          show Steps p.tables e below (T73.setTop (mkF m 221 (own_F11 i1 i2 i3 i4 i5 i6 v3 v7 (0 : Int32) (2 : Int32) v14 v18 z_23 z_69 b70 b72 (0 : Int32)) [])) _
          refine XS.iconst X73.here hx rfl (hb hby at_221) ?_
          show Steps p.tables e below (T73.setTop (mkF m 222 (own_F11 i1 i2 i3 i4 i5 i6 v3 v7 (0 : Int32) (2 : Int32) v14 v18 z_23 z_69 b70 b72 (0 : Int32)) [(.int (0 : Int32))])) _
          exact k
      obtain ⟨T78, h78, X78, e78, E78, A78, D78, -, st78⟩ := newO X73 hx hZ hown (hw _ (List.mem_of_getElem? (i := 26) rfl)) (hw _ (List.mem_of_getElem? (i := 27) rfl)) (hw _ (List.mem_of_getElem? (i := 28) rfl)) rfl (g := (mkF m 224 (own_F12 i1 i2 i3 i4 i5 i6 v3 v7 (0 : Int32) (2 : Int32) v14 v18 z_23 z_69 b70 b72 (0 : Int32) (0 : Int32)) [])) rfl (hb hby at_224) (by decide) (by decide)
      obtain ⟨b78, gq78⟩ : ∃ z, z = Array.size T73.heap := ⟨_, rfl⟩
      rw [← gq78] at A78 D78 st78
      have ne_z_23_b78 : z_23 ≠ b78 := Nat.ne_of_lt (Nat.lt_of_lt_of_le V_z_c23.lt (Nat.le_of_eq gq78.symm))
      have ne_z_69_b78 : z_69 ≠ b78 := Nat.ne_of_lt (Nat.lt_of_lt_of_le V_z_c69.lt (Nat.le_of_eq gq78.symm))
      have ne_b70_b78 : b70 ≠ b78 := Nat.ne_of_lt (Nat.lt_of_lt_of_le A70.lt (Nat.le_of_eq gq78.symm))
      have ne_t1_71_b78 : t1_71 ≠ b78 := Nat.ne_of_lt (Nat.lt_of_lt_of_le V_t_c71.lt (Nat.le_of_eq gq78.symm))
      have ne_b72_b78 : b72 ≠ b78 := Nat.ne_of_lt (Nat.lt_of_lt_of_le Ex73.lt (Nat.le_of_eq gq78.symm))
      have ne_t73_b78 : t73 ≠ b78 := Nat.ne_of_lt (Nat.lt_of_lt_of_le Av73.lt (Nat.le_of_eq gq78.symm))
      have g_b78 : n0 ≤ b78 := Nat.le_trans (O.1 ▸ O.2.1) (Nat.le_of_eq gq78.symm)
      have sf_b78 := own_safeN C.1 E78 (Nat.le_of_eq gq78.symm)
      have R := CHr.ext E78 C.1
      have sf_b70 := R.safe A70.lt sf_b70
      have sf_b72 := R.safe Ex73.lt sf_b72
      have C := C.trans R
      have hk := Nat.le_trans hk E78.1
      have V_z_c23 := V_z_c23.ext E78
      have V_z_c69 := V_z_c69.ext E78
      have A70 := A70.ext E78
      have F_v_a_c71 := F_v_a_c71.ext E78
      have F_c_a_c71 := F_c_a_c71.ext E78
      have V_t_c71 := V_t_c71.ext E78
      have Ex73 := Ex73.ext E78
      have Fc73 := Fc73.ext E78
      have Fv73 := Fv73.ext E78
      have Av73 := Av73.ext E78
      have O := O.ext E78
      have F_id_b78 : Fld Z h78 b78 "com/example/whirligig/whirligig/DownloadInfoIndication$Unreadable" "id" "I" (.int (0 : Int32)) := D78 (Or.inr (hw _ (List.mem_of_getElem? (i := 39) rfl))) (ty := .int) (by decide)
      have F_version_b78 : Fld Z h78 b78 "com/example/whirligig/whirligig/DownloadInfoIndication$Unreadable" "version" "I" (.int (0 : Int32)) := D78 (Or.inr (hw _ (List.mem_of_getElem? (i := 41) rfl))) (ty := .int) (by decide)
      have F_reason_b78 : Fld Z h78 b78 "com/example/whirligig/whirligig/DownloadInfoIndication$Unreadable" "reason" "Ljava/lang/String;" .null := D78 (Or.inr (hw _ (List.mem_of_getElem? (i := 43) rfl))) (ty := (.object "java/lang/String")) (by decide)
      obtain ⟨_, _, ⟨T79, L79, k79, n79⟩, -, X79, ⟨Lc79, hQ79, l79, y79, z79⟩, st79⟩ := X78.specialBack hx (y := (⟨"com/example/whirligig/whirligig/DownloadInfoIndication$Unreadable", "<init>", "(IILjava/lang/String;)V"⟩ : MethodName)) rfl hown (mvT hZ (hw _ (List.mem_of_getElem? (i := 29) rfl))) (mvT hZ (hw _ (List.mem_of_getElem? (i := 30) rfl))) (mvT hZ (hw _ (List.mem_of_getElem? (i := 31) rfl))) (by decide) (backOf (W := 1) (rm5 l Z a0 hw [] b78 i1 i3 b70 h78 n0 O A78 F_id_b78 F_version_b78 F_reason_b78 g_b78) hZ (hw _ (List.mem_of_getElem? (i := 31) rfl)) (hw _ (List.mem_of_getElem? (i := 28) rfl)) (by decide) (by decide)) (g := (mkF m 232 (own_F12 i1 i2 i3 i4 i5 i6 v3 v7 (0 : Int32) (2 : Int32) v14 v18 z_23 z_69 b70 b72 (0 : Int32) (0 : Int32)) [(.ref b70), (.int i3), (.int i1), (.ref b78), (.ref b78)])) rfl (by rw [hml]; rfl) (Steps.refl _) (a := b78) (argsL := [(.int i1), (.int i3), (.ref b70)]) (rest := [(.ref b78)]) (lenOf pd__40IILjava_47lang_47String_59_41V rfl) rfl (by show 2 * 0 + _ ≤ _; exact Nat.le_of_eq rfl) (hb hby at_232) (fun _ _ => ⟨rfl, e78, (by decide : 10 + 0 ≤ _), (by decide : 23 + 0 ≤ _)⟩)
      dsimp only [Pt.U, Pt.locs, Pt.cells, Pt.slots] at X79 l79 y79 z79 st79 hQ79
      subst l79 y79 z79
      obtain ⟨rfl, N79q, K79, F_i_a_c79, F_w_a_c79, F_r_a_c79⟩ := hQ79
      have N79 := Fr.app N73 N79q
      have R := CHr.keep K79 (allS sf_b78 all0) C.1
      have sf_b70 := R.safe A70.lt sf_b70
      have sf_b72 := R.safe Ex73.lt sf_b72
      have sf_b78 := R.safe A78.lt sf_b78
      have C := C.trans R
      have hk := Nat.le_trans hk K79.1
      have V_z_c23 := V_z_c23.keep K79 (ninS ne_z_23_b78 nin0)
      have V_z_c69 := V_z_c69.keep K79 (ninS ne_z_69_b78 nin0)
      have A70 := A70.keep K79
      have F_v_a_c71 := F_v_a_c71.keep K79 (ninS ne_b70_b78 nin0)
      have F_c_a_c71 := F_c_a_c71.keep K79 (ninS ne_b70_b78 nin0)
      have V_t_c71 := V_t_c71.keep K79 (ninS ne_t1_71_b78 nin0)
      have Ex73 := Ex73.keep K79
      have Fc73 := Fc73.keep K79 (ninS ne_b72_b78 nin0)
      have Fv73 := Fv73.keep K79 (ninS ne_b72_b78 nin0)
      have Av73 := Av73.keep K79 (ninS ne_t73_b78 nin0)
      have A78 := A78.keep K79
      have O := O.keep K79 (allS g_b78 all0)
      obtain ⟨T80, h80, X80, e80, E80, A80, D80, -, st80⟩ := newO X79 hx hZ hown (hw _ (List.mem_of_getElem? (i := 26) rfl)) (hw _ (List.mem_of_getElem? (i := 27) rfl)) (hw _ (List.mem_of_getElem? (i := 28) rfl)) rfl (g := (mkF m 237 (own_F13 i1 i2 i3 i4 i5 i6 v3 v7 (0 : Int32) (2 : Int32) v14 v18 z_23 z_69 b70 b72 (0 : Int32) (0 : Int32) b78) [])) rfl (hb hby at_237) (by decide) (by decide)
      obtain ⟨b80, gq80⟩ : ∃ z, z = Array.size T79.heap := ⟨_, rfl⟩
      rw [← gq80] at A80 D80 st80
      have ne_z_23_b80 : z_23 ≠ b80 := Nat.ne_of_lt (Nat.lt_of_lt_of_le V_z_c23.lt (Nat.le_of_eq gq80.symm))
      have ne_z_69_b80 : z_69 ≠ b80 := Nat.ne_of_lt (Nat.lt_of_lt_of_le V_z_c69.lt (Nat.le_of_eq gq80.symm))
      have ne_b70_b80 : b70 ≠ b80 := Nat.ne_of_lt (Nat.lt_of_lt_of_le A70.lt (Nat.le_of_eq gq80.symm))
      have ne_t1_71_b80 : t1_71 ≠ b80 := Nat.ne_of_lt (Nat.lt_of_lt_of_le V_t_c71.lt (Nat.le_of_eq gq80.symm))
      have ne_b72_b80 : b72 ≠ b80 := Nat.ne_of_lt (Nat.lt_of_lt_of_le Ex73.lt (Nat.le_of_eq gq80.symm))
      have ne_t73_b80 : t73 ≠ b80 := Nat.ne_of_lt (Nat.lt_of_lt_of_le Av73.lt (Nat.le_of_eq gq80.symm))
      have ne_b78_b80 : b78 ≠ b80 := Nat.ne_of_lt (Nat.lt_of_lt_of_le A78.lt (Nat.le_of_eq gq80.symm))
      have g_b80 : n0 ≤ b80 := Nat.le_trans (O.1 ▸ O.2.1) (Nat.le_of_eq gq80.symm)
      have sf_b80 := own_safeN C.1 E80 (Nat.le_of_eq gq80.symm)
      have R := CHr.ext E80 C.1
      have sf_b70 := R.safe A70.lt sf_b70
      have sf_b72 := R.safe Ex73.lt sf_b72
      have sf_b78 := R.safe A78.lt sf_b78
      have C := C.trans R
      have hk := Nat.le_trans hk E80.1
      have V_z_c23 := V_z_c23.ext E80
      have V_z_c69 := V_z_c69.ext E80
      have A70 := A70.ext E80
      have F_v_a_c71 := F_v_a_c71.ext E80
      have F_c_a_c71 := F_c_a_c71.ext E80
      have V_t_c71 := V_t_c71.ext E80
      have Ex73 := Ex73.ext E80
      have Fc73 := Fc73.ext E80
      have Fv73 := Fv73.ext E80
      have Av73 := Av73.ext E80
      have A78 := A78.ext E80
      have F_i_a_c79 := F_i_a_c79.ext E80
      have F_w_a_c79 := F_w_a_c79.ext E80
      have F_r_a_c79 := F_r_a_c79.ext E80
      have O := O.ext E80
      have F_id_b80 : Fld Z h80 b80 "com/example/whirligig/whirligig/DownloadInfoIndication$Unreadable" "id" "I" (.int (0 : Int32)) := D80 (Or.inr (hw _ (List.mem_of_getElem? (i := 39) rfl))) (ty := .int) (by decide)
      have F_version_b80 : Fld Z h80 b80 "com/example/whirligig/whirligig/DownloadInfoIndication$Unreadable" "version" "I" (.int (0 : Int32)) := D80 (Or.inr (hw _ (List.mem_of_getElem? (i := 41) rfl))) (ty := .int) (by decide)
      have F_reason_b80 : Fld Z h80 b80 "com/example/whirligig/whirligig/DownloadInfoIndication$Unreadable" "reason" "Ljava/lang/String;" .null := D80 (Or.inr (hw _ (List.mem_of_getElem? (i := 43) rfl))) (ty := (.object "java/lang/String")) (by decide)
      obtain ⟨_, _, ⟨T81, L81, k81, n81⟩, -, X81, ⟨Lc81, hQ81, l81, y81, z81⟩, st81⟩ := X80.specialBack hx (y := (⟨"com/example/whirligig/whirligig/DownloadInfoIndication$Unreadable", "<init>", "(IILjava/lang/String;)V"⟩ : MethodName)) rfl hown (mvT hZ (hw _ (List.mem_of_getElem? (i := 29) rfl))) (mvT hZ (hw _ (List.mem_of_getElem? (i := 30) rfl))) (mvT hZ (hw _ (List.mem_of_getElem? (i := 31) rfl))) (by decide) (backOf (W := 1) (rm5 l Z a0 hw [] b80 v3 v7 b72 h80 n0 O A80 F_id_b80 F_version_b80 F_reason_b80 g_b80) hZ (hw _ (List.mem_of_getElem? (i := 31) rfl)) (hw _ (List.mem_of_getElem? (i := 28) rfl)) (by decide) (by decide)) (g := (mkF m 247 (own_F13 i1 i2 i3 i4 i5 i6 v3 v7 (0 : Int32) (2 : Int32) v14 v18 z_23 z_69 b70 b72 (0 : Int32) (0 : Int32) b78) [(.ref b72), (.int v7), (.int v3), (.ref b80), (.ref b80)])) rfl (by rw [hml]; rfl) (Steps.refl _) (a := b80) (argsL := [(.int v3), (.int v7), (.ref b72)]) (rest := [(.ref b80)]) (lenOf pd__40IILjava_47lang_47String_59_41V rfl) rfl (by show 2 * 0 + _ ≤ _; exact Nat.le_of_eq rfl) (hb hby at_247) (fun _ _ => ⟨rfl, e80, (by decide : 11 + 0 ≤ _), (by decide : 26 + 0 ≤ _)⟩)
      dsimp only [Pt.U, Pt.locs, Pt.cells, Pt.slots] at X81 l81 y81 z81 st81 hQ81
      subst l81 y81 z81
      obtain ⟨rfl, N81q, K81, F_i_a_c81, F_w_a_c81, F_r_a_c81⟩ := hQ81
      have N81 := Fr.app N79 N81q
      have R := CHr.keep K81 (allS sf_b80 all0) C.1
      have sf_b70 := R.safe A70.lt sf_b70
      have sf_b72 := R.safe Ex73.lt sf_b72
      have sf_b78 := R.safe A78.lt sf_b78
      have sf_b80 := R.safe A80.lt sf_b80
      have C := C.trans R
      have hk := Nat.le_trans hk K81.1
      have V_z_c23 := V_z_c23.keep K81 (ninS ne_z_23_b80 nin0)
      have V_z_c69 := V_z_c69.keep K81 (ninS ne_z_69_b80 nin0)
      have A70 := A70.keep K81
      have F_v_a_c71 := F_v_a_c71.keep K81 (ninS ne_b70_b80 nin0)
      have F_c_a_c71 := F_c_a_c71.keep K81 (ninS ne_b70_b80 nin0)
      have V_t_c71 := V_t_c71.keep K81 (ninS ne_t1_71_b80 nin0)
      have Ex73 := Ex73.keep K81
      have Fc73 := Fc73.keep K81 (ninS ne_b72_b80 nin0)
      have Fv73 := Fv73.keep K81 (ninS ne_b72_b80 nin0)
      have Av73 := Av73.keep K81 (ninS ne_t73_b80 nin0)
      have A78 := A78.keep K81
      have F_i_a_c79 := F_i_a_c79.keep K81 (ninS ne_b78_b80 nin0)
      have F_w_a_c79 := F_w_a_c79.keep K81 (ninS ne_b78_b80 nin0)
      have F_r_a_c79 := F_r_a_c79.keep K81 (ninS ne_b78_b80 nin0)
      have A80 := A80.keep K81
      have O := O.keep K81 (allS g_b80 all0)
      obtain ⟨cq82, kq82, q82a, q82b, q82c⟩ := isOf hZ rfl A78
      obtain ⟨_, _, ⟨T82, L82, k82, n82⟩, -, X82, ⟨Lc82, hQ82, l82, y82, z82⟩, st82⟩ := X81.virtualBack hx (y := (⟨"com/example/whirligig/whirligig/DownloadInfoIndication$Unreadable", "equals", "(Ljava/lang/Object;)Z"⟩ : MethodName)) (z := (⟨"com/example/whirligig/whirligig/DownloadInfoIndication$Unreadable", "equals", "(Ljava/lang/Object;)Z"⟩ : MethodName)) hown (mvT hZ (hw _ (List.mem_of_getElem? (i := 44) rfl))) (mvT hZ (hw _ (List.mem_of_getElem? (i := 45) rfl))) (notFace_of_selects (args := #[]) (mvT hZ (hw _ (List.mem_of_getElem? (i := 47) rfl)))) (mvT hZ (hw _ (List.mem_of_getElem? (i := 47) rfl))) (mvT hZ (hw _ (List.mem_of_getElem? (i := 46) rfl))) (by decide) (backOf (W := 0) (rm7 l Z a0 hw [] b78 b80 i1 v3 i3 v7 b70 b72 t1_71 t73 kb_71 kb73 ([] : List Int32) ([c1_69, d1_69] : List Int32) zc T81.heap n0 O A80 F_i_a_c79 F_i_a_c81 F_w_a_c79 F_w_a_c81 F_r_a_c79 F_r_a_c81 A70 F_v_a_c71 F_c_a_c71 V_t_c71 Ex73 Fv73 Fc73 Av73 own_hp0 (Nat.zero_le _) hp_b72 (Nat.le_trans h9_b72.2 (by decide)) SC hzc) hZ (hw _ (List.mem_of_getElem? (i := 48) rfl)) (hw _ (List.mem_of_getElem? (i := 28) rfl)) (by decide) (by decide)) q82a q82c (g := (mkF m 264 (own_F16 i1 i2 i3 i4 i5 i6 v3 v7 (0 : Int32) (2 : Int32) v14 v18 z_23 z_69 b70 b72 (0 : Int32) (0 : Int32) b78 b80 b80 b78) [(.ref b80), (.ref b78)])) rfl (by rw [hml]; rfl) (Steps.refl _) (argsL := [(.ref b80)]) (rest := []) (lenOf pd__40Ljava_47lang_47Object_59_41Z rfl) rfl (by show 2 * 0 + _ ≤ _; exact Nat.le_of_eq rfl) (hb hby at_264) (fun _ _ => ⟨rfl, rfl, (by decide : 11 + 0 ≤ _), (by decide : 26 + 0 ≤ _)⟩)
      dsimp only [Pt.U, Pt.locs, Pt.cells, Pt.slots] at X82 l82 y82 z82 st82 hQ82
      subst l82 y82 z82
      obtain ⟨rfl, N82q, eh82⟩ := hQ82
      have N82 := Fr.app N81 N82q
      obtain ⟨cq83, kq83, q83a, q83b, q83c⟩ := isOf hZ eh82 A80
      obtain ⟨_, _, ⟨T83, L83, k83, n83⟩, -, X83, ⟨Lc83, hQ83, l83, y83, z83⟩, st83⟩ := X82.virtualBack hx (y := (⟨"com/example/whirligig/whirligig/DownloadInfoIndication$Unreadable", "equals", "(Ljava/lang/Object;)Z"⟩ : MethodName)) (z := (⟨"com/example/whirligig/whirligig/DownloadInfoIndication$Unreadable", "equals", "(Ljava/lang/Object;)Z"⟩ : MethodName)) hown (mvT hZ (hw _ (List.mem_of_getElem? (i := 44) rfl))) (mvT hZ (hw _ (List.mem_of_getElem? (i := 45) rfl))) (notFace_of_selects (args := #[]) (mvT hZ (hw _ (List.mem_of_getElem? (i := 47) rfl)))) (mvT hZ (hw _ (List.mem_of_getElem? (i := 47) rfl))) (mvT hZ (hw _ (List.mem_of_getElem? (i := 46) rfl))) (by decide) (backOf (W := 0) (rm7 l Z a0 hw [] b80 b78 v3 i1 v7 i3 b72 b70 t73 t1_71 kb73 kb_71 ([c1_69, d1_69] : List Int32) ([] : List Int32) zc T81.heap n0 O A78 F_i_a_c81 F_i_a_c79 F_w_a_c81 F_w_a_c79 F_r_a_c81 F_r_a_c79 Ex73 Fv73 Fc73 Av73 A70 F_v_a_c71 F_c_a_c71 V_t_c71 hp_b72 (Nat.le_trans h9_b72.2 (by decide)) own_hp0 (Nat.zero_le _) SC hzc) hZ (hw _ (List.mem_of_getElem? (i := 48) rfl)) (hw _ (List.mem_of_getElem? (i := 28) rfl)) (by decide) (by decide)) q83a q83c (g := (mkF m 276 (own_F16 i1 i2 i3 i4 i5 i6 v3 v7 (0 : Int32) (2 : Int32) v14 v18 z_23 z_69 b70 b72 (0 : Int32) (0 : Int32) b78 b80 b80 b78) [(.ref b78), (.ref b80)])) rfl (by rw [hml]; rfl) (Steps.refl _) (argsL := [(.ref b78)]) (rest := []) (lenOf pd__40Ljava_47lang_47Object_59_41Z rfl) rfl (by show 2 * 0 + _ ≤ _; exact Nat.le_of_eq rfl) (hb hby at_276) (fun _ _ => ⟨rfl, eh82, (by decide : 11 + 0 ≤ _), (by decide : 26 + 0 ≤ _)⟩)
      dsimp only [Pt.U, Pt.locs, Pt.cells, Pt.slots] at X83 l83 y83 z83 st83 hQ83
      subst l83 y83 z83
      obtain ⟨rfl, N83q, eh83⟩ := hQ83
      have N83 := Fr.app N82 N83q
      obtain ⟨cq84, kq84, q84a, q84b, q84c⟩ := isOf hZ eh83 A78
      obtain ⟨_, _, ⟨T84, L84, k84, n84⟩, -, X84, ⟨Lc84, hQ84, l84, y84, z84⟩, st84⟩ := X83.virtualBack hx (y := (⟨"com/example/whirligig/whirligig/DownloadInfoIndication$Unreadable", "equals", "(Ljava/lang/Object;)Z"⟩ : MethodName)) (z := (⟨"com/example/whirligig/whirligig/DownloadInfoIndication$Unreadable", "equals", "(Ljava/lang/Object;)Z"⟩ : MethodName)) hown (mvT hZ (hw _ (List.mem_of_getElem? (i := 44) rfl))) (mvT hZ (hw _ (List.mem_of_getElem? (i := 45) rfl))) (notFace_of_selects (args := #[]) (mvT hZ (hw _ (List.mem_of_getElem? (i := 47) rfl)))) (mvT hZ (hw _ (List.mem_of_getElem? (i := 47) rfl))) (mvT hZ (hw _ (List.mem_of_getElem? (i := 46) rfl))) (by decide) (backOf (W := 0) (rm7 l Z a0 hw [] b78 b78 i1 i1 i3 i3 b70 b70 t1_71 t1_71 kb_71 kb_71 ([] : List Int32) ([] : List Int32) zc T81.heap n0 O A78 F_i_a_c79 F_i_a_c79 F_w_a_c79 F_w_a_c79 F_r_a_c79 F_r_a_c79 A70 F_v_a_c71 F_c_a_c71 V_t_c71 A70 F_v_a_c71 F_c_a_c71 V_t_c71 own_hp0 (Nat.zero_le _) own_hp0 (Nat.zero_le _) SC hzc) hZ (hw _ (List.mem_of_getElem? (i := 48) rfl)) (hw _ (List.mem_of_getElem? (i := 28) rfl)) (by decide) (by decide)) q84a q84c (g := (mkF m 288 (own_F16 i1 i2 i3 i4 i5 i6 v3 v7 (0 : Int32) (2 : Int32) v14 v18 z_23 z_69 b70 b72 (0 : Int32) (0 : Int32) b78 b80 b80 b78) [(.ref b78), (.ref b78)])) rfl (by rw [hml]; rfl) (Steps.refl _) (argsL := [(.ref b78)]) (rest := []) (lenOf pd__40Ljava_47lang_47Object_59_41Z rfl) rfl (by show 2 * 0 + _ ≤ _; exact Nat.le_of_eq rfl) (hb hby at_288) (fun _ _ => ⟨rfl, eh83, (by decide : 11 + 0 ≤ _), (by decide : 26 + 0 ≤ _)⟩)
      dsimp only [Pt.U, Pt.locs, Pt.cells, Pt.slots] at X84 l84 y84 z84 st84 hQ84
      subst l84 y84 z84
      obtain ⟨rfl, N84q, eh84⟩ := hQ84
      have N84 := Fr.app N83 N84q
      obtain ⟨cq85, kq85, q85a, q85b, q85c⟩ := isOf hZ eh84 A78
      obtain ⟨_, _, ⟨T85, L85, k85, n85⟩, -, X85, ⟨Lc85, hQ85, l85, y85, z85⟩, st85⟩ := X84.virtualBack hx (y := (⟨"com/example/whirligig/whirligig/DownloadInfoIndication$Unreadable", "equals", "(Ljava/lang/Object;)Z"⟩ : MethodName)) (z := (⟨"com/example/whirligig/whirligig/DownloadInfoIndication$Unreadable", "equals", "(Ljava/lang/Object;)Z"⟩ : MethodName)) hown (mvT hZ (hw _ (List.mem_of_getElem? (i := 44) rfl))) (mvT hZ (hw _ (List.mem_of_getElem? (i := 45) rfl))) (notFace_of_selects (args := #[]) (mvT hZ (hw _ (List.mem_of_getElem? (i := 47) rfl)))) (mvT hZ (hw _ (List.mem_of_getElem? (i := 47) rfl))) (mvT hZ (hw _ (List.mem_of_getElem? (i := 46) rfl))) (by decide) (backOf (W := 0) (rm7_n l Z a0 hw [] b78 T81.heap n0 O ) hZ (hw _ (List.mem_of_getElem? (i := 48) rfl)) (hw _ (List.mem_of_getElem? (i := 28) rfl)) (by decide) (by decide)) q85a q85c (g := (mkF m 297 (own_F16 i1 i2 i3 i4 i5 i6 v3 v7 (0 : Int32) (2 : Int32) v14 v18 z_23 z_69 b70 b72 (0 : Int32) (0 : Int32) b78 b80 b80 b78) [.null, (.ref b78)])) rfl (by rw [hml]; rfl) (Steps.refl _) (argsL := [.null]) (rest := []) (lenOf pd__40Ljava_47lang_47Object_59_41Z rfl) rfl (by show 2 * 0 + _ ≤ _; exact Nat.le_of_eq rfl) (hb hby at_297) (fun _ _ => ⟨rfl, eh84, (by decide : 11 + 0 ≤ _), (by decide : 26 + 0 ≤ _)⟩)
      dsimp only [Pt.U, Pt.locs, Pt.cells, Pt.slots] at X85 l85 y85 z85 st85 hQ85
      subst l85 y85 z85
      obtain ⟨rfl, N85q, eh85⟩ := hQ85
      have N85 := Fr.app N84 N85q
      obtain ⟨cq86, kq86, q86a, q86b, q86c⟩ := isOf hZ eh85 A78
      obtain ⟨_, _, ⟨T86, L86, k86, n86⟩, -, X86, ⟨Lc86, hQ86, l86, y86, z86⟩, st86⟩ := X85.virtualBack hx (y := (⟨"com/example/whirligig/whirligig/DownloadInfoIndication$Unreadable", "equals", "(Ljava/lang/Object;)Z"⟩ : MethodName)) (z := (⟨"com/example/whirligig/whirligig/DownloadInfoIndication$Unreadable", "equals", "(Ljava/lang/Object;)Z"⟩ : MethodName)) hown (mvT hZ (hw _ (List.mem_of_getElem? (i := 44) rfl))) (mvT hZ (hw _ (List.mem_of_getElem? (i := 45) rfl))) (notFace_of_selects (args := #[]) (mvT hZ (hw _ (List.mem_of_getElem? (i := 47) rfl)))) (mvT hZ (hw _ (List.mem_of_getElem? (i := 47) rfl))) (mvT hZ (hw _ (List.mem_of_getElem? (i := 46) rfl))) (by decide) (backOf (W := 0) (rm7_S l Z a0 hw [] b78 b70 T81.heap n0 O A70) hZ (hw _ (List.mem_of_getElem? (i := 48) rfl)) (hw _ (List.mem_of_getElem? (i := 28) rfl)) (by decide) (by decide)) q86a q86c (g := (mkF m 307 (own_F16 i1 i2 i3 i4 i5 i6 v3 v7 (0 : Int32) (2 : Int32) v14 v18 z_23 z_69 b70 b72 (0 : Int32) (0 : Int32) b78 b80 b80 b78) [(.ref b70), (.ref b78)])) rfl (by rw [hml]; rfl) (Steps.refl _) (argsL := [(.ref b70)]) (rest := []) (lenOf pd__40Ljava_47lang_47Object_59_41Z rfl) rfl (by show 2 * 0 + _ ≤ _; exact Nat.le_of_eq rfl) (hb hby at_307) (fun _ _ => ⟨rfl, eh85, (by decide : 11 + 0 ≤ _), (by decide : 26 + 0 ≤ _)⟩)
      dsimp only [Pt.U, Pt.locs, Pt.cells, Pt.slots] at X86 l86 y86 z86 st86 hQ86
      subst l86 y86 z86
      obtain ⟨rfl, N86q, eh86⟩ := hQ86
      have N86 := Fr.app N85 N86q
      obtain ⟨_, _, ⟨T87, L87, k87, n87⟩, -, X87, ⟨Lc87, hQ87, l87, y87, z87⟩, st87⟩ := Jvm.LawKit.callS X86 hx (y := (⟨"java/lang/Integer", "valueOf", "(I)Ljava/lang/Integer;"⟩ : MethodName)) hown (mvT hZ (hw _ (List.mem_of_getElem? (i := 64) rfl))) (mvT hZ (hw _ (List.mem_of_getElem? (i := 65) rfl))) (mvT hZ (hw _ (List.mem_of_getElem? (i := 66) rfl))) (mvT hZ (hw _ (List.mem_of_getElem? (i := 67) rfl))) (by decide) (backOf (W := 1) (rm10 l Z a0 hw [] i1 cl_s_cacheI s_cacheI T81.heap n0 O S_s_cacheI S_high BI) hZ (hw _ (List.mem_of_getElem? (i := 67) rfl)) (hw _ (List.mem_of_getElem? (i := 66) rfl)) (by decide) (by decide)) (g := (mkF m 316 (own_F16 i1 i2 i3 i4 i5 i6 v3 v7 (0 : Int32) (2 : Int32) v14 v18 z_23 z_69 b70 b72 (0 : Int32) (0 : Int32) b78 b80 b80 b78) [(.int i1), (.ref b78)])) rfl (by rw [hml]; rfl) (argsL := [(.int i1)]) (rest := [(.ref b78)]) (lenOf pd__40I_41Ljava_47lang_47Integer_59 rfl) rfl (by show 2 * 0 + _ ≤ _; exact Nat.le_of_eq rfl) (hb hby at_316) (fun _ _ => ⟨rfl, eh86, (by decide : 11 + 1 ≤ _), (by decide : 26 + 1 ≤ _)⟩)
      dsimp only [Pt.U, Pt.locs, Pt.cells, Pt.slots] at X87 l87 y87 z87 st87 hQ87
      subst l87 y87 z87
      obtain ⟨z_87, rfl, N87q, K87, E_z_c87⟩ := hQ87
      have N87 := Fr.app N86 N87q
      have R := CHr.keep K87 all0 C.1
      have sf_b70 := R.safe A70.lt sf_b70
      have sf_b72 := R.safe Ex73.lt sf_b72
      have sf_b78 := R.safe A78.lt sf_b78
      have sf_b80 := R.safe A80.lt sf_b80
      have C := C.trans R
      have hk := Nat.le_trans hk K87.1
      have V_z_c23 := V_z_c23.keep K87 nin0
      have V_z_c69 := V_z_c69.keep K87 nin0
      have A70 := A70.keep K87
      have F_v_a_c71 := F_v_a_c71.keep K87 nin0
      have F_c_a_c71 := F_c_a_c71.keep K87 nin0
      have V_t_c71 := V_t_c71.keep K87 nin0
      have Ex73 := Ex73.keep K87
      have Fc73 := Fc73.keep K87 nin0
      have Fv73 := Fv73.keep K87 nin0
      have Av73 := Av73.keep K87 nin0
      have A78 := A78.keep K87
      have F_i_a_c79 := F_i_a_c79.keep K87 nin0
      have F_w_a_c79 := F_w_a_c79.keep K87 nin0
      have F_r_a_c79 := F_r_a_c79.keep K87 nin0
      have A80 := A80.keep K87
      have F_i_a_c81 := F_i_a_c81.keep K87 nin0
      have F_w_a_c81 := F_w_a_c81.keep K87 nin0
      have F_r_a_c81 := F_r_a_c81.keep K87 nin0
      have O := O.keep K87 all0
      obtain ⟨cq88, kq88, q88a, q88b, q88c⟩ := isOf hZ rfl A78
      obtain ⟨_, _, ⟨T88, L88, k88, n88⟩, -, X88, ⟨Lc88, hQ88, l88, y88, z88⟩, st88⟩ := X87.virtualBack hx (y := (⟨"com/example/whirligig/whirligig/DownloadInfoIndication$Unreadable", "equals", "(Ljava/lang/Object;)Z"⟩ : MethodName)) (z := (⟨"com/example/whirligig/whirligig/DownloadInfoIndication$Unreadable", "equals", "(Ljava/lang/Object;)Z"⟩ : MethodName)) hown (mvT hZ (hw _ (List.mem_of_getElem? (i := 44) rfl))) (mvT hZ (hw _ (List.mem_of_getElem? (i := 45) rfl))) (notFace_of_selects (args := #[]) (mvT hZ (hw _ (List.mem_of_getElem? (i := 47) rfl)))) (mvT hZ (hw _ (List.mem_of_getElem? (i := 47) rfl))) (mvT hZ (hw _ (List.mem_of_getElem? (i := 46) rfl))) (by decide) (backOf (W := 0) (rm7_I l Z a0 hw [] b78 z_87 T87.heap n0 O E_z_c87) hZ (hw _ (List.mem_of_getElem? (i := 48) rfl)) (hw _ (List.mem_of_getElem? (i := 28) rfl)) (by decide) (by decide)) q88a q88c (g := (mkF m 319 (own_F16 i1 i2 i3 i4 i5 i6 v3 v7 (0 : Int32) (2 : Int32) v14 v18 z_23 z_69 b70 b72 (0 : Int32) (0 : Int32) b78 b80 b80 b78) [(.ref z_87), (.ref b78)])) rfl (by rw [hml]; rfl) (Steps.refl _) (argsL := [(.ref z_87)]) (rest := []) (lenOf pd__40Ljava_47lang_47Object_59_41Z rfl) rfl (by show 2 * 0 + _ ≤ _; exact Nat.le_of_eq rfl) (hb hby at_319) (fun _ _ => ⟨rfl, rfl, (by decide : 12 + 0 ≤ _), (by decide : 27 + 0 ≤ _)⟩)
      dsimp only [Pt.U, Pt.locs, Pt.cells, Pt.slots] at X88 l88 y88 z88 st88 hQ88
      subst l88 y88 z88
      obtain ⟨rfl, N88q, eh88⟩ := hQ88
      have N88 := Fr.app N87 N88q
      have w89 : ∀ t, Steps p.tables e below (T88.setTop (mkF m 330 (own_F16 i1 i2 i3 i4 i5 i6 v3 v7 (0 : Int32) (2 : Int32) v14 v18 z_23 z_69 b70 b72 (0 : Int32) (0 : Int32) b78 b80 b80 b78) [(.int (1 : Int32))])) t → Steps p.tables e below (s₁.setTop (entryFrame m #[(.int i1), (.int i2), (.int i3), (.int i4), (.int i5), (.int i6)] maxLocals)) t := fun t k => by
        refine w77 t ?_
        refine XS.istore X73.here hx rfl (hb hby at_222) rfl (l' := (own_F12 i1 i2 i3 i4 i5 i6 v3 v7 (0 : Int32) (2 : Int32) v14 v18 z_23 z_69 b70 b72 (0 : Int32) (0 : Int32))) rfl ?_
        show Steps p.tables e below (T73.setTop (mkF m 224 (own_F12 i1 i2 i3 i4 i5 i6 v3 v7 (0 : Int32) (2 : Int32) v14 v18 z_23 z_69 b70 b72 (0 : Int32) (0 : Int32)) [])) _
        refine st78 _ ?_
        show Steps p.tables e below (T78.setTop (mkF m 227 (own_F12 i1 i2 i3 i4 i5 i6 v3 v7 (0 : Int32) (2 : Int32) v14 v18 z_23 z_69 b70 b72 (0 : Int32) (0 : Int32)) [(.ref b78)])) _
        refine XS.dup X78.here hx rfl (hb hby at_227) rfl rfl ?_
        show Steps p.tables e below (T78.setTop (mkF m 228 (own_F12 i1 i2 i3 i4 i5 i6 v3 v7 (0 : Int32) (2 : Int32) v14 v18 z_23 z_69 b70 b72 (0 : Int32) (0 : Int32)) [(.ref b78), (.ref b78)])) _
        refine XS.iloadN X78.here hx rfl (hb hby at_228) rfl ?_
        show Steps p.tables e below (T78.setTop (mkF m 229 (own_F12 i1 i2 i3 i4 i5 i6 v3 v7 (0 : Int32) (2 : Int32) v14 v18 z_23 z_69 b70 b72 (0 : Int32) (0 : Int32)) [(.int i1), (.ref b78), (.ref b78)])) _
        refine XS.iloadN X78.here hx rfl (hb hby at_229) rfl ?_
        show Steps p.tables e below (T78.setTop (mkF m 230 (own_F12 i1 i2 i3 i4 i5 i6 v3 v7 (0 : Int32) (2 : Int32) v14 v18 z_23 z_69 b70 b72 (0 : Int32) (0 : Int32)) [(.int i3), (.int i1), (.ref b78), (.ref b78)])) _
        refine XS.aload X78.here hx rfl (hb hby at_230) rfl rfl ?_
        show Steps p.tables e below (T78.setTop (mkF m 232 (own_F12 i1 i2 i3 i4 i5 i6 v3 v7 (0 : Int32) (2 : Int32) v14 v18 z_23 z_69 b70 b72 (0 : Int32) (0 : Int32)) [(.ref b70), (.int i3), (.int i1), (.ref b78), (.ref b78)])) _
        refine st79.trans ?_
        show Steps p.tables e below (T79.setTop (mkF m 235 (own_F12 i1 i2 i3 i4 i5 i6 v3 v7 (0 : Int32) (2 : Int32) v14 v18 z_23 z_69 b70 b72 (0 : Int32) (0 : Int32)) [(.ref b78)])) _
        refine XS.astore X79.here hx rfl (hb hby at_235) rfl rfl (l' := (own_F13 i1 i2 i3 i4 i5 i6 v3 v7 (0 : Int32) (2 : Int32) v14 v18 z_23 z_69 b70 b72 (0 : Int32) (0 : Int32) b78)) rfl ?_
        show Steps p.tables e below (T79.setTop (mkF m 237 (own_F13 i1 i2 i3 i4 i5 i6 v3 v7 (0 : Int32) (2 : Int32) v14 v18 z_23 z_69 b70 b72 (0 : Int32) (0 : Int32) b78) [])) _
        refine st80 _ ?_
        show Steps p.tables e below (T80.setTop (mkF m 240 (own_F13 i1 i2 i3 i4 i5 i6 v3 v7 (0 : Int32) (2 : Int32) v14 v18 z_23 z_69 b70 b72 (0 : Int32) (0 : Int32) b78) [(.ref b80)])) _
        refine XS.dup X80.here hx rfl (hb hby at_240) rfl rfl ?_
        show Steps p.tables e below (T80.setTop (mkF m 241 (own_F13 i1 i2 i3 i4 i5 i6 v3 v7 (0 : Int32) (2 : Int32) v14 v18 z_23 z_69 b70 b72 (0 : Int32) (0 : Int32) b78) [(.ref b80), (.ref b80)])) _
        refine XS.iload X80.here hx rfl (hb hby at_241) rfl ?_
        show Steps p.tables e below (T80.setTop (mkF m 243 (own_F13 i1 i2 i3 i4 i5 i6 v3 v7 (0 : Int32) (2 : Int32) v14 v18 z_23 z_69 b70 b72 (0 : Int32) (0 : Int32) b78) [(.int v3), (.ref b80), (.ref b80)])) _
        refine XS.iload X80.here hx rfl (hb hby at_243) rfl ?_
        show Steps p.tables e below (T80.setTop (mkF m 245 (own_F13 i1 i2 i3 i4 i5 i6 v3 v7 (0 : Int32) (2 : Int32) v14 v18 z_23 z_69 b70 b72 (0 : Int32) (0 : Int32) b78) [(.int v7), (.int v3), (.ref b80), (.ref b80)])) _
        refine XS.aload X80.here hx rfl (hb hby at_245) rfl rfl ?_
        show Steps p.tables e below (T80.setTop (mkF m 247 (own_F13 i1 i2 i3 i4 i5 i6 v3 v7 (0 : Int32) (2 : Int32) v14 v18 z_23 z_69 b70 b72 (0 : Int32) (0 : Int32) b78) [(.ref b72), (.int v7), (.int v3), (.ref b80), (.ref b80)])) _
        refine st81.trans ?_
        show Steps p.tables e below (T81.setTop (mkF m 250 (own_F13 i1 i2 i3 i4 i5 i6 v3 v7 (0 : Int32) (2 : Int32) v14 v18 z_23 z_69 b70 b72 (0 : Int32) (0 : Int32) b78) [(.ref b80)])) _
        refine XS.astore X81.here hx rfl (hb hby at_250) rfl rfl (l' := (own_F14 i1 i2 i3 i4 i5 i6 v3 v7 (0 : Int32) (2 : Int32) v14 v18 z_23 z_69 b70 b72 (0 : Int32) (0 : Int32) b78 b80)) rfl ?_
        show Steps p.tables e below (T81.setTop (mkF m 252 (own_F14 i1 i2 i3 i4 i5 i6 v3 v7 (0 : Int32) (2 : Int32) v14 v18 z_23 z_69 b70 b72 (0 : Int32) (0 : Int32) b78 b80) [])) _
        refine XS.aload X81.here hx rfl (hb hby at_252) rfl rfl ?_
        show Steps p.tables e below (T81.setTop (mkF m 254 (own_F14 i1 i2 i3 i4 i5 i6 v3 v7 (0 : Int32) (2 : Int32) v14 v18 z_23 z_69 b70 b72 (0 : Int32) (0 : Int32) b78 b80) [(.ref b80)])) _
        refine XS.astore X81.here hx rfl (hb hby at_254) rfl rfl (l' := (own_F15 i1 i2 i3 i4 i5 i6 v3 v7 (0 : Int32) (2 : Int32) v14 v18 z_23 z_69 b70 b72 (0 : Int32) (0 : Int32) b78 b80 b80)) rfl ?_
        show Steps p.tables e below (T81.setTop (mkF m 256 (own_F15 i1 i2 i3 i4 i5 i6 v3 v7 (0 : Int32) (2 : Int32) v14 v18 z_23 z_69 b70 b72 (0 : Int32) (0 : Int32) b78 b80 b80) [])) _
        refine XS.aload X81.here hx rfl (hb hby at_256) rfl rfl ?_
        show Steps p.tables e below (T81.setTop (mkF m 258 (own_F15 i1 i2 i3 i4 i5 i6 v3 v7 (0 : Int32) (2 : Int32) v14 v18 z_23 z_69 b70 b72 (0 : Int32) (0 : Int32) b78 b80 b80) [(.ref b78)])) _
        refine XS.astore X81.here hx rfl (hb hby at_258) rfl rfl (l' := (own_F16 i1 i2 i3 i4 i5 i6 v3 v7 (0 : Int32) (2 : Int32) v14 v18 z_23 z_69 b70 b72 (0 : Int32) (0 : Int32) b78 b80 b80 b78)) rfl ?_
        show Steps p.tables e below (T81.setTop (mkF m 260 (own_F16 i1 i2 i3 i4 i5 i6 v3 v7 (0 : Int32) (2 : Int32) v14 v18 z_23 z_69 b70 b72 (0 : Int32) (0 : Int32) b78 b80 b80 b78) [])) _
        refine XS.aload X81.here hx rfl (hb hby at_260) rfl rfl ?_
        show Steps p.tables e below (T81.setTop (mkF m 262 (own_F16 i1 i2 i3 i4 i5 i6 v3 v7 (0 : Int32) (2 : Int32) v14 v18 z_23 z_69 b70 b72 (0 : Int32) (0 : Int32) b78 b80 b80 b78) [(.ref b78)])) _
        refine XS.aload X81.here hx rfl (hb hby at_262) rfl rfl ?_
        show Steps p.tables e below (T81.setTop (mkF m 264 (own_F16 i1 i2 i3 i4 i5 i6 v3 v7 (0 : Int32) (2 : Int32) v14 v18 z_23 z_69 b70 b72 (0 : Int32) (0 : Int32) b78 b80 b80 b78) [(.ref b80), (.ref b78)])) _
        refine st82.trans ?_
        show Steps p.tables e below (T82.setTop (mkF m 267 (own_F16 i1 i2 i3 i4 i5 i6 v3 v7 (0 : Int32) (2 : Int32) v14 v18 z_23 z_69 b70 b72 (0 : Int32) (0 : Int32) b78 b80 b80 b78) [(.int (own_e i1 v3 i3 v7 ([] : List Int32) ([c1_69, d1_69] : List Int32)))])) _
        refine XS.iload X82.here hx rfl (hb hby at_267) rfl ?_
        show Steps p.tables e below (T82.setTop (mkF m 269 (own_F16 i1 i2 i3 i4 i5 i6 v3 v7 (0 : Int32) (2 : Int32) v14 v18 z_23 z_69 b70 b72 (0 : Int32) (0 : Int32) b78 b80 b80 b78) [(.int (0 : Int32)), (.int (own_e i1 v3 i3 v7 ([] : List Int32) ([c1_69, d1_69] : List Int32)))])) _
        refine XS.icmpNo X82.here hx rfl (hb hby at_269) rfl (teq (own_e0 _ _ _ _ (fun e => nomatch e) : (own_e i1 v3 i3 v7 ([] : List Int32) ([c1_69, d1_69] : List Int32)) = (0 : Int32))).2 ?_
        show Steps p.tables e below (T82.setTop (mkF m 272 (own_F16 i1 i2 i3 i4 i5 i6 v3 v7 (0 : Int32) (2 : Int32) v14 v18 z_23 z_69 b70 b72 (0 : Int32) (0 : Int32) b78 b80 b80 b78) [])) _
        refine XS.aload X82.here hx rfl (hb hby at_272) rfl rfl ?_
        show Steps p.tables e below (T82.setTop (mkF m 274 (own_F16 i1 i2 i3 i4 i5 i6 v3 v7 (0 : Int32) (2 : Int32) v14 v18 z_23 z_69 b70 b72 (0 : Int32) (0 : Int32) b78 b80 b80 b78) [(.ref b80)])) _
        refine XS.aload X82.here hx rfl (hb hby at_274) rfl rfl ?_
        show Steps p.tables e below (T82.setTop (mkF m 276 (own_F16 i1 i2 i3 i4 i5 i6 v3 v7 (0 : Int32) (2 : Int32) v14 v18 z_23 z_69 b70 b72 (0 : Int32) (0 : Int32) b78 b80 b80 b78) [(.ref b78), (.ref b80)])) _
        refine st83.trans ?_
        show Steps p.tables e below (T83.setTop (mkF m 279 (own_F16 i1 i2 i3 i4 i5 i6 v3 v7 (0 : Int32) (2 : Int32) v14 v18 z_23 z_69 b70 b72 (0 : Int32) (0 : Int32) b78 b80 b80 b78) [(.int (own_e v3 i1 v7 i3 ([c1_69, d1_69] : List Int32) ([] : List Int32)))])) _
        refine XS.iload X83.here hx rfl (hb hby at_279) rfl ?_
        show Steps p.tables e below (T83.setTop (mkF m 281 (own_F16 i1 i2 i3 i4 i5 i6 v3 v7 (0 : Int32) (2 : Int32) v14 v18 z_23 z_69 b70 b72 (0 : Int32) (0 : Int32) b78 b80 b80 b78) [(.int (0 : Int32)), (.int (own_e v3 i1 v7 i3 ([c1_69, d1_69] : List Int32) ([] : List Int32)))])) _
        refine XS.icmpNo X83.here hx rfl (hb hby at_281) rfl (teq ((own_sym _ _ _ _ _ _).trans (own_e0 _ _ _ _ (fun e => nomatch e)) : (own_e v3 i1 v7 i3 ([c1_69, d1_69] : List Int32) ([] : List Int32)) = (0 : Int32))).2 ?_
        show Steps p.tables e below (T83.setTop (mkF m 284 (own_F16 i1 i2 i3 i4 i5 i6 v3 v7 (0 : Int32) (2 : Int32) v14 v18 z_23 z_69 b70 b72 (0 : Int32) (0 : Int32) b78 b80 b80 b78) [])) _
        refine XS.aload X83.here hx rfl (hb hby at_284) rfl rfl ?_
        show Steps p.tables e below (T83.setTop (mkF m 286 (own_F16 i1 i2 i3 i4 i5 i6 v3 v7 (0 : Int32) (2 : Int32) v14 v18 z_23 z_69 b70 b72 (0 : Int32) (0 : Int32) b78 b80 b80 b78) [(.ref b78)])) _
        refine XS.aload X83.here hx rfl (hb hby at_286) rfl rfl ?_
        show Steps p.tables e below (T83.setTop (mkF m 288 (own_F16 i1 i2 i3 i4 i5 i6 v3 v7 (0 : Int32) (2 : Int32) v14 v18 z_23 z_69 b70 b72 (0 : Int32) (0 : Int32) b78 b80 b80 b78) [(.ref b78), (.ref b78)])) _
        refine st84.trans ?_
        show Steps p.tables e below (T84.setTop (mkF m 291 (own_F16 i1 i2 i3 i4 i5 i6 v3 v7 (0 : Int32) (2 : Int32) v14 v18 z_23 z_69 b70 b72 (0 : Int32) (0 : Int32) b78 b80 b80 b78) [(.int (own_e i1 i1 i3 i3 ([] : List Int32) ([] : List Int32)))])) _
        refine XS.ifNo X84.here hx rfl (hb hby at_291) rfl ((if0 _ _).trans (feq (own_rfl _ _ _ : ¬ ((own_e i1 i1 i3 i3 ([] : List Int32) ([] : List Int32)) = (0 : Int32)))).1) ?_
        show Steps p.tables e below (T84.setTop (mkF m 294 (own_F16 i1 i2 i3 i4 i5 i6 v3 v7 (0 : Int32) (2 : Int32) v14 v18 z_23 z_69 b70 b72 (0 : Int32) (0 : Int32) b78 b80 b80 b78) [])) _
        refine XS.aload X84.here hx rfl (hb hby at_294) rfl rfl ?_
        show Steps p.tables e below (T84.setTop (mkF m 296 (own_F16 i1 i2 i3 i4 i5 i6 v3 v7 (0 : Int32) (2 : Int32) v14 v18 z_23 z_69 b70 b72 (0 : Int32) (0 : Int32) b78 b80 b80 b78) [(.ref b78)])) _
        refine XS.aconstNull X84.here hx rfl (hb hby at_296) ?_
        show Steps p.tables e below (T84.setTop (mkF m 297 (own_F16 i1 i2 i3 i4 i5 i6 v3 v7 (0 : Int32) (2 : Int32) v14 v18 z_23 z_69 b70 b72 (0 : Int32) (0 : Int32) b78 b80 b80 b78) [.null, (.ref b78)])) _
        refine st85.trans ?_
        show Steps p.tables e below (T85.setTop (mkF m 300 (own_F16 i1 i2 i3 i4 i5 i6 v3 v7 (0 : Int32) (2 : Int32) v14 v18 z_23 z_69 b70 b72 (0 : Int32) (0 : Int32) b78 b80 b80 b78) [(.int (0 : Int32))])) _
        refine XS.ifNo X85.here hx rfl (hb hby at_300) rfl ((if0 _ _).trans (teq (rfl : (0 : Int32) = (0 : Int32))).2) ?_
        show Steps p.tables e below (T85.setTop (mkF m 303 (own_F16 i1 i2 i3 i4 i5 i6 v3 v7 (0 : Int32) (2 : Int32) v14 v18 z_23 z_69 b70 b72 (0 : Int32) (0 : Int32) b78 b80 b80 b78) [])) _
        refine XS.aload X85.here hx rfl (hb hby at_303) rfl rfl ?_
        show Steps p.tables e below (T85.setTop (mkF m 305 (own_F16 i1 i2 i3 i4 i5 i6 v3 v7 (0 : Int32) (2 : Int32) v14 v18 z_23 z_69 b70 b72 (0 : Int32) (0 : Int32) b78 b80 b80 b78) [(.ref b78)])) _
        refine XS.aload X85.here hx rfl (hb hby at_305) rfl rfl ?_
        show Steps p.tables e below (T85.setTop (mkF m 307 (own_F16 i1 i2 i3 i4 i5 i6 v3 v7 (0 : Int32) (2 : Int32) v14 v18 z_23 z_69 b70 b72 (0 : Int32) (0 : Int32) b78 b80 b80 b78) [(.ref b70), (.ref b78)])) _
        refine st86.trans ?_
        show Steps p.tables e below (T86.setTop (mkF m 310 (own_F16 i1 i2 i3 i4 i5 i6 v3 v7 (0 : Int32) (2 : Int32) v14 v18 z_23 z_69 b70 b72 (0 : Int32) (0 : Int32) b78 b80 b80 b78) [(.int (0 : Int32))])) _
        refine XS.ifNo X86.here hx rfl (hb hby at_310) rfl ((if0 _ _).trans (teq (rfl : (0 : Int32) = (0 : Int32))).2) ?_
        show Steps p.tables e below (T86.setTop (mkF m 313 (own_F16 i1 i2 i3 i4 i5 i6 v3 v7 (0 : Int32) (2 : Int32) v14 v18 z_23 z_69 b70 b72 (0 : Int32) (0 : Int32) b78 b80 b80 b78) [])) _
        refine XS.aload X86.here hx rfl (hb hby at_313) rfl rfl ?_
        show Steps p.tables e below (T86.setTop (mkF m 315 (own_F16 i1 i2 i3 i4 i5 i6 v3 v7 (0 : Int32) (2 : Int32) v14 v18 z_23 z_69 b70 b72 (0 : Int32) (0 : Int32) b78 b80 b80 b78) [(.ref b78)])) _
        refine XS.iloadN X86.here hx rfl (hb hby at_315) rfl ?_
        show Steps p.tables e below (T86.setTop (mkF m 316 (own_F16 i1 i2 i3 i4 i5 i6 v3 v7 (0 : Int32) (2 : Int32) v14 v18 z_23 z_69 b70 b72 (0 : Int32) (0 : Int32) b78 b80 b80 b78) [(.int i1), (.ref b78)])) _
        refine st87 _ ?_
        show Steps p.tables e below (T87.setTop (mkF m 319 (own_F16 i1 i2 i3 i4 i5 i6 v3 v7 (0 : Int32) (2 : Int32) v14 v18 z_23 z_69 b70 b72 (0 : Int32) (0 : Int32) b78 b80 b80 b78) [(.ref z_87), (.ref b78)])) _
        refine st88.trans ?_
        show Steps p.tables e below (T88.setTop (mkF m 322 (own_F16 i1 i2 i3 i4 i5 i6 v3 v7 (0 : Int32) (2 : Int32) v14 v18 z_23 z_69 b70 b72 (0 : Int32) (0 : Int32) b78 b80 b80 b78) [(.int (0 : Int32))])) _
        refine XS.ifNo X88.here hx rfl (hb hby at_322) rfl ((if0 _ _).trans (teq (rfl : (0 : Int32) = (0 : Int32))).2) ?_
        show Steps p.tables e below (T88.setTop (mkF m 325 (own_F16 i1 i2 i3 i4 i5 i6 v3 v7 (0 : Int32) (2 : Int32) v14 v18 z_23 z_69 b70 b72 (0 : Int32) (0 : Int32) b78 b80 b80 b78) [])) _
        refine XS.iconst X88.here hx rfl (hb hby at_325) ?_
        show Steps p.tables e below (T88.setTop (mkF m 326 (own_F16 i1 i2 i3 i4 i5 i6 v3 v7 (0 : Int32) (2 : Int32) v14 v18 z_23 z_69 b70 b72 (0 : Int32) (0 : Int32) b78 b80 b80 b78) [(.int (1 : Int32))])) _
        refine XS.goto X88.here hx rfl (pc0 := 326) (pc' := 330) rfl (hb hby at_326) (by decide) (by decide) ?_
        show Steps p.tables e below (T88.setTop (mkF m 330 (own_F16 i1 i2 i3 i4 i5 i6 v3 v7 (0 : Int32) (2 : Int32) v14 v18 z_23 z_69 b70 b72 (0 : Int32) (0 : Int32) b78 b80 b80 b78) [(.int (1 : Int32))])) _
        exact k
      obtain ⟨fs, hr, hrun, hended, hE⟩ := Stand.leaveW (s := s) (vm₁ := T71.vm) X88 hS (by rw [eh88]; exact hk) (v := some (.int (1 : Int32))) (fun h => by rw [Bd.returns] at h; cases h)
      refine ⟨_, _, w89 _ ?_, hrun, hended, _, _, rfl, ?_, ?_, own_mono hE (by decide) (by decide)⟩
      · exact retN X88 hx (t := .boolean) Bd.returns (by simp) (hb hby at_330) hr
      · show Q0 Z i1 i2 i3 i4 i5 i6 cl_s_cacheI zc s_cacheI h0 n0 _ T88.heap _
        rw [eh88]
        exact ⟨rfl, N88⟩
      · rw [hh]; show CHr Z consts_1 s.vm h0 T88.vm T88.heap; rw [eh88]; exact C.trans (CHv.at X88 hZ hEL C.1)
  · rw [hk22] at w20
    obtain ⟨_, _, ⟨T90, L90, k90, n90⟩, -, X90, ⟨Lc90, hQ90, l90, y90, z90⟩, st90⟩ := Jvm.LawKit.callS X0 hx (y := (⟨"com/example/whirligig/whirligig/UnreadableEqualsPinLaw", "chars", "(III)[C"⟩ : MethodName)) hown (mvT hZ (hw _ (List.mem_of_getElem? (i := 0) rfl))) (mvT hZ (hw _ (List.mem_of_getElem? (i := 1) rfl))) (mvT hZ (hw _ (List.mem_of_getElem? (i := 2) rfl))) (mvT hZ (hw _ (List.mem_of_getElem? (i := 3) rfl))) (by decide) (backOf (W := 0) (rm1_1 l Z a0 hw [] i5 ((i5.toUInt32 >>> ((8 : Int32) &&& 31).toUInt32).toInt32) h0 n0 O ) hZ (hw _ (List.mem_of_getElem? (i := 3) rfl)) (hw _ (List.mem_of_getElem? (i := 2) rfl)) (by decide) (by decide)) (g := (mkF m 114 (own_F6 i1 i2 i3 i4 i5 i6 v3 v7 (1 : Int32) l2 v14 v18) [(.int ((i5.toUInt32 >>> ((8 : Int32) &&& 31).toUInt32).toInt32)), (.int i5), (.int (1 : Int32))])) rfl (by rw [hml]; rfl) (argsL := [(.int (1 : Int32)), (.int i5), (.int ((i5.toUInt32 >>> ((8 : Int32) &&& 31).toUInt32).toInt32))]) (rest := []) (lenOf pd__40III_41_91C rfl) rfl (by show 2 * 0 + _ ≤ _; exact Nat.le_of_eq rfl) (hb hby at_114) (fun _ _ => ⟨rfl, e0, (by decide : 0 + 1 ≤ _), (by decide : 0 + 1 ≤ _)⟩)
    dsimp only [Pt.U, Pt.locs, Pt.cells, Pt.slots] at X90 l90 y90 z90 st90 hQ90
    subst l90 y90 z90
    obtain ⟨z_90, kz_90, c1_90, rfl, N90q, K90, V_z_c90, gz_90, gn_90, bc_90⟩ := hQ90
    have N90 := Fr.app N0 N90q
    have R := CHr.keep K90 all0 C.1
    have C := C.trans R
    have hk := Nat.le_trans hk K90.1
    have g_z_90 := gn_90
    have O := O.keep K90 all0
    have w91 : ∀ t, Steps p.tables e below (T90.setTop (mkF m 119 (own_F7 i1 i2 i3 i4 i5 i6 v3 v7 (1 : Int32) l2 v14 v18 z_90) [])) t → Steps p.tables e below (s₁.setTop (entryFrame m #[(.int i1), (.int i2), (.int i3), (.int i4), (.int i5), (.int i6)] maxLocals)) t := fun t k => by
      refine w20 t ?_
      refine XS.iload X0.here hx rfl (hb hby at_105) rfl ?_
      show Steps p.tables e below (s₁.setTop (mkF m 107 (own_F6 i1 i2 i3 i4 i5 i6 v3 v7 (1 : Int32) l2 v14 v18) [(.int (1 : Int32))])) _
      refine XS.iload X0.here hx rfl (hb hby at_107) rfl ?_
      show Steps p.tables e below (s₁.setTop (mkF m 109 (own_F6 i1 i2 i3 i4 i5 i6 v3 v7 (1 : Int32) l2 v14 v18) [(.int i5), (.int (1 : Int32))])) _
      refine XS.iload X0.here hx rfl (hb hby at_109) rfl ?_
      show Steps p.tables e below (s₁.setTop (mkF m 111 (own_F6 i1 i2 i3 i4 i5 i6 v3 v7 (1 : Int32) l2 v14 v18) [(.int i5), (.int i5), (.int (1 : Int32))])) _
      refine XS.bipush X0.here hx rfl (hb hby at_111) ?_
      show Steps p.tables e below (s₁.setTop (mkF m 113 (own_F6 i1 i2 i3 i4 i5 i6 v3 v7 (1 : Int32) l2 v14 v18) [(.int (8 : Int32)), (.int i5), (.int i5), (.int (1 : Int32))])) _
      refine XS.iushr X0.here hx rfl (hb hby at_113) rfl ?_
      show Steps p.tables e below (s₁.setTop (mkF m 114 (own_F6 i1 i2 i3 i4 i5 i6 v3 v7 (1 : Int32) l2 v14 v18) [(.int ((i5.toUInt32 >>> ((8 : Int32) &&& 31).toUInt32).toInt32)), (.int i5), (.int (1 : Int32))])) _
      refine st90 _ ?_
      show Steps p.tables e below (T90.setTop (mkF m 117 (own_F6 i1 i2 i3 i4 i5 i6 v3 v7 (1 : Int32) l2 v14 v18) [(.ref z_90)])) _
      refine XS.astore X90.here hx rfl (hb hby at_117) rfl rfl (l' := (own_F7 i1 i2 i3 i4 i5 i6 v3 v7 (1 : Int32) l2 v14 v18 z_90)) rfl ?_
      show Steps p.tables e below (T90.setTop (mkF m 119 (own_F7 i1 i2 i3 i4 i5 i6 v3 v7 (1 : Int32) l2 v14 v18 z_90) [])) _
      exact k
    have mm92 : l2 = 0 ∨ l2 = 1 ∨ l2 = 2 := by rw [hl2]; split <;> first | exact own_m3 _ | exact mk8
    rcases mm92 with hk93 | hk93 | hk93
    · rw [hk93] at w91
      have lt94_z_90 := V_z_c90.lt
      obtain ⟨_, _, ⟨T94, L94, k94, n94⟩, -, X94, ⟨Lc94, hQ94, l94, y94, z94⟩, st94⟩ := Jvm.LawKit.callS X90 hx (y := (⟨"com/example/whirligig/whirligig/UnreadableEqualsPinLaw", "chars", "(III)[C"⟩ : MethodName)) hown (mvT hZ (hw _ (List.mem_of_getElem? (i := 0) rfl))) (mvT hZ (hw _ (List.mem_of_getElem? (i := 1) rfl))) (mvT hZ (hw _ (List.mem_of_getElem? (i := 2) rfl))) (mvT hZ (hw _ (List.mem_of_getElem? (i := 3) rfl))) (by decide) (backOf (W := 0) (rm1_0 l Z a0 hw [] v14 v18 T90.heap n0 O ) hZ (hw _ (List.mem_of_getElem? (i := 3) rfl)) (hw _ (List.mem_of_getElem? (i := 2) rfl)) (by decide) (by decide)) (g := (mkF m 125 (own_F7 i1 i2 i3 i4 i5 i6 v3 v7 (1 : Int32) (0 : Int32) v14 v18 z_90) [(.int v18), (.int v14), (.int (0 : Int32))])) rfl (by rw [hml]; rfl) (argsL := [(.int (0 : Int32)), (.int v14), (.int v18)]) (rest := []) (lenOf pd__40III_41_91C rfl) rfl (by show 2 * 0 + _ ≤ _; exact Nat.le_of_eq rfl) (hb hby at_125) (fun _ _ => ⟨rfl, rfl, (by decide : 1 + 1 ≤ _), (by decide : 1 + 0 ≤ _)⟩)
      dsimp only [Pt.U, Pt.locs, Pt.cells, Pt.slots] at X94 l94 y94 z94 st94 hQ94
      subst l94 y94 z94
      obtain ⟨z_94, kz_94, rfl, N94q, K94, V_z_c94, gz_94, gn_94⟩ := hQ94
      have N94 := Fr.app N90 N94q
      have R := CHr.keep K94 all0 C.1
      have C := C.trans R
      have hk := Nat.le_trans hk K94.1
      have V_z_c90 := V_z_c90.keep K94 nin0
      have ne_z_90_z_94 : z_90 ≠ z_94 := Nat.ne_of_lt (Nat.lt_of_lt_of_le lt94_z_90 gz_94)
      have g_z_94 := gn_94
      have O := O.keep K94 all0
      obtain ⟨T95, h95, X95, e95, E95, A95, D95, -, st95⟩ := newO X94 hx hZ hown (hw _ (List.mem_of_getElem? (i := 5) rfl)) (hw _ (List.mem_of_getElem? (i := 6) rfl)) (hw _ (List.mem_of_getElem? (i := 7) rfl)) rfl (g := (mkF m 130 (own_F8 i1 i2 i3 i4 i5 i6 v3 v7 (1 : Int32) (0 : Int32) v14 v18 z_90 z_94) [])) rfl (hb hby at_130) (by decide) (by decide)
      obtain ⟨b95, gq95⟩ : ∃ z, z = Array.size T94.heap := ⟨_, rfl⟩
      rw [← gq95] at A95 D95 st95
      have ne_z_90_b95 : z_90 ≠ b95 := Nat.ne_of_lt (Nat.lt_of_lt_of_le V_z_c90.lt (Nat.le_of_eq gq95.symm))
      have ne_z_94_b95 : z_94 ≠ b95 := Nat.ne_of_lt (Nat.lt_of_lt_of_le V_z_c94.lt (Nat.le_of_eq gq95.symm))
      have g_b95 : n0 ≤ b95 := Nat.le_trans (O.1 ▸ O.2.1) (Nat.le_of_eq gq95.symm)
      have sf_b95 := own_safeN C.1 E95 (Nat.le_of_eq gq95.symm)
      have R := CHr.ext E95 C.1
      have C := C.trans R
      have hk := Nat.le_trans hk E95.1
      have V_z_c90 := V_z_c90.ext E95
      have V_z_c94 := V_z_c94.ext E95
      have O := O.ext E95
      have F_value_b95 : Fld Z h95 b95 "java/lang/String" "value" "[B" .null := D95 (Or.inr (hw _ (List.mem_of_getElem? (i := 20) rfl))) (ty := (.array .byte)) (by decide)
      have F_coder_b95 : Fld Z h95 b95 "java/lang/String" "coder" "B" (.int (0 : Int32)) := D95 (Or.inr (hw _ (List.mem_of_getElem? (i := 21) rfl))) (ty := .byte) (by decide)
      have hp_b95 := own_hp1 bc_90
      have h9_b95 : 0 < ([c1_90] : List Int32).length ∧ ([c1_90] : List Int32).length ≤ 2 := ⟨Nat.le_of_ble_eq_true rfl, Nat.le_of_ble_eq_true rfl⟩
      obtain ⟨_, _, ⟨T96, L96, k96, n96⟩, -, X96, ⟨Lc96, hQ96, l96, y96, z96⟩, st96⟩ := X95.specialBack hx (y := (⟨"java/lang/String", "<init>", "([C)V"⟩ : MethodName)) rfl hown (mvT hZ (hw _ (List.mem_of_getElem? (i := 8) rfl))) (mvT hZ (hw _ (List.mem_of_getElem? (i := 9) rfl))) (mvT hZ (hw _ (List.mem_of_getElem? (i := 10) rfl))) (by decide) (StrChars.Road.backV (W := 1) hZ (own_wNew hw) (kI := 4) (hw _ (List.mem_of_getElem? (i := 6) rfl)) (cs := ([c1_90] : List Int32)) (bs := (([c1_90] : List Int32).map (fun c => c.toInt8.toInt32))) (n := ([c1_90] : List Int32).length) g_b95 (O.1 ▸ O.2.1) A95 F_value_b95 F_coder_b95 V_z_c90 (SC.ext O.2) hzc rfl rfl h9_b95.1 (Nat.le_trans h9_b95.2 (by decide)) hp_b95 rfl (by decide) (by decide)) (g := (mkF m 136 (own_F8 i1 i2 i3 i4 i5 i6 v3 v7 (1 : Int32) (0 : Int32) v14 v18 z_90 z_94) [(.ref z_90), (.ref b95), (.ref b95)])) rfl (by rw [hml]; rfl) (Steps.refl _) (a := b95) (argsL := [(.ref z_90)]) (rest := [(.ref b95)]) (lenOf pd__40_91C_41V rfl) rfl (by show 2 * 0 + _ ≤ _; exact Nat.le_of_eq rfl) (hb hby at_136) (fun _ _ => ⟨rfl, e95, (by decide : 3 + 1 ≤ _), Nat.le_trans (Nat.add_le_add_left h9_b95.2 5) (by decide)⟩)
      dsimp only [Pt.U, Pt.locs, Pt.cells, Pt.slots] at X96 l96 y96 z96 st96 hQ96
      subst l96 y96 z96
      have X96 := X96.more (Nat.le_refl _) (Nat.add_le_add_left h9_b95.2 5)
      obtain ⟨rfl, N96q, K96, Ex96, Fc96, t96, kb96, gn96, gz96, nx96, Fv96, Av96⟩ := hQ96
      have N96 := Fr.app N94 N96q
      have ne_z_90_t96 : z_90 ≠ t96 := Nat.ne_of_lt (Nat.lt_of_lt_of_le V_z_c90.lt gz96)
      have ne_z_94_t96 : z_94 ≠ t96 := Nat.ne_of_lt (Nat.lt_of_lt_of_le V_z_c94.lt gz96)
      have ne_b95_t96 : b95 ≠ t96 := Nat.ne_of_lt (Nat.lt_of_lt_of_le A95.lt gz96)
      have R := CHr.keep K96 (allS sf_b95 all0) C.1
      have sf_b95 := R.safe A95.lt sf_b95
      have C := C.trans R
      have hk := Nat.le_trans hk K96.1
      have V_z_c90 := V_z_c90.keep K96 (ninS ne_z_90_b95 nin0)
      have V_z_c94 := V_z_c94.keep K96 (ninS ne_z_94_b95 nin0)
      have A95 := A95.keep K96
      have g_t96 := gn96
      have O := O.keep K96 (allS g_b95 all0)
      obtain ⟨T97, h97, X97, e97, E97, A97, D97, -, st97⟩ := newO X96 hx hZ hown (hw _ (List.mem_of_getElem? (i := 5) rfl)) (hw _ (List.mem_of_getElem? (i := 6) rfl)) (hw _ (List.mem_of_getElem? (i := 7) rfl)) rfl (g := (mkF m 141 (own_F9 i1 i2 i3 i4 i5 i6 v3 v7 (1 : Int32) (0 : Int32) v14 v18 z_90 z_94 b95) [])) rfl (hb hby at_141) (by decide) (by decide)
      obtain ⟨b97, gq97⟩ : ∃ z, z = Array.size T96.heap := ⟨_, rfl⟩
      rw [← gq97] at A97 D97 st97
      have ne_z_90_b97 : z_90 ≠ b97 := Nat.ne_of_lt (Nat.lt_of_lt_of_le V_z_c90.lt (Nat.le_of_eq gq97.symm))
      have ne_z_94_b97 : z_94 ≠ b97 := Nat.ne_of_lt (Nat.lt_of_lt_of_le V_z_c94.lt (Nat.le_of_eq gq97.symm))
      have ne_b95_b97 : b95 ≠ b97 := Nat.ne_of_lt (Nat.lt_of_lt_of_le Ex96.lt (Nat.le_of_eq gq97.symm))
      have ne_t96_b97 : t96 ≠ b97 := Nat.ne_of_lt (Nat.lt_of_lt_of_le Av96.lt (Nat.le_of_eq gq97.symm))
      have g_b97 : n0 ≤ b97 := Nat.le_trans (O.1 ▸ O.2.1) (Nat.le_of_eq gq97.symm)
      have sf_b97 := own_safeN C.1 E97 (Nat.le_of_eq gq97.symm)
      have R := CHr.ext E97 C.1
      have sf_b95 := R.safe Ex96.lt sf_b95
      have C := C.trans R
      have hk := Nat.le_trans hk E97.1
      have V_z_c90 := V_z_c90.ext E97
      have V_z_c94 := V_z_c94.ext E97
      have Ex96 := Ex96.ext E97
      have Fc96 := Fc96.ext E97
      have Fv96 := Fv96.ext E97
      have Av96 := Av96.ext E97
      have O := O.ext E97
      have F_value_b97 : Fld Z h97 b97 "java/lang/String" "value" "[B" .null := D97 (Or.inr (hw _ (List.mem_of_getElem? (i := 20) rfl))) (ty := (.array .byte)) (by decide)
      have F_coder_b97 : Fld Z h97 b97 "java/lang/String" "coder" "B" (.int (0 : Int32)) := D97 (Or.inr (hw _ (List.mem_of_getElem? (i := 21) rfl))) (ty := .byte) (by decide)
      obtain ⟨_, _, ⟨T98, L98, k98, n98⟩, -, X98, sn98, gr98, ⟨Lc98, hQ98, l98, y98, z98, R98⟩, st98⟩ := X97.specialBackS hx (y := (⟨"java/lang/String", "<init>", "([C)V"⟩ : MethodName)) rfl hown (mvT hZ (hw _ (List.mem_of_getElem? (i := 8) rfl))) (mvT hZ (hw _ (List.mem_of_getElem? (i := 9) rfl))) (mvT hZ (hw _ (List.mem_of_getElem? (i := 10) rfl))) (by decide) (backOfSH (W := 1) (rm2_e l Z a0 hw [] b97 z_94 kz_94 h97 n0 O A97 F_value_b97 F_coder_b97 V_z_c94 g_b97) hZ (hw _ (List.mem_of_getElem? (i := 10) rfl)) (hw _ (List.mem_of_getElem? (i := 7) rfl)) (by decide) (by decide) hEL C.1) (g := (mkF m 147 (own_F9 i1 i2 i3 i4 i5 i6 v3 v7 (1 : Int32) (0 : Int32) v14 v18 z_90 z_94 b95) [(.ref z_94), (.ref b97), (.ref b97)])) rfl (by rw [hml]; rfl) (Steps.refl _) (a := b97) (argsL := [(.ref z_94)]) (rest := [(.ref b97)]) (lenOf pd__40_91C_41V rfl) rfl (by show 2 * 0 + _ ≤ _; exact Nat.le_of_eq rfl) (hb hby at_147) (fun _ _ => ⟨rfl, e97, (by decide : 5 + 4 ≤ _), (by decide : 11 + 8 ≤ _)⟩)
      dsimp only [Pt.U, Pt.locs, Pt.cells, Pt.slots] at X98 l98 y98 z98 st98 hQ98 sn98 gr98 R98
      subst l98 y98 z98
      obtain ⟨X98, hS, hZ, hown⟩ := rebS hS (by rw [e97]; exact hk) X98 sn98 gr98 hZ hown
      obtain ⟨t1_98, kb_98, rfl, N98q, K98, F_v_a_c98, F_c_a_c98, V_t_c98⟩ := hQ98
      have N98 := Fr.app N96 N98q
      have R := R98
      have sf_b95 := R.safe Ex96.lt sf_b95
      have sf_b97 := R.safe A97.lt sf_b97
      have C := C.trans R
      have hk : T98.heap.size ≤ T98.heap.size := Nat.le_refl _
      have V_z_c90 := V_z_c90.keep K98 (ninS ne_z_90_b97 nin0)
      have V_z_c94 := V_z_c94.keep K98 (ninS ne_z_94_b97 nin0)
      have Ex96 := Ex96.keep K98
      have Fc96 := Fc96.keep K98 (ninS ne_b95_b97 nin0)
      have Fv96 := Fv96.keep K98 (ninS ne_b95_b97 nin0)
      have Av96 := Av96.keep K98 (ninS ne_t96_b97 nin0)
      have A97 := A97.keep K98
      have O := O.keep K98 (allS g_b97 all0)
      have w99 : ∀ t, Steps p.tables e below (T98.setTop (mkF m 203 (own_F11 i1 i2 i3 i4 i5 i6 v3 v7 (1 : Int32) (0 : Int32) v14 v18 z_90 z_94 b95 b97 (0 : Int32)) [(.int v3), (.int i1)])) t → Steps p.tables e below (s₁.setTop (entryFrame m #[(.int i1), (.int i2), (.int i3), (.int i4), (.int i5), (.int i6)] maxLocals)) t := fun t k => by
        refine w91 t ?_
        refine XS.iload X90.here hx rfl (hb hby at_119) rfl ?_
        show Steps p.tables e below (T90.setTop (mkF m 121 (own_F7 i1 i2 i3 i4 i5 i6 v3 v7 (1 : Int32) (0 : Int32) v14 v18 z_90) [(.int (0 : Int32))])) _
        refine XS.iload X90.here hx rfl (hb hby at_121) rfl ?_
        show Steps p.tables e below (T90.setTop (mkF m 123 (own_F7 i1 i2 i3 i4 i5 i6 v3 v7 (1 : Int32) (0 : Int32) v14 v18 z_90) [(.int v14), (.int (0 : Int32))])) _
        refine XS.iload X90.here hx rfl (hb hby at_123) rfl ?_
        show Steps p.tables e below (T90.setTop (mkF m 125 (own_F7 i1 i2 i3 i4 i5 i6 v3 v7 (1 : Int32) (0 : Int32) v14 v18 z_90) [(.int v18), (.int v14), (.int (0 : Int32))])) _
        refine st94 _ ?_
        show Steps p.tables e below (T94.setTop (mkF m 128 (own_F7 i1 i2 i3 i4 i5 i6 v3 v7 (1 : Int32) (0 : Int32) v14 v18 z_90) [(.ref z_94)])) _
        refine XS.astore X94.here hx rfl (hb hby at_128) rfl rfl (l' := (own_F8 i1 i2 i3 i4 i5 i6 v3 v7 (1 : Int32) (0 : Int32) v14 v18 z_90 z_94)) rfl ?_
        show Steps p.tables e below (T94.setTop (mkF m 130 (own_F8 i1 i2 i3 i4 i5 i6 v3 v7 (1 : Int32) (0 : Int32) v14 v18 z_90 z_94) [])) _
        refine st95 _ ?_
        show Steps p.tables e below (T95.setTop (mkF m 133 (own_F8 i1 i2 i3 i4 i5 i6 v3 v7 (1 : Int32) (0 : Int32) v14 v18 z_90 z_94) [(.ref b95)])) _
        refine XS.dup X95.here hx rfl (hb hby at_133) rfl rfl ?_
        show Steps p.tables e below (T95.setTop (mkF m 134 (own_F8 i1 i2 i3 i4 i5 i6 v3 v7 (1 : Int32) (0 : Int32) v14 v18 z_90 z_94) [(.ref b95), (.ref b95)])) _
        refine XS.aload X95.here hx rfl (hb hby at_134) rfl rfl ?_
        show Steps p.tables e below (T95.setTop (mkF m 136 (own_F8 i1 i2 i3 i4 i5 i6 v3 v7 (1 : Int32) (0 : Int32) v14 v18 z_90 z_94) [(.ref z_90), (.ref b95), (.ref b95)])) _
        refine st96.trans ?_
        show Steps p.tables e below (T96.setTop (mkF m 139 (own_F8 i1 i2 i3 i4 i5 i6 v3 v7 (1 : Int32) (0 : Int32) v14 v18 z_90 z_94) [(.ref b95)])) _
        refine XS.astore X96.here hx rfl (hb hby at_139) rfl rfl (l' := (own_F9 i1 i2 i3 i4 i5 i6 v3 v7 (1 : Int32) (0 : Int32) v14 v18 z_90 z_94 b95)) rfl ?_
        show Steps p.tables e below (T96.setTop (mkF m 141 (own_F9 i1 i2 i3 i4 i5 i6 v3 v7 (1 : Int32) (0 : Int32) v14 v18 z_90 z_94 b95) [])) _
        refine st97 _ ?_
        show Steps p.tables e below (T97.setTop (mkF m 144 (own_F9 i1 i2 i3 i4 i5 i6 v3 v7 (1 : Int32) (0 : Int32) v14 v18 z_90 z_94 b95) [(.ref b97)])) _
        refine XS.dup X97.here hx rfl (hb hby at_144) rfl rfl ?_
        show Steps p.tables e below (T97.setTop (mkF m 145 (own_F9 i1 i2 i3 i4 i5 i6 v3 v7 (1 : Int32) (0 : Int32) v14 v18 z_90 z_94 b95) [(.ref b97), (.ref b97)])) _
        refine XS.aload X97.here hx rfl (hb hby at_145) rfl rfl ?_
        show Steps p.tables e below (T97.setTop (mkF m 147 (own_F9 i1 i2 i3 i4 i5 i6 v3 v7 (1 : Int32) (0 : Int32) v14 v18 z_90 z_94 b95) [(.ref z_94), (.ref b97), (.ref b97)])) _
        refine st98.trans ?_
        show Steps p.tables e below (T98.setTop (mkF m 150 (own_F9 i1 i2 i3 i4 i5 i6 v3 v7 (1 : Int32) (0 : Int32) v14 v18 z_90 z_94 b95) [(.ref b97)])) _
        refine XS.astore X98.here hx rfl (hb hby at_150) rfl rfl (l' := (own_F10 i1 i2 i3 i4 i5 i6 v3 v7 (1 : Int32) (0 : Int32) v14 v18 z_90 z_94 b95 b97)) rfl ?_
        show Steps p.tables e below (T98.setTop (mkF m 152 (own_F10 i1 i2 i3 i4 i5 i6 v3 v7 (1 : Int32) (0 : Int32) v14 v18 z_90 z_94 b95 b97) [])) _
        refine XS.iload X98.here hx rfl (hb hby at_152) rfl ?_
        show Steps p.tables e below (T98.setTop (mkF m 154 (own_F10 i1 i2 i3 i4 i5 i6 v3 v7 (1 : Int32) (0 : Int32) v14 v18 z_90 z_94 b95 b97) [(.int (1 : Int32))])) _
        refine XS.iload X98.here hx rfl (hb hby at_154) rfl ?_
        show Steps p.tables e below (T98.setTop (mkF m 156 (own_F10 i1 i2 i3 i4 i5 i6 v3 v7 (1 : Int32) (0 : Int32) v14 v18 z_90 z_94 b95 b97) [(.int (0 : Int32)), (.int (1 : Int32))])) _
        refine XS.icmpYes X98.here hx rfl (pc0 := 156) (pc' := 197) rfl (hb hby at_156) rfl (feq ((by decide) : ¬ ((1 : Int32) = (0 : Int32)))).2 (by decide) (by decide) ?_
        show Steps p.tables e below (T98.setTop (mkF m 197 (own_F10 i1 i2 i3 i4 i5 i6 v3 v7 (1 : Int32) (0 : Int32) v14 v18 z_90 z_94 b95 b97) [])) _
        refine XS.iconst X98.here hx rfl (hb hby at_197) ?_
        show Steps p.tables e below (T98.setTop (mkF m 198 (own_F10 i1 i2 i3 i4 i5 i6 v3 v7 (1 : Int32) (0 : Int32) v14 v18 z_90 z_94 b95 b97) [(.int (0 : Int32))])) _
        refine XS.istore X98.here hx rfl (hb hby at_198) rfl (l' := (own_F11 i1 i2 i3 i4 i5 i6 v3 v7 (1 : Int32) (0 : Int32) v14 v18 z_90 z_94 b95 b97 (0 : Int32))) rfl ?_
        show Steps p.tables e below (T98.setTop (mkF m 200 (own_F11 i1 i2 i3 i4 i5 i6 v3 v7 (1 : Int32) (0 : Int32) v14 v18 z_90 z_94 b95 b97 (0 : Int32)) [])) _
        refine XS.iloadN X98.here hx rfl (hb hby at_200) rfl ?_
        show Steps p.tables e below (T98.setTop (mkF m 201 (own_F11 i1 i2 i3 i4 i5 i6 v3 v7 (1 : Int32) (0 : Int32) v14 v18 z_90 z_94 b95 b97 (0 : Int32)) [(.int i1)])) _
        refine XS.iload X98.here hx rfl (hb hby at_201) rfl ?_
        show Steps p.tables e below (T98.setTop (mkF m 203 (own_F11 i1 i2 i3 i4 i5 i6 v3 v7 (1 : Int32) (0 : Int32) v14 v18 z_90 z_94 b95 b97 (0 : Int32)) [(.int v3), (.int i1)])) _
        exact k
      have w102 : ∀ t, Steps p.tables e below (T98.setTop (mkF m 222 (own_F11 i1 i2 i3 i4 i5 i6 v3 v7 (1 : Int32) (0 : Int32) v14 v18 z_90 z_94 b95 b97 (0 : Int32)) [(.int (0 : Int32))])) t → Steps p.tables e below (s₁.setTop (entryFrame m #[(.int i1), (.int i2), (.int i3), (.int i4), (.int i5), (.int i6)] maxLocals)) t := fun t k => by
        refine w99 t ?_
        show Steps p.tables e below (T98.setTop (mkF m 203 (own_F11 i1 i2 i3 i4 i5 i6 v3 v7 (1 : Int32) (0 : Int32) v14 v18 z_90 z_94 b95 b97 (0 : Int32)) [(.int v3), (.int i1)])) _
        by_cases hm100 : i1 = v3
        · refine XS.icmpNo X98.here hx rfl (hb hby at_203) rfl (teq hm100).2 ?_
          show Steps p.tables e below (T98.setTop (mkF m 206 (own_F11 i1 i2 i3 i4 i5 i6 v3 v7 (1 : Int32) (0 : Int32) v14 v18 z_90 z_94 b95 b97 (0 : Int32)) [])) _
          refine XS.iloadN X98.here hx rfl (hb hby at_206) rfl ?_
          show Steps p.tables e below (T98.setTop (mkF m 207 (own_F11 i1 i2 i3 i4 i5 i6 v3 v7 (1 : Int32) (0 : Int32) v14 v18 z_90 z_94 b95 b97 (0 : Int32)) [(.int i3)])) _
          refine XS.iload X98.here hx rfl (hb hby at_207) rfl ?_
          show Steps p.tables e below (T98.setTop (mkF m 209 (own_F11 i1 i2 i3 i4 i5 i6 v3 v7 (1 : Int32) (0 : Int32) v14 v18 z_90 z_94 b95 b97 (0 : Int32)) [(.int v7), (.int i3)])) _
          by_cases hm101 : i3 = v7
          · refine XS.icmpNo X98.here hx rfl (hb hby at_209) rfl (teq hm101).2 ?_
            show Steps p.tables e below (T98.setTop (mkF m 212 (own_F11 i1 i2 i3 i4 i5 i6 v3 v7 (1 : Int32) (0 : Int32) v14 v18 z_90 z_94 b95 b97 (0 : Int32)) [])) _
            refine XS.iload X98.here hx rfl (hb hby at_212) rfl ?_
            show Steps p.tables e below (T98.setTop (mkF m 214 (own_F11 i1 i2 i3 i4 i5 i6 v3 v7 (1 : Int32) (0 : Int32) v14 v18 z_90 z_94 b95 b97 (0 : Int32)) [(.int (0 : Int32))])) _
            refine XS.ifYes X98.here hx rfl (pc0 := 214) (pc' := 221) rfl (hb hby at_214) rfl ((if0 _ _).trans (teq ((by decide) : (0 : Int32) = (0 : Int32))).1) (by decide) (by decide) ?_
            show Steps p.tables e below (T98.setTop (mkF m 221 (own_F11 i1 i2 i3 i4 i5 i6 v3 v7 (1 : Int32) (0 : Int32) v14 v18 z_90 z_94 b95 b97 (0 : Int32)) [])) _
            refine XS.iconst X98.here hx rfl (hb hby at_221) ?_
            show Steps p.tables e below (T98.setTop (mkF m 222 (own_F11 i1 i2 i3 i4 i5 i6 v3 v7 (1 : Int32) (0 : Int32) v14 v18 z_90 z_94 b95 b97 (0 : Int32)) [(.int (0 : Int32))])) _
            exact k
          · refine XS.icmpYes X98.here hx rfl (pc0 := 209) (pc' := 221) rfl (hb hby at_209) rfl (feq hm101).2 (by decide) (by decide) ?_
            show Steps p.tables e below (T98.setTop (mkF m 221 (own_F11 i1 i2 i3 i4 i5 i6 v3 v7 (1 : Int32) (0 : Int32) v14 v18 z_90 z_94 b95 b97 (0 : Int32)) [])) _
            refine XS.iconst X98.here hx rfl (hb hby at_221) ?_
            show Steps p.tables e below (T98.setTop (mkF m 222 (own_F11 i1 i2 i3 i4 i5 i6 v3 v7 (1 : Int32) (0 : Int32) v14 v18 z_90 z_94 b95 b97 (0 : Int32)) [(.int (0 : Int32))])) _
            exact k
        · refine XS.icmpYes X98.here hx rfl (pc0 := 203) (pc' := 221) rfl (hb hby at_203) rfl (feq hm100).2 (by decide) (by decide) ?_
          show Steps p.tables e below (T98.setTop (mkF m 221 (own_F11 i1 i2 i3 i4 i5 i6 v3 v7 (1 : Int32) (0 : Int32) v14 v18 z_90 z_94 b95 b97 (0 : Int32)) [])) _
          refine XS.iconst X98.here hx rfl (hb hby at_221) ?_
          show Steps p.tables e below (T98.setTop (mkF m 222 (own_F11 i1 i2 i3 i4 i5 i6 v3 v7 (1 : Int32) (0 : Int32) v14 v18 z_90 z_94 b95 b97 (0 : Int32)) [(.int (0 : Int32))])) _
          exact k
      obtain ⟨T103, h103, X103, e103, E103, A103, D103, -, st103⟩ := newO X98 hx hZ hown (hw _ (List.mem_of_getElem? (i := 26) rfl)) (hw _ (List.mem_of_getElem? (i := 27) rfl)) (hw _ (List.mem_of_getElem? (i := 28) rfl)) rfl (g := (mkF m 224 (own_F12 i1 i2 i3 i4 i5 i6 v3 v7 (1 : Int32) (0 : Int32) v14 v18 z_90 z_94 b95 b97 (0 : Int32) (0 : Int32)) [])) rfl (hb hby at_224) (by decide) (by decide)
      obtain ⟨b103, gq103⟩ : ∃ z, z = Array.size T98.heap := ⟨_, rfl⟩
      rw [← gq103] at A103 D103 st103
      have ne_z_90_b103 : z_90 ≠ b103 := Nat.ne_of_lt (Nat.lt_of_lt_of_le V_z_c90.lt (Nat.le_of_eq gq103.symm))
      have ne_z_94_b103 : z_94 ≠ b103 := Nat.ne_of_lt (Nat.lt_of_lt_of_le V_z_c94.lt (Nat.le_of_eq gq103.symm))
      have ne_b95_b103 : b95 ≠ b103 := Nat.ne_of_lt (Nat.lt_of_lt_of_le Ex96.lt (Nat.le_of_eq gq103.symm))
      have ne_t96_b103 : t96 ≠ b103 := Nat.ne_of_lt (Nat.lt_of_lt_of_le Av96.lt (Nat.le_of_eq gq103.symm))
      have ne_b97_b103 : b97 ≠ b103 := Nat.ne_of_lt (Nat.lt_of_lt_of_le A97.lt (Nat.le_of_eq gq103.symm))
      have ne_t1_98_b103 : t1_98 ≠ b103 := Nat.ne_of_lt (Nat.lt_of_lt_of_le V_t_c98.lt (Nat.le_of_eq gq103.symm))
      have g_b103 : n0 ≤ b103 := Nat.le_trans (O.1 ▸ O.2.1) (Nat.le_of_eq gq103.symm)
      have sf_b103 := own_safeN C.1 E103 (Nat.le_of_eq gq103.symm)
      have R := CHr.ext E103 C.1
      have sf_b95 := R.safe Ex96.lt sf_b95
      have sf_b97 := R.safe A97.lt sf_b97
      have C := C.trans R
      have hk := Nat.le_trans hk E103.1
      have V_z_c90 := V_z_c90.ext E103
      have V_z_c94 := V_z_c94.ext E103
      have Ex96 := Ex96.ext E103
      have Fc96 := Fc96.ext E103
      have Fv96 := Fv96.ext E103
      have Av96 := Av96.ext E103
      have A97 := A97.ext E103
      have F_v_a_c98 := F_v_a_c98.ext E103
      have F_c_a_c98 := F_c_a_c98.ext E103
      have V_t_c98 := V_t_c98.ext E103
      have O := O.ext E103
      have F_id_b103 : Fld Z h103 b103 "com/example/whirligig/whirligig/DownloadInfoIndication$Unreadable" "id" "I" (.int (0 : Int32)) := D103 (Or.inr (hw _ (List.mem_of_getElem? (i := 39) rfl))) (ty := .int) (by decide)
      have F_version_b103 : Fld Z h103 b103 "com/example/whirligig/whirligig/DownloadInfoIndication$Unreadable" "version" "I" (.int (0 : Int32)) := D103 (Or.inr (hw _ (List.mem_of_getElem? (i := 41) rfl))) (ty := .int) (by decide)
      have F_reason_b103 : Fld Z h103 b103 "com/example/whirligig/whirligig/DownloadInfoIndication$Unreadable" "reason" "Ljava/lang/String;" .null := D103 (Or.inr (hw _ (List.mem_of_getElem? (i := 43) rfl))) (ty := (.object "java/lang/String")) (by decide)
      obtain ⟨_, _, ⟨T104, L104, k104, n104⟩, -, X104, ⟨Lc104, hQ104, l104, y104, z104⟩, st104⟩ := X103.specialBack hx (y := (⟨"com/example/whirligig/whirligig/DownloadInfoIndication$Unreadable", "<init>", "(IILjava/lang/String;)V"⟩ : MethodName)) rfl hown (mvT hZ (hw _ (List.mem_of_getElem? (i := 29) rfl))) (mvT hZ (hw _ (List.mem_of_getElem? (i := 30) rfl))) (mvT hZ (hw _ (List.mem_of_getElem? (i := 31) rfl))) (by decide) (backOf (W := 1) (rm5 l Z a0 hw [] b103 i1 i3 b95 h103 n0 O A103 F_id_b103 F_version_b103 F_reason_b103 g_b103) hZ (hw _ (List.mem_of_getElem? (i := 31) rfl)) (hw _ (List.mem_of_getElem? (i := 28) rfl)) (by decide) (by decide)) (g := (mkF m 232 (own_F12 i1 i2 i3 i4 i5 i6 v3 v7 (1 : Int32) (0 : Int32) v14 v18 z_90 z_94 b95 b97 (0 : Int32) (0 : Int32)) [(.ref b95), (.int i3), (.int i1), (.ref b103), (.ref b103)])) rfl (by rw [hml]; rfl) (Steps.refl _) (a := b103) (argsL := [(.int i1), (.int i3), (.ref b95)]) (rest := [(.ref b103)]) (lenOf pd__40IILjava_47lang_47String_59_41V rfl) rfl (by show 2 * 0 + _ ≤ _; exact Nat.le_of_eq rfl) (hb hby at_232) (fun _ _ => ⟨rfl, e103, (by decide : 10 + 0 ≤ _), (by decide : 22 + 0 ≤ _)⟩)
      dsimp only [Pt.U, Pt.locs, Pt.cells, Pt.slots] at X104 l104 y104 z104 st104 hQ104
      subst l104 y104 z104
      obtain ⟨rfl, N104q, K104, F_i_a_c104, F_w_a_c104, F_r_a_c104⟩ := hQ104
      have N104 := Fr.app N98 N104q
      have R := CHr.keep K104 (allS sf_b103 all0) C.1
      have sf_b95 := R.safe Ex96.lt sf_b95
      have sf_b97 := R.safe A97.lt sf_b97
      have sf_b103 := R.safe A103.lt sf_b103
      have C := C.trans R
      have hk := Nat.le_trans hk K104.1
      have V_z_c90 := V_z_c90.keep K104 (ninS ne_z_90_b103 nin0)
      have V_z_c94 := V_z_c94.keep K104 (ninS ne_z_94_b103 nin0)
      have Ex96 := Ex96.keep K104
      have Fc96 := Fc96.keep K104 (ninS ne_b95_b103 nin0)
      have Fv96 := Fv96.keep K104 (ninS ne_b95_b103 nin0)
      have Av96 := Av96.keep K104 (ninS ne_t96_b103 nin0)
      have A97 := A97.keep K104
      have F_v_a_c98 := F_v_a_c98.keep K104 (ninS ne_b97_b103 nin0)
      have F_c_a_c98 := F_c_a_c98.keep K104 (ninS ne_b97_b103 nin0)
      have V_t_c98 := V_t_c98.keep K104 (ninS ne_t1_98_b103 nin0)
      have A103 := A103.keep K104
      have O := O.keep K104 (allS g_b103 all0)
      obtain ⟨T105, h105, X105, e105, E105, A105, D105, -, st105⟩ := newO X104 hx hZ hown (hw _ (List.mem_of_getElem? (i := 26) rfl)) (hw _ (List.mem_of_getElem? (i := 27) rfl)) (hw _ (List.mem_of_getElem? (i := 28) rfl)) rfl (g := (mkF m 237 (own_F13 i1 i2 i3 i4 i5 i6 v3 v7 (1 : Int32) (0 : Int32) v14 v18 z_90 z_94 b95 b97 (0 : Int32) (0 : Int32) b103) [])) rfl (hb hby at_237) (by decide) (by decide)
      obtain ⟨b105, gq105⟩ : ∃ z, z = Array.size T104.heap := ⟨_, rfl⟩
      rw [← gq105] at A105 D105 st105
      have ne_z_90_b105 : z_90 ≠ b105 := Nat.ne_of_lt (Nat.lt_of_lt_of_le V_z_c90.lt (Nat.le_of_eq gq105.symm))
      have ne_z_94_b105 : z_94 ≠ b105 := Nat.ne_of_lt (Nat.lt_of_lt_of_le V_z_c94.lt (Nat.le_of_eq gq105.symm))
      have ne_b95_b105 : b95 ≠ b105 := Nat.ne_of_lt (Nat.lt_of_lt_of_le Ex96.lt (Nat.le_of_eq gq105.symm))
      have ne_t96_b105 : t96 ≠ b105 := Nat.ne_of_lt (Nat.lt_of_lt_of_le Av96.lt (Nat.le_of_eq gq105.symm))
      have ne_b97_b105 : b97 ≠ b105 := Nat.ne_of_lt (Nat.lt_of_lt_of_le A97.lt (Nat.le_of_eq gq105.symm))
      have ne_t1_98_b105 : t1_98 ≠ b105 := Nat.ne_of_lt (Nat.lt_of_lt_of_le V_t_c98.lt (Nat.le_of_eq gq105.symm))
      have ne_b103_b105 : b103 ≠ b105 := Nat.ne_of_lt (Nat.lt_of_lt_of_le A103.lt (Nat.le_of_eq gq105.symm))
      have g_b105 : n0 ≤ b105 := Nat.le_trans (O.1 ▸ O.2.1) (Nat.le_of_eq gq105.symm)
      have sf_b105 := own_safeN C.1 E105 (Nat.le_of_eq gq105.symm)
      have R := CHr.ext E105 C.1
      have sf_b95 := R.safe Ex96.lt sf_b95
      have sf_b97 := R.safe A97.lt sf_b97
      have sf_b103 := R.safe A103.lt sf_b103
      have C := C.trans R
      have hk := Nat.le_trans hk E105.1
      have V_z_c90 := V_z_c90.ext E105
      have V_z_c94 := V_z_c94.ext E105
      have Ex96 := Ex96.ext E105
      have Fc96 := Fc96.ext E105
      have Fv96 := Fv96.ext E105
      have Av96 := Av96.ext E105
      have A97 := A97.ext E105
      have F_v_a_c98 := F_v_a_c98.ext E105
      have F_c_a_c98 := F_c_a_c98.ext E105
      have V_t_c98 := V_t_c98.ext E105
      have A103 := A103.ext E105
      have F_i_a_c104 := F_i_a_c104.ext E105
      have F_w_a_c104 := F_w_a_c104.ext E105
      have F_r_a_c104 := F_r_a_c104.ext E105
      have O := O.ext E105
      have F_id_b105 : Fld Z h105 b105 "com/example/whirligig/whirligig/DownloadInfoIndication$Unreadable" "id" "I" (.int (0 : Int32)) := D105 (Or.inr (hw _ (List.mem_of_getElem? (i := 39) rfl))) (ty := .int) (by decide)
      have F_version_b105 : Fld Z h105 b105 "com/example/whirligig/whirligig/DownloadInfoIndication$Unreadable" "version" "I" (.int (0 : Int32)) := D105 (Or.inr (hw _ (List.mem_of_getElem? (i := 41) rfl))) (ty := .int) (by decide)
      have F_reason_b105 : Fld Z h105 b105 "com/example/whirligig/whirligig/DownloadInfoIndication$Unreadable" "reason" "Ljava/lang/String;" .null := D105 (Or.inr (hw _ (List.mem_of_getElem? (i := 43) rfl))) (ty := (.object "java/lang/String")) (by decide)
      obtain ⟨_, _, ⟨T106, L106, k106, n106⟩, -, X106, ⟨Lc106, hQ106, l106, y106, z106⟩, st106⟩ := X105.specialBack hx (y := (⟨"com/example/whirligig/whirligig/DownloadInfoIndication$Unreadable", "<init>", "(IILjava/lang/String;)V"⟩ : MethodName)) rfl hown (mvT hZ (hw _ (List.mem_of_getElem? (i := 29) rfl))) (mvT hZ (hw _ (List.mem_of_getElem? (i := 30) rfl))) (mvT hZ (hw _ (List.mem_of_getElem? (i := 31) rfl))) (by decide) (backOf (W := 1) (rm5 l Z a0 hw [] b105 v3 v7 b97 h105 n0 O A105 F_id_b105 F_version_b105 F_reason_b105 g_b105) hZ (hw _ (List.mem_of_getElem? (i := 31) rfl)) (hw _ (List.mem_of_getElem? (i := 28) rfl)) (by decide) (by decide)) (g := (mkF m 247 (own_F13 i1 i2 i3 i4 i5 i6 v3 v7 (1 : Int32) (0 : Int32) v14 v18 z_90 z_94 b95 b97 (0 : Int32) (0 : Int32) b103) [(.ref b97), (.int v7), (.int v3), (.ref b105), (.ref b105)])) rfl (by rw [hml]; rfl) (Steps.refl _) (a := b105) (argsL := [(.int v3), (.int v7), (.ref b97)]) (rest := [(.ref b105)]) (lenOf pd__40IILjava_47lang_47String_59_41V rfl) rfl (by show 2 * 0 + _ ≤ _; exact Nat.le_of_eq rfl) (hb hby at_247) (fun _ _ => ⟨rfl, e105, (by decide : 11 + 0 ≤ _), (by decide : 25 + 0 ≤ _)⟩)
      dsimp only [Pt.U, Pt.locs, Pt.cells, Pt.slots] at X106 l106 y106 z106 st106 hQ106
      subst l106 y106 z106
      obtain ⟨rfl, N106q, K106, F_i_a_c106, F_w_a_c106, F_r_a_c106⟩ := hQ106
      have N106 := Fr.app N104 N106q
      have R := CHr.keep K106 (allS sf_b105 all0) C.1
      have sf_b95 := R.safe Ex96.lt sf_b95
      have sf_b97 := R.safe A97.lt sf_b97
      have sf_b103 := R.safe A103.lt sf_b103
      have sf_b105 := R.safe A105.lt sf_b105
      have C := C.trans R
      have hk := Nat.le_trans hk K106.1
      have V_z_c90 := V_z_c90.keep K106 (ninS ne_z_90_b105 nin0)
      have V_z_c94 := V_z_c94.keep K106 (ninS ne_z_94_b105 nin0)
      have Ex96 := Ex96.keep K106
      have Fc96 := Fc96.keep K106 (ninS ne_b95_b105 nin0)
      have Fv96 := Fv96.keep K106 (ninS ne_b95_b105 nin0)
      have Av96 := Av96.keep K106 (ninS ne_t96_b105 nin0)
      have A97 := A97.keep K106
      have F_v_a_c98 := F_v_a_c98.keep K106 (ninS ne_b97_b105 nin0)
      have F_c_a_c98 := F_c_a_c98.keep K106 (ninS ne_b97_b105 nin0)
      have V_t_c98 := V_t_c98.keep K106 (ninS ne_t1_98_b105 nin0)
      have A103 := A103.keep K106
      have F_i_a_c104 := F_i_a_c104.keep K106 (ninS ne_b103_b105 nin0)
      have F_w_a_c104 := F_w_a_c104.keep K106 (ninS ne_b103_b105 nin0)
      have F_r_a_c104 := F_r_a_c104.keep K106 (ninS ne_b103_b105 nin0)
      have A105 := A105.keep K106
      have O := O.keep K106 (allS g_b105 all0)
      obtain ⟨cq107, kq107, q107a, q107b, q107c⟩ := isOf hZ rfl A103
      obtain ⟨_, _, ⟨T107, L107, k107, n107⟩, -, X107, ⟨Lc107, hQ107, l107, y107, z107⟩, st107⟩ := X106.virtualBack hx (y := (⟨"com/example/whirligig/whirligig/DownloadInfoIndication$Unreadable", "equals", "(Ljava/lang/Object;)Z"⟩ : MethodName)) (z := (⟨"com/example/whirligig/whirligig/DownloadInfoIndication$Unreadable", "equals", "(Ljava/lang/Object;)Z"⟩ : MethodName)) hown (mvT hZ (hw _ (List.mem_of_getElem? (i := 44) rfl))) (mvT hZ (hw _ (List.mem_of_getElem? (i := 45) rfl))) (notFace_of_selects (args := #[]) (mvT hZ (hw _ (List.mem_of_getElem? (i := 47) rfl)))) (mvT hZ (hw _ (List.mem_of_getElem? (i := 47) rfl))) (mvT hZ (hw _ (List.mem_of_getElem? (i := 46) rfl))) (by decide) (backOf (W := 0) (rm7 l Z a0 hw [] b103 b105 i1 v3 i3 v7 b95 b97 t96 t1_98 kb96 kb_98 ([c1_90] : List Int32) ([] : List Int32) zc T106.heap n0 O A105 F_i_a_c104 F_i_a_c106 F_w_a_c104 F_w_a_c106 F_r_a_c104 F_r_a_c106 Ex96 Fv96 Fc96 Av96 A97 F_v_a_c98 F_c_a_c98 V_t_c98 hp_b95 (Nat.le_trans h9_b95.2 (by decide)) own_hp0 (Nat.zero_le _) SC hzc) hZ (hw _ (List.mem_of_getElem? (i := 48) rfl)) (hw _ (List.mem_of_getElem? (i := 28) rfl)) (by decide) (by decide)) q107a q107c (g := (mkF m 264 (own_F16 i1 i2 i3 i4 i5 i6 v3 v7 (1 : Int32) (0 : Int32) v14 v18 z_90 z_94 b95 b97 (0 : Int32) (0 : Int32) b103 b105 b105 b103) [(.ref b105), (.ref b103)])) rfl (by rw [hml]; rfl) (Steps.refl _) (argsL := [(.ref b105)]) (rest := []) (lenOf pd__40Ljava_47lang_47Object_59_41Z rfl) rfl (by show 2 * 0 + _ ≤ _; exact Nat.le_of_eq rfl) (hb hby at_264) (fun _ _ => ⟨rfl, rfl, (by decide : 11 + 0 ≤ _), (by decide : 25 + 0 ≤ _)⟩)
      dsimp only [Pt.U, Pt.locs, Pt.cells, Pt.slots] at X107 l107 y107 z107 st107 hQ107
      subst l107 y107 z107
      obtain ⟨rfl, N107q, eh107⟩ := hQ107
      have N107 := Fr.app N106 N107q
      obtain ⟨cq108, kq108, q108a, q108b, q108c⟩ := isOf hZ eh107 A105
      obtain ⟨_, _, ⟨T108, L108, k108, n108⟩, -, X108, ⟨Lc108, hQ108, l108, y108, z108⟩, st108⟩ := X107.virtualBack hx (y := (⟨"com/example/whirligig/whirligig/DownloadInfoIndication$Unreadable", "equals", "(Ljava/lang/Object;)Z"⟩ : MethodName)) (z := (⟨"com/example/whirligig/whirligig/DownloadInfoIndication$Unreadable", "equals", "(Ljava/lang/Object;)Z"⟩ : MethodName)) hown (mvT hZ (hw _ (List.mem_of_getElem? (i := 44) rfl))) (mvT hZ (hw _ (List.mem_of_getElem? (i := 45) rfl))) (notFace_of_selects (args := #[]) (mvT hZ (hw _ (List.mem_of_getElem? (i := 47) rfl)))) (mvT hZ (hw _ (List.mem_of_getElem? (i := 47) rfl))) (mvT hZ (hw _ (List.mem_of_getElem? (i := 46) rfl))) (by decide) (backOf (W := 0) (rm7 l Z a0 hw [] b105 b103 v3 i1 v7 i3 b97 b95 t1_98 t96 kb_98 kb96 ([] : List Int32) ([c1_90] : List Int32) zc T106.heap n0 O A103 F_i_a_c106 F_i_a_c104 F_w_a_c106 F_w_a_c104 F_r_a_c106 F_r_a_c104 A97 F_v_a_c98 F_c_a_c98 V_t_c98 Ex96 Fv96 Fc96 Av96 own_hp0 (Nat.zero_le _) hp_b95 (Nat.le_trans h9_b95.2 (by decide)) SC hzc) hZ (hw _ (List.mem_of_getElem? (i := 48) rfl)) (hw _ (List.mem_of_getElem? (i := 28) rfl)) (by decide) (by decide)) q108a q108c (g := (mkF m 276 (own_F16 i1 i2 i3 i4 i5 i6 v3 v7 (1 : Int32) (0 : Int32) v14 v18 z_90 z_94 b95 b97 (0 : Int32) (0 : Int32) b103 b105 b105 b103) [(.ref b103), (.ref b105)])) rfl (by rw [hml]; rfl) (Steps.refl _) (argsL := [(.ref b103)]) (rest := []) (lenOf pd__40Ljava_47lang_47Object_59_41Z rfl) rfl (by show 2 * 0 + _ ≤ _; exact Nat.le_of_eq rfl) (hb hby at_276) (fun _ _ => ⟨rfl, eh107, (by decide : 11 + 0 ≤ _), (by decide : 25 + 0 ≤ _)⟩)
      dsimp only [Pt.U, Pt.locs, Pt.cells, Pt.slots] at X108 l108 y108 z108 st108 hQ108
      subst l108 y108 z108
      obtain ⟨rfl, N108q, eh108⟩ := hQ108
      have N108 := Fr.app N107 N108q
      obtain ⟨cq109, kq109, q109a, q109b, q109c⟩ := isOf hZ eh108 A103
      obtain ⟨_, _, ⟨T109, L109, k109, n109⟩, -, X109, ⟨Lc109, hQ109, l109, y109, z109⟩, st109⟩ := X108.virtualBack hx (y := (⟨"com/example/whirligig/whirligig/DownloadInfoIndication$Unreadable", "equals", "(Ljava/lang/Object;)Z"⟩ : MethodName)) (z := (⟨"com/example/whirligig/whirligig/DownloadInfoIndication$Unreadable", "equals", "(Ljava/lang/Object;)Z"⟩ : MethodName)) hown (mvT hZ (hw _ (List.mem_of_getElem? (i := 44) rfl))) (mvT hZ (hw _ (List.mem_of_getElem? (i := 45) rfl))) (notFace_of_selects (args := #[]) (mvT hZ (hw _ (List.mem_of_getElem? (i := 47) rfl)))) (mvT hZ (hw _ (List.mem_of_getElem? (i := 47) rfl))) (mvT hZ (hw _ (List.mem_of_getElem? (i := 46) rfl))) (by decide) (backOf (W := 0) (rm7 l Z a0 hw [] b103 b103 i1 i1 i3 i3 b95 b95 t96 t96 kb96 kb96 ([c1_90] : List Int32) ([c1_90] : List Int32) zc T106.heap n0 O A103 F_i_a_c104 F_i_a_c104 F_w_a_c104 F_w_a_c104 F_r_a_c104 F_r_a_c104 Ex96 Fv96 Fc96 Av96 Ex96 Fv96 Fc96 Av96 hp_b95 (Nat.le_trans h9_b95.2 (by decide)) hp_b95 (Nat.le_trans h9_b95.2 (by decide)) SC hzc) hZ (hw _ (List.mem_of_getElem? (i := 48) rfl)) (hw _ (List.mem_of_getElem? (i := 28) rfl)) (by decide) (by decide)) q109a q109c (g := (mkF m 288 (own_F16 i1 i2 i3 i4 i5 i6 v3 v7 (1 : Int32) (0 : Int32) v14 v18 z_90 z_94 b95 b97 (0 : Int32) (0 : Int32) b103 b105 b105 b103) [(.ref b103), (.ref b103)])) rfl (by rw [hml]; rfl) (Steps.refl _) (argsL := [(.ref b103)]) (rest := []) (lenOf pd__40Ljava_47lang_47Object_59_41Z rfl) rfl (by show 2 * 0 + _ ≤ _; exact Nat.le_of_eq rfl) (hb hby at_288) (fun _ _ => ⟨rfl, eh108, (by decide : 11 + 0 ≤ _), (by decide : 25 + 0 ≤ _)⟩)
      dsimp only [Pt.U, Pt.locs, Pt.cells, Pt.slots] at X109 l109 y109 z109 st109 hQ109
      subst l109 y109 z109
      obtain ⟨rfl, N109q, eh109⟩ := hQ109
      have N109 := Fr.app N108 N109q
      obtain ⟨cq110, kq110, q110a, q110b, q110c⟩ := isOf hZ eh109 A103
      obtain ⟨_, _, ⟨T110, L110, k110, n110⟩, -, X110, ⟨Lc110, hQ110, l110, y110, z110⟩, st110⟩ := X109.virtualBack hx (y := (⟨"com/example/whirligig/whirligig/DownloadInfoIndication$Unreadable", "equals", "(Ljava/lang/Object;)Z"⟩ : MethodName)) (z := (⟨"com/example/whirligig/whirligig/DownloadInfoIndication$Unreadable", "equals", "(Ljava/lang/Object;)Z"⟩ : MethodName)) hown (mvT hZ (hw _ (List.mem_of_getElem? (i := 44) rfl))) (mvT hZ (hw _ (List.mem_of_getElem? (i := 45) rfl))) (notFace_of_selects (args := #[]) (mvT hZ (hw _ (List.mem_of_getElem? (i := 47) rfl)))) (mvT hZ (hw _ (List.mem_of_getElem? (i := 47) rfl))) (mvT hZ (hw _ (List.mem_of_getElem? (i := 46) rfl))) (by decide) (backOf (W := 0) (rm7_n l Z a0 hw [] b103 T106.heap n0 O ) hZ (hw _ (List.mem_of_getElem? (i := 48) rfl)) (hw _ (List.mem_of_getElem? (i := 28) rfl)) (by decide) (by decide)) q110a q110c (g := (mkF m 297 (own_F16 i1 i2 i3 i4 i5 i6 v3 v7 (1 : Int32) (0 : Int32) v14 v18 z_90 z_94 b95 b97 (0 : Int32) (0 : Int32) b103 b105 b105 b103) [.null, (.ref b103)])) rfl (by rw [hml]; rfl) (Steps.refl _) (argsL := [.null]) (rest := []) (lenOf pd__40Ljava_47lang_47Object_59_41Z rfl) rfl (by show 2 * 0 + _ ≤ _; exact Nat.le_of_eq rfl) (hb hby at_297) (fun _ _ => ⟨rfl, eh109, (by decide : 11 + 0 ≤ _), (by decide : 25 + 0 ≤ _)⟩)
      dsimp only [Pt.U, Pt.locs, Pt.cells, Pt.slots] at X110 l110 y110 z110 st110 hQ110
      subst l110 y110 z110
      obtain ⟨rfl, N110q, eh110⟩ := hQ110
      have N110 := Fr.app N109 N110q
      obtain ⟨cq111, kq111, q111a, q111b, q111c⟩ := isOf hZ eh110 A103
      obtain ⟨_, _, ⟨T111, L111, k111, n111⟩, -, X111, ⟨Lc111, hQ111, l111, y111, z111⟩, st111⟩ := X110.virtualBack hx (y := (⟨"com/example/whirligig/whirligig/DownloadInfoIndication$Unreadable", "equals", "(Ljava/lang/Object;)Z"⟩ : MethodName)) (z := (⟨"com/example/whirligig/whirligig/DownloadInfoIndication$Unreadable", "equals", "(Ljava/lang/Object;)Z"⟩ : MethodName)) hown (mvT hZ (hw _ (List.mem_of_getElem? (i := 44) rfl))) (mvT hZ (hw _ (List.mem_of_getElem? (i := 45) rfl))) (notFace_of_selects (args := #[]) (mvT hZ (hw _ (List.mem_of_getElem? (i := 47) rfl)))) (mvT hZ (hw _ (List.mem_of_getElem? (i := 47) rfl))) (mvT hZ (hw _ (List.mem_of_getElem? (i := 46) rfl))) (by decide) (backOf (W := 0) (rm7_S l Z a0 hw [] b103 b95 T106.heap n0 O Ex96) hZ (hw _ (List.mem_of_getElem? (i := 48) rfl)) (hw _ (List.mem_of_getElem? (i := 28) rfl)) (by decide) (by decide)) q111a q111c (g := (mkF m 307 (own_F16 i1 i2 i3 i4 i5 i6 v3 v7 (1 : Int32) (0 : Int32) v14 v18 z_90 z_94 b95 b97 (0 : Int32) (0 : Int32) b103 b105 b105 b103) [(.ref b95), (.ref b103)])) rfl (by rw [hml]; rfl) (Steps.refl _) (argsL := [(.ref b95)]) (rest := []) (lenOf pd__40Ljava_47lang_47Object_59_41Z rfl) rfl (by show 2 * 0 + _ ≤ _; exact Nat.le_of_eq rfl) (hb hby at_307) (fun _ _ => ⟨rfl, eh110, (by decide : 11 + 0 ≤ _), (by decide : 25 + 0 ≤ _)⟩)
      dsimp only [Pt.U, Pt.locs, Pt.cells, Pt.slots] at X111 l111 y111 z111 st111 hQ111
      subst l111 y111 z111
      obtain ⟨rfl, N111q, eh111⟩ := hQ111
      have N111 := Fr.app N110 N111q
      obtain ⟨_, _, ⟨T112, L112, k112, n112⟩, -, X112, ⟨Lc112, hQ112, l112, y112, z112⟩, st112⟩ := Jvm.LawKit.callS X111 hx (y := (⟨"java/lang/Integer", "valueOf", "(I)Ljava/lang/Integer;"⟩ : MethodName)) hown (mvT hZ (hw _ (List.mem_of_getElem? (i := 64) rfl))) (mvT hZ (hw _ (List.mem_of_getElem? (i := 65) rfl))) (mvT hZ (hw _ (List.mem_of_getElem? (i := 66) rfl))) (mvT hZ (hw _ (List.mem_of_getElem? (i := 67) rfl))) (by decide) (backOf (W := 1) (rm10 l Z a0 hw [] i1 cl_s_cacheI s_cacheI T106.heap n0 O S_s_cacheI S_high BI) hZ (hw _ (List.mem_of_getElem? (i := 67) rfl)) (hw _ (List.mem_of_getElem? (i := 66) rfl)) (by decide) (by decide)) (g := (mkF m 316 (own_F16 i1 i2 i3 i4 i5 i6 v3 v7 (1 : Int32) (0 : Int32) v14 v18 z_90 z_94 b95 b97 (0 : Int32) (0 : Int32) b103 b105 b105 b103) [(.int i1), (.ref b103)])) rfl (by rw [hml]; rfl) (argsL := [(.int i1)]) (rest := [(.ref b103)]) (lenOf pd__40I_41Ljava_47lang_47Integer_59 rfl) rfl (by show 2 * 0 + _ ≤ _; exact Nat.le_of_eq rfl) (hb hby at_316) (fun _ _ => ⟨rfl, eh111, (by decide : 11 + 1 ≤ _), (by decide : 25 + 1 ≤ _)⟩)
      dsimp only [Pt.U, Pt.locs, Pt.cells, Pt.slots] at X112 l112 y112 z112 st112 hQ112
      subst l112 y112 z112
      obtain ⟨z_112, rfl, N112q, K112, E_z_c112⟩ := hQ112
      have N112 := Fr.app N111 N112q
      have R := CHr.keep K112 all0 C.1
      have sf_b95 := R.safe Ex96.lt sf_b95
      have sf_b97 := R.safe A97.lt sf_b97
      have sf_b103 := R.safe A103.lt sf_b103
      have sf_b105 := R.safe A105.lt sf_b105
      have C := C.trans R
      have hk := Nat.le_trans hk K112.1
      have V_z_c90 := V_z_c90.keep K112 nin0
      have V_z_c94 := V_z_c94.keep K112 nin0
      have Ex96 := Ex96.keep K112
      have Fc96 := Fc96.keep K112 nin0
      have Fv96 := Fv96.keep K112 nin0
      have Av96 := Av96.keep K112 nin0
      have A97 := A97.keep K112
      have F_v_a_c98 := F_v_a_c98.keep K112 nin0
      have F_c_a_c98 := F_c_a_c98.keep K112 nin0
      have V_t_c98 := V_t_c98.keep K112 nin0
      have A103 := A103.keep K112
      have F_i_a_c104 := F_i_a_c104.keep K112 nin0
      have F_w_a_c104 := F_w_a_c104.keep K112 nin0
      have F_r_a_c104 := F_r_a_c104.keep K112 nin0
      have A105 := A105.keep K112
      have F_i_a_c106 := F_i_a_c106.keep K112 nin0
      have F_w_a_c106 := F_w_a_c106.keep K112 nin0
      have F_r_a_c106 := F_r_a_c106.keep K112 nin0
      have O := O.keep K112 all0
      obtain ⟨cq113, kq113, q113a, q113b, q113c⟩ := isOf hZ rfl A103
      obtain ⟨_, _, ⟨T113, L113, k113, n113⟩, -, X113, ⟨Lc113, hQ113, l113, y113, z113⟩, st113⟩ := X112.virtualBack hx (y := (⟨"com/example/whirligig/whirligig/DownloadInfoIndication$Unreadable", "equals", "(Ljava/lang/Object;)Z"⟩ : MethodName)) (z := (⟨"com/example/whirligig/whirligig/DownloadInfoIndication$Unreadable", "equals", "(Ljava/lang/Object;)Z"⟩ : MethodName)) hown (mvT hZ (hw _ (List.mem_of_getElem? (i := 44) rfl))) (mvT hZ (hw _ (List.mem_of_getElem? (i := 45) rfl))) (notFace_of_selects (args := #[]) (mvT hZ (hw _ (List.mem_of_getElem? (i := 47) rfl)))) (mvT hZ (hw _ (List.mem_of_getElem? (i := 47) rfl))) (mvT hZ (hw _ (List.mem_of_getElem? (i := 46) rfl))) (by decide) (backOf (W := 0) (rm7_I l Z a0 hw [] b103 z_112 T112.heap n0 O E_z_c112) hZ (hw _ (List.mem_of_getElem? (i := 48) rfl)) (hw _ (List.mem_of_getElem? (i := 28) rfl)) (by decide) (by decide)) q113a q113c (g := (mkF m 319 (own_F16 i1 i2 i3 i4 i5 i6 v3 v7 (1 : Int32) (0 : Int32) v14 v18 z_90 z_94 b95 b97 (0 : Int32) (0 : Int32) b103 b105 b105 b103) [(.ref z_112), (.ref b103)])) rfl (by rw [hml]; rfl) (Steps.refl _) (argsL := [(.ref z_112)]) (rest := []) (lenOf pd__40Ljava_47lang_47Object_59_41Z rfl) rfl (by show 2 * 0 + _ ≤ _; exact Nat.le_of_eq rfl) (hb hby at_319) (fun _ _ => ⟨rfl, rfl, (by decide : 12 + 0 ≤ _), (by decide : 26 + 0 ≤ _)⟩)
      dsimp only [Pt.U, Pt.locs, Pt.cells, Pt.slots] at X113 l113 y113 z113 st113 hQ113
      subst l113 y113 z113
      obtain ⟨rfl, N113q, eh113⟩ := hQ113
      have N113 := Fr.app N112 N113q
      have w114 : ∀ t, Steps p.tables e below (T113.setTop (mkF m 330 (own_F16 i1 i2 i3 i4 i5 i6 v3 v7 (1 : Int32) (0 : Int32) v14 v18 z_90 z_94 b95 b97 (0 : Int32) (0 : Int32) b103 b105 b105 b103) [(.int (1 : Int32))])) t → Steps p.tables e below (s₁.setTop (entryFrame m #[(.int i1), (.int i2), (.int i3), (.int i4), (.int i5), (.int i6)] maxLocals)) t := fun t k => by
        refine w102 t ?_
        refine XS.istore X98.here hx rfl (hb hby at_222) rfl (l' := (own_F12 i1 i2 i3 i4 i5 i6 v3 v7 (1 : Int32) (0 : Int32) v14 v18 z_90 z_94 b95 b97 (0 : Int32) (0 : Int32))) rfl ?_
        show Steps p.tables e below (T98.setTop (mkF m 224 (own_F12 i1 i2 i3 i4 i5 i6 v3 v7 (1 : Int32) (0 : Int32) v14 v18 z_90 z_94 b95 b97 (0 : Int32) (0 : Int32)) [])) _
        refine st103 _ ?_
        show Steps p.tables e below (T103.setTop (mkF m 227 (own_F12 i1 i2 i3 i4 i5 i6 v3 v7 (1 : Int32) (0 : Int32) v14 v18 z_90 z_94 b95 b97 (0 : Int32) (0 : Int32)) [(.ref b103)])) _
        refine XS.dup X103.here hx rfl (hb hby at_227) rfl rfl ?_
        show Steps p.tables e below (T103.setTop (mkF m 228 (own_F12 i1 i2 i3 i4 i5 i6 v3 v7 (1 : Int32) (0 : Int32) v14 v18 z_90 z_94 b95 b97 (0 : Int32) (0 : Int32)) [(.ref b103), (.ref b103)])) _
        refine XS.iloadN X103.here hx rfl (hb hby at_228) rfl ?_
        show Steps p.tables e below (T103.setTop (mkF m 229 (own_F12 i1 i2 i3 i4 i5 i6 v3 v7 (1 : Int32) (0 : Int32) v14 v18 z_90 z_94 b95 b97 (0 : Int32) (0 : Int32)) [(.int i1), (.ref b103), (.ref b103)])) _
        refine XS.iloadN X103.here hx rfl (hb hby at_229) rfl ?_
        show Steps p.tables e below (T103.setTop (mkF m 230 (own_F12 i1 i2 i3 i4 i5 i6 v3 v7 (1 : Int32) (0 : Int32) v14 v18 z_90 z_94 b95 b97 (0 : Int32) (0 : Int32)) [(.int i3), (.int i1), (.ref b103), (.ref b103)])) _
        refine XS.aload X103.here hx rfl (hb hby at_230) rfl rfl ?_
        show Steps p.tables e below (T103.setTop (mkF m 232 (own_F12 i1 i2 i3 i4 i5 i6 v3 v7 (1 : Int32) (0 : Int32) v14 v18 z_90 z_94 b95 b97 (0 : Int32) (0 : Int32)) [(.ref b95), (.int i3), (.int i1), (.ref b103), (.ref b103)])) _
        refine st104.trans ?_
        show Steps p.tables e below (T104.setTop (mkF m 235 (own_F12 i1 i2 i3 i4 i5 i6 v3 v7 (1 : Int32) (0 : Int32) v14 v18 z_90 z_94 b95 b97 (0 : Int32) (0 : Int32)) [(.ref b103)])) _
        refine XS.astore X104.here hx rfl (hb hby at_235) rfl rfl (l' := (own_F13 i1 i2 i3 i4 i5 i6 v3 v7 (1 : Int32) (0 : Int32) v14 v18 z_90 z_94 b95 b97 (0 : Int32) (0 : Int32) b103)) rfl ?_
        show Steps p.tables e below (T104.setTop (mkF m 237 (own_F13 i1 i2 i3 i4 i5 i6 v3 v7 (1 : Int32) (0 : Int32) v14 v18 z_90 z_94 b95 b97 (0 : Int32) (0 : Int32) b103) [])) _
        refine st105 _ ?_
        show Steps p.tables e below (T105.setTop (mkF m 240 (own_F13 i1 i2 i3 i4 i5 i6 v3 v7 (1 : Int32) (0 : Int32) v14 v18 z_90 z_94 b95 b97 (0 : Int32) (0 : Int32) b103) [(.ref b105)])) _
        refine XS.dup X105.here hx rfl (hb hby at_240) rfl rfl ?_
        show Steps p.tables e below (T105.setTop (mkF m 241 (own_F13 i1 i2 i3 i4 i5 i6 v3 v7 (1 : Int32) (0 : Int32) v14 v18 z_90 z_94 b95 b97 (0 : Int32) (0 : Int32) b103) [(.ref b105), (.ref b105)])) _
        refine XS.iload X105.here hx rfl (hb hby at_241) rfl ?_
        show Steps p.tables e below (T105.setTop (mkF m 243 (own_F13 i1 i2 i3 i4 i5 i6 v3 v7 (1 : Int32) (0 : Int32) v14 v18 z_90 z_94 b95 b97 (0 : Int32) (0 : Int32) b103) [(.int v3), (.ref b105), (.ref b105)])) _
        refine XS.iload X105.here hx rfl (hb hby at_243) rfl ?_
        show Steps p.tables e below (T105.setTop (mkF m 245 (own_F13 i1 i2 i3 i4 i5 i6 v3 v7 (1 : Int32) (0 : Int32) v14 v18 z_90 z_94 b95 b97 (0 : Int32) (0 : Int32) b103) [(.int v7), (.int v3), (.ref b105), (.ref b105)])) _
        refine XS.aload X105.here hx rfl (hb hby at_245) rfl rfl ?_
        show Steps p.tables e below (T105.setTop (mkF m 247 (own_F13 i1 i2 i3 i4 i5 i6 v3 v7 (1 : Int32) (0 : Int32) v14 v18 z_90 z_94 b95 b97 (0 : Int32) (0 : Int32) b103) [(.ref b97), (.int v7), (.int v3), (.ref b105), (.ref b105)])) _
        refine st106.trans ?_
        show Steps p.tables e below (T106.setTop (mkF m 250 (own_F13 i1 i2 i3 i4 i5 i6 v3 v7 (1 : Int32) (0 : Int32) v14 v18 z_90 z_94 b95 b97 (0 : Int32) (0 : Int32) b103) [(.ref b105)])) _
        refine XS.astore X106.here hx rfl (hb hby at_250) rfl rfl (l' := (own_F14 i1 i2 i3 i4 i5 i6 v3 v7 (1 : Int32) (0 : Int32) v14 v18 z_90 z_94 b95 b97 (0 : Int32) (0 : Int32) b103 b105)) rfl ?_
        show Steps p.tables e below (T106.setTop (mkF m 252 (own_F14 i1 i2 i3 i4 i5 i6 v3 v7 (1 : Int32) (0 : Int32) v14 v18 z_90 z_94 b95 b97 (0 : Int32) (0 : Int32) b103 b105) [])) _
        refine XS.aload X106.here hx rfl (hb hby at_252) rfl rfl ?_
        show Steps p.tables e below (T106.setTop (mkF m 254 (own_F14 i1 i2 i3 i4 i5 i6 v3 v7 (1 : Int32) (0 : Int32) v14 v18 z_90 z_94 b95 b97 (0 : Int32) (0 : Int32) b103 b105) [(.ref b105)])) _
        refine XS.astore X106.here hx rfl (hb hby at_254) rfl rfl (l' := (own_F15 i1 i2 i3 i4 i5 i6 v3 v7 (1 : Int32) (0 : Int32) v14 v18 z_90 z_94 b95 b97 (0 : Int32) (0 : Int32) b103 b105 b105)) rfl ?_
        show Steps p.tables e below (T106.setTop (mkF m 256 (own_F15 i1 i2 i3 i4 i5 i6 v3 v7 (1 : Int32) (0 : Int32) v14 v18 z_90 z_94 b95 b97 (0 : Int32) (0 : Int32) b103 b105 b105) [])) _
        refine XS.aload X106.here hx rfl (hb hby at_256) rfl rfl ?_
        show Steps p.tables e below (T106.setTop (mkF m 258 (own_F15 i1 i2 i3 i4 i5 i6 v3 v7 (1 : Int32) (0 : Int32) v14 v18 z_90 z_94 b95 b97 (0 : Int32) (0 : Int32) b103 b105 b105) [(.ref b103)])) _
        refine XS.astore X106.here hx rfl (hb hby at_258) rfl rfl (l' := (own_F16 i1 i2 i3 i4 i5 i6 v3 v7 (1 : Int32) (0 : Int32) v14 v18 z_90 z_94 b95 b97 (0 : Int32) (0 : Int32) b103 b105 b105 b103)) rfl ?_
        show Steps p.tables e below (T106.setTop (mkF m 260 (own_F16 i1 i2 i3 i4 i5 i6 v3 v7 (1 : Int32) (0 : Int32) v14 v18 z_90 z_94 b95 b97 (0 : Int32) (0 : Int32) b103 b105 b105 b103) [])) _
        refine XS.aload X106.here hx rfl (hb hby at_260) rfl rfl ?_
        show Steps p.tables e below (T106.setTop (mkF m 262 (own_F16 i1 i2 i3 i4 i5 i6 v3 v7 (1 : Int32) (0 : Int32) v14 v18 z_90 z_94 b95 b97 (0 : Int32) (0 : Int32) b103 b105 b105 b103) [(.ref b103)])) _
        refine XS.aload X106.here hx rfl (hb hby at_262) rfl rfl ?_
        show Steps p.tables e below (T106.setTop (mkF m 264 (own_F16 i1 i2 i3 i4 i5 i6 v3 v7 (1 : Int32) (0 : Int32) v14 v18 z_90 z_94 b95 b97 (0 : Int32) (0 : Int32) b103 b105 b105 b103) [(.ref b105), (.ref b103)])) _
        refine st107.trans ?_
        show Steps p.tables e below (T107.setTop (mkF m 267 (own_F16 i1 i2 i3 i4 i5 i6 v3 v7 (1 : Int32) (0 : Int32) v14 v18 z_90 z_94 b95 b97 (0 : Int32) (0 : Int32) b103 b105 b105 b103) [(.int (own_e i1 v3 i3 v7 ([c1_90] : List Int32) ([] : List Int32)))])) _
        refine XS.iload X107.here hx rfl (hb hby at_267) rfl ?_
        show Steps p.tables e below (T107.setTop (mkF m 269 (own_F16 i1 i2 i3 i4 i5 i6 v3 v7 (1 : Int32) (0 : Int32) v14 v18 z_90 z_94 b95 b97 (0 : Int32) (0 : Int32) b103 b105 b105 b103) [(.int (0 : Int32)), (.int (own_e i1 v3 i3 v7 ([c1_90] : List Int32) ([] : List Int32)))])) _
        refine XS.icmpNo X107.here hx rfl (hb hby at_269) rfl (teq (own_e0 _ _ _ _ (fun e => nomatch e) : (own_e i1 v3 i3 v7 ([c1_90] : List Int32) ([] : List Int32)) = (0 : Int32))).2 ?_
        show Steps p.tables e below (T107.setTop (mkF m 272 (own_F16 i1 i2 i3 i4 i5 i6 v3 v7 (1 : Int32) (0 : Int32) v14 v18 z_90 z_94 b95 b97 (0 : Int32) (0 : Int32) b103 b105 b105 b103) [])) _
        refine XS.aload X107.here hx rfl (hb hby at_272) rfl rfl ?_
        show Steps p.tables e below (T107.setTop (mkF m 274 (own_F16 i1 i2 i3 i4 i5 i6 v3 v7 (1 : Int32) (0 : Int32) v14 v18 z_90 z_94 b95 b97 (0 : Int32) (0 : Int32) b103 b105 b105 b103) [(.ref b105)])) _
        refine XS.aload X107.here hx rfl (hb hby at_274) rfl rfl ?_
        show Steps p.tables e below (T107.setTop (mkF m 276 (own_F16 i1 i2 i3 i4 i5 i6 v3 v7 (1 : Int32) (0 : Int32) v14 v18 z_90 z_94 b95 b97 (0 : Int32) (0 : Int32) b103 b105 b105 b103) [(.ref b103), (.ref b105)])) _
        refine st108.trans ?_
        show Steps p.tables e below (T108.setTop (mkF m 279 (own_F16 i1 i2 i3 i4 i5 i6 v3 v7 (1 : Int32) (0 : Int32) v14 v18 z_90 z_94 b95 b97 (0 : Int32) (0 : Int32) b103 b105 b105 b103) [(.int (own_e v3 i1 v7 i3 ([] : List Int32) ([c1_90] : List Int32)))])) _
        refine XS.iload X108.here hx rfl (hb hby at_279) rfl ?_
        show Steps p.tables e below (T108.setTop (mkF m 281 (own_F16 i1 i2 i3 i4 i5 i6 v3 v7 (1 : Int32) (0 : Int32) v14 v18 z_90 z_94 b95 b97 (0 : Int32) (0 : Int32) b103 b105 b105 b103) [(.int (0 : Int32)), (.int (own_e v3 i1 v7 i3 ([] : List Int32) ([c1_90] : List Int32)))])) _
        refine XS.icmpNo X108.here hx rfl (hb hby at_281) rfl (teq ((own_sym _ _ _ _ _ _).trans (own_e0 _ _ _ _ (fun e => nomatch e)) : (own_e v3 i1 v7 i3 ([] : List Int32) ([c1_90] : List Int32)) = (0 : Int32))).2 ?_
        show Steps p.tables e below (T108.setTop (mkF m 284 (own_F16 i1 i2 i3 i4 i5 i6 v3 v7 (1 : Int32) (0 : Int32) v14 v18 z_90 z_94 b95 b97 (0 : Int32) (0 : Int32) b103 b105 b105 b103) [])) _
        refine XS.aload X108.here hx rfl (hb hby at_284) rfl rfl ?_
        show Steps p.tables e below (T108.setTop (mkF m 286 (own_F16 i1 i2 i3 i4 i5 i6 v3 v7 (1 : Int32) (0 : Int32) v14 v18 z_90 z_94 b95 b97 (0 : Int32) (0 : Int32) b103 b105 b105 b103) [(.ref b103)])) _
        refine XS.aload X108.here hx rfl (hb hby at_286) rfl rfl ?_
        show Steps p.tables e below (T108.setTop (mkF m 288 (own_F16 i1 i2 i3 i4 i5 i6 v3 v7 (1 : Int32) (0 : Int32) v14 v18 z_90 z_94 b95 b97 (0 : Int32) (0 : Int32) b103 b105 b105 b103) [(.ref b103), (.ref b103)])) _
        refine st109.trans ?_
        show Steps p.tables e below (T109.setTop (mkF m 291 (own_F16 i1 i2 i3 i4 i5 i6 v3 v7 (1 : Int32) (0 : Int32) v14 v18 z_90 z_94 b95 b97 (0 : Int32) (0 : Int32) b103 b105 b105 b103) [(.int (own_e i1 i1 i3 i3 ([c1_90] : List Int32) ([c1_90] : List Int32)))])) _
        refine XS.ifNo X109.here hx rfl (hb hby at_291) rfl ((if0 _ _).trans (feq (own_rfl _ _ _ : ¬ ((own_e i1 i1 i3 i3 ([c1_90] : List Int32) ([c1_90] : List Int32)) = (0 : Int32)))).1) ?_
        show Steps p.tables e below (T109.setTop (mkF m 294 (own_F16 i1 i2 i3 i4 i5 i6 v3 v7 (1 : Int32) (0 : Int32) v14 v18 z_90 z_94 b95 b97 (0 : Int32) (0 : Int32) b103 b105 b105 b103) [])) _
        refine XS.aload X109.here hx rfl (hb hby at_294) rfl rfl ?_
        show Steps p.tables e below (T109.setTop (mkF m 296 (own_F16 i1 i2 i3 i4 i5 i6 v3 v7 (1 : Int32) (0 : Int32) v14 v18 z_90 z_94 b95 b97 (0 : Int32) (0 : Int32) b103 b105 b105 b103) [(.ref b103)])) _
        refine XS.aconstNull X109.here hx rfl (hb hby at_296) ?_
        show Steps p.tables e below (T109.setTop (mkF m 297 (own_F16 i1 i2 i3 i4 i5 i6 v3 v7 (1 : Int32) (0 : Int32) v14 v18 z_90 z_94 b95 b97 (0 : Int32) (0 : Int32) b103 b105 b105 b103) [.null, (.ref b103)])) _
        refine st110.trans ?_
        show Steps p.tables e below (T110.setTop (mkF m 300 (own_F16 i1 i2 i3 i4 i5 i6 v3 v7 (1 : Int32) (0 : Int32) v14 v18 z_90 z_94 b95 b97 (0 : Int32) (0 : Int32) b103 b105 b105 b103) [(.int (0 : Int32))])) _
        refine XS.ifNo X110.here hx rfl (hb hby at_300) rfl ((if0 _ _).trans (teq (rfl : (0 : Int32) = (0 : Int32))).2) ?_
        show Steps p.tables e below (T110.setTop (mkF m 303 (own_F16 i1 i2 i3 i4 i5 i6 v3 v7 (1 : Int32) (0 : Int32) v14 v18 z_90 z_94 b95 b97 (0 : Int32) (0 : Int32) b103 b105 b105 b103) [])) _
        refine XS.aload X110.here hx rfl (hb hby at_303) rfl rfl ?_
        show Steps p.tables e below (T110.setTop (mkF m 305 (own_F16 i1 i2 i3 i4 i5 i6 v3 v7 (1 : Int32) (0 : Int32) v14 v18 z_90 z_94 b95 b97 (0 : Int32) (0 : Int32) b103 b105 b105 b103) [(.ref b103)])) _
        refine XS.aload X110.here hx rfl (hb hby at_305) rfl rfl ?_
        show Steps p.tables e below (T110.setTop (mkF m 307 (own_F16 i1 i2 i3 i4 i5 i6 v3 v7 (1 : Int32) (0 : Int32) v14 v18 z_90 z_94 b95 b97 (0 : Int32) (0 : Int32) b103 b105 b105 b103) [(.ref b95), (.ref b103)])) _
        refine st111.trans ?_
        show Steps p.tables e below (T111.setTop (mkF m 310 (own_F16 i1 i2 i3 i4 i5 i6 v3 v7 (1 : Int32) (0 : Int32) v14 v18 z_90 z_94 b95 b97 (0 : Int32) (0 : Int32) b103 b105 b105 b103) [(.int (0 : Int32))])) _
        refine XS.ifNo X111.here hx rfl (hb hby at_310) rfl ((if0 _ _).trans (teq (rfl : (0 : Int32) = (0 : Int32))).2) ?_
        show Steps p.tables e below (T111.setTop (mkF m 313 (own_F16 i1 i2 i3 i4 i5 i6 v3 v7 (1 : Int32) (0 : Int32) v14 v18 z_90 z_94 b95 b97 (0 : Int32) (0 : Int32) b103 b105 b105 b103) [])) _
        refine XS.aload X111.here hx rfl (hb hby at_313) rfl rfl ?_
        show Steps p.tables e below (T111.setTop (mkF m 315 (own_F16 i1 i2 i3 i4 i5 i6 v3 v7 (1 : Int32) (0 : Int32) v14 v18 z_90 z_94 b95 b97 (0 : Int32) (0 : Int32) b103 b105 b105 b103) [(.ref b103)])) _
        refine XS.iloadN X111.here hx rfl (hb hby at_315) rfl ?_
        show Steps p.tables e below (T111.setTop (mkF m 316 (own_F16 i1 i2 i3 i4 i5 i6 v3 v7 (1 : Int32) (0 : Int32) v14 v18 z_90 z_94 b95 b97 (0 : Int32) (0 : Int32) b103 b105 b105 b103) [(.int i1), (.ref b103)])) _
        refine st112 _ ?_
        show Steps p.tables e below (T112.setTop (mkF m 319 (own_F16 i1 i2 i3 i4 i5 i6 v3 v7 (1 : Int32) (0 : Int32) v14 v18 z_90 z_94 b95 b97 (0 : Int32) (0 : Int32) b103 b105 b105 b103) [(.ref z_112), (.ref b103)])) _
        refine st113.trans ?_
        show Steps p.tables e below (T113.setTop (mkF m 322 (own_F16 i1 i2 i3 i4 i5 i6 v3 v7 (1 : Int32) (0 : Int32) v14 v18 z_90 z_94 b95 b97 (0 : Int32) (0 : Int32) b103 b105 b105 b103) [(.int (0 : Int32))])) _
        refine XS.ifNo X113.here hx rfl (hb hby at_322) rfl ((if0 _ _).trans (teq (rfl : (0 : Int32) = (0 : Int32))).2) ?_
        show Steps p.tables e below (T113.setTop (mkF m 325 (own_F16 i1 i2 i3 i4 i5 i6 v3 v7 (1 : Int32) (0 : Int32) v14 v18 z_90 z_94 b95 b97 (0 : Int32) (0 : Int32) b103 b105 b105 b103) [])) _
        refine XS.iconst X113.here hx rfl (hb hby at_325) ?_
        show Steps p.tables e below (T113.setTop (mkF m 326 (own_F16 i1 i2 i3 i4 i5 i6 v3 v7 (1 : Int32) (0 : Int32) v14 v18 z_90 z_94 b95 b97 (0 : Int32) (0 : Int32) b103 b105 b105 b103) [(.int (1 : Int32))])) _
        refine XS.goto X113.here hx rfl (pc0 := 326) (pc' := 330) rfl (hb hby at_326) (by decide) (by decide) ?_
        show Steps p.tables e below (T113.setTop (mkF m 330 (own_F16 i1 i2 i3 i4 i5 i6 v3 v7 (1 : Int32) (0 : Int32) v14 v18 z_90 z_94 b95 b97 (0 : Int32) (0 : Int32) b103 b105 b105 b103) [(.int (1 : Int32))])) _
        exact k
      obtain ⟨fs, hr, hrun, hended, hE⟩ := Stand.leaveW (s := s) (vm₁ := T98.vm) X113 hS (by rw [eh113]; exact hk) (v := some (.int (1 : Int32))) (fun h => by rw [Bd.returns] at h; cases h)
      refine ⟨_, _, w114 _ ?_, hrun, hended, _, _, rfl, ?_, ?_, own_mono hE (by decide) (by decide)⟩
      · exact retN X113 hx (t := .boolean) Bd.returns (by simp) (hb hby at_330) hr
      · show Q0 Z i1 i2 i3 i4 i5 i6 cl_s_cacheI zc s_cacheI h0 n0 _ T113.heap _
        rw [eh113]
        exact ⟨rfl, N113⟩
      · rw [hh]; show CHr Z consts_1 s.vm h0 T113.vm T113.heap; rw [eh113]; exact C.trans (CHv.at X113 hZ hEL C.1)
    · rw [hk93] at w91
      have lt115_z_90 := V_z_c90.lt
      obtain ⟨_, _, ⟨T115, L115, k115, n115⟩, -, X115, ⟨Lc115, hQ115, l115, y115, z115⟩, st115⟩ := Jvm.LawKit.callS X90 hx (y := (⟨"com/example/whirligig/whirligig/UnreadableEqualsPinLaw", "chars", "(III)[C"⟩ : MethodName)) hown (mvT hZ (hw _ (List.mem_of_getElem? (i := 0) rfl))) (mvT hZ (hw _ (List.mem_of_getElem? (i := 1) rfl))) (mvT hZ (hw _ (List.mem_of_getElem? (i := 2) rfl))) (mvT hZ (hw _ (List.mem_of_getElem? (i := 3) rfl))) (by decide) (backOf (W := 0) (rm1_1 l Z a0 hw [] v14 v18 T90.heap n0 O ) hZ (hw _ (List.mem_of_getElem? (i := 3) rfl)) (hw _ (List.mem_of_getElem? (i := 2) rfl)) (by decide) (by decide)) (g := (mkF m 125 (own_F7 i1 i2 i3 i4 i5 i6 v3 v7 (1 : Int32) (1 : Int32) v14 v18 z_90) [(.int v18), (.int v14), (.int (1 : Int32))])) rfl (by rw [hml]; rfl) (argsL := [(.int (1 : Int32)), (.int v14), (.int v18)]) (rest := []) (lenOf pd__40III_41_91C rfl) rfl (by show 2 * 0 + _ ≤ _; exact Nat.le_of_eq rfl) (hb hby at_125) (fun _ _ => ⟨rfl, rfl, (by decide : 1 + 1 ≤ _), (by decide : 1 + 1 ≤ _)⟩)
      dsimp only [Pt.U, Pt.locs, Pt.cells, Pt.slots] at X115 l115 y115 z115 st115 hQ115
      subst l115 y115 z115
      obtain ⟨z_115, kz_115, c1_115, rfl, N115q, K115, V_z_c115, gz_115, gn_115, bc_115⟩ := hQ115
      have N115 := Fr.app N90 N115q
      have R := CHr.keep K115 all0 C.1
      have C := C.trans R
      have hk := Nat.le_trans hk K115.1
      have V_z_c90 := V_z_c90.keep K115 nin0
      have ne_z_90_z_115 : z_90 ≠ z_115 := Nat.ne_of_lt (Nat.lt_of_lt_of_le lt115_z_90 gz_115)
      have g_z_115 := gn_115
      have O := O.keep K115 all0
      obtain ⟨T116, h116, X116, e116, E116, A116, D116, -, st116⟩ := newO X115 hx hZ hown (hw _ (List.mem_of_getElem? (i := 5) rfl)) (hw _ (List.mem_of_getElem? (i := 6) rfl)) (hw _ (List.mem_of_getElem? (i := 7) rfl)) rfl (g := (mkF m 130 (own_F8 i1 i2 i3 i4 i5 i6 v3 v7 (1 : Int32) (1 : Int32) v14 v18 z_90 z_115) [])) rfl (hb hby at_130) (by decide) (by decide)
      obtain ⟨b116, gq116⟩ : ∃ z, z = Array.size T115.heap := ⟨_, rfl⟩
      rw [← gq116] at A116 D116 st116
      have ne_z_90_b116 : z_90 ≠ b116 := Nat.ne_of_lt (Nat.lt_of_lt_of_le V_z_c90.lt (Nat.le_of_eq gq116.symm))
      have ne_z_115_b116 : z_115 ≠ b116 := Nat.ne_of_lt (Nat.lt_of_lt_of_le V_z_c115.lt (Nat.le_of_eq gq116.symm))
      have g_b116 : n0 ≤ b116 := Nat.le_trans (O.1 ▸ O.2.1) (Nat.le_of_eq gq116.symm)
      have sf_b116 := own_safeN C.1 E116 (Nat.le_of_eq gq116.symm)
      have R := CHr.ext E116 C.1
      have C := C.trans R
      have hk := Nat.le_trans hk E116.1
      have V_z_c90 := V_z_c90.ext E116
      have V_z_c115 := V_z_c115.ext E116
      have O := O.ext E116
      have F_value_b116 : Fld Z h116 b116 "java/lang/String" "value" "[B" .null := D116 (Or.inr (hw _ (List.mem_of_getElem? (i := 20) rfl))) (ty := (.array .byte)) (by decide)
      have F_coder_b116 : Fld Z h116 b116 "java/lang/String" "coder" "B" (.int (0 : Int32)) := D116 (Or.inr (hw _ (List.mem_of_getElem? (i := 21) rfl))) (ty := .byte) (by decide)
      have hp_b116 := own_hp1 bc_90
      have h9_b116 : 0 < ([c1_90] : List Int32).length ∧ ([c1_90] : List Int32).length ≤ 2 := ⟨Nat.le_of_ble_eq_true rfl, Nat.le_of_ble_eq_true rfl⟩
      obtain ⟨_, _, ⟨T117, L117, k117, n117⟩, -, X117, ⟨Lc117, hQ117, l117, y117, z117⟩, st117⟩ := X116.specialBack hx (y := (⟨"java/lang/String", "<init>", "([C)V"⟩ : MethodName)) rfl hown (mvT hZ (hw _ (List.mem_of_getElem? (i := 8) rfl))) (mvT hZ (hw _ (List.mem_of_getElem? (i := 9) rfl))) (mvT hZ (hw _ (List.mem_of_getElem? (i := 10) rfl))) (by decide) (StrChars.Road.backV (W := 1) hZ (own_wNew hw) (kI := 4) (hw _ (List.mem_of_getElem? (i := 6) rfl)) (cs := ([c1_90] : List Int32)) (bs := (([c1_90] : List Int32).map (fun c => c.toInt8.toInt32))) (n := ([c1_90] : List Int32).length) g_b116 (O.1 ▸ O.2.1) A116 F_value_b116 F_coder_b116 V_z_c90 (SC.ext O.2) hzc rfl rfl h9_b116.1 (Nat.le_trans h9_b116.2 (by decide)) hp_b116 rfl (by decide) (by decide)) (g := (mkF m 136 (own_F8 i1 i2 i3 i4 i5 i6 v3 v7 (1 : Int32) (1 : Int32) v14 v18 z_90 z_115) [(.ref z_90), (.ref b116), (.ref b116)])) rfl (by rw [hml]; rfl) (Steps.refl _) (a := b116) (argsL := [(.ref z_90)]) (rest := [(.ref b116)]) (lenOf pd__40_91C_41V rfl) rfl (by show 2 * 0 + _ ≤ _; exact Nat.le_of_eq rfl) (hb hby at_136) (fun _ _ => ⟨rfl, e116, (by decide : 3 + 1 ≤ _), Nat.le_trans (Nat.add_le_add_left h9_b116.2 6) (by decide)⟩)
      dsimp only [Pt.U, Pt.locs, Pt.cells, Pt.slots] at X117 l117 y117 z117 st117 hQ117
      subst l117 y117 z117
      have X117 := X117.more (Nat.le_refl _) (Nat.add_le_add_left h9_b116.2 6)
      obtain ⟨rfl, N117q, K117, Ex117, Fc117, t117, kb117, gn117, gz117, nx117, Fv117, Av117⟩ := hQ117
      have N117 := Fr.app N115 N117q
      have ne_z_90_t117 : z_90 ≠ t117 := Nat.ne_of_lt (Nat.lt_of_lt_of_le V_z_c90.lt gz117)
      have ne_z_115_t117 : z_115 ≠ t117 := Nat.ne_of_lt (Nat.lt_of_lt_of_le V_z_c115.lt gz117)
      have ne_b116_t117 : b116 ≠ t117 := Nat.ne_of_lt (Nat.lt_of_lt_of_le A116.lt gz117)
      have R := CHr.keep K117 (allS sf_b116 all0) C.1
      have sf_b116 := R.safe A116.lt sf_b116
      have C := C.trans R
      have hk := Nat.le_trans hk K117.1
      have V_z_c90 := V_z_c90.keep K117 (ninS ne_z_90_b116 nin0)
      have V_z_c115 := V_z_c115.keep K117 (ninS ne_z_115_b116 nin0)
      have A116 := A116.keep K117
      have g_t117 := gn117
      have O := O.keep K117 (allS g_b116 all0)
      obtain ⟨T118, h118, X118, e118, E118, A118, D118, -, st118⟩ := newO X117 hx hZ hown (hw _ (List.mem_of_getElem? (i := 5) rfl)) (hw _ (List.mem_of_getElem? (i := 6) rfl)) (hw _ (List.mem_of_getElem? (i := 7) rfl)) rfl (g := (mkF m 141 (own_F9 i1 i2 i3 i4 i5 i6 v3 v7 (1 : Int32) (1 : Int32) v14 v18 z_90 z_115 b116) [])) rfl (hb hby at_141) (by decide) (by decide)
      obtain ⟨b118, gq118⟩ : ∃ z, z = Array.size T117.heap := ⟨_, rfl⟩
      rw [← gq118] at A118 D118 st118
      have ne_z_90_b118 : z_90 ≠ b118 := Nat.ne_of_lt (Nat.lt_of_lt_of_le V_z_c90.lt (Nat.le_of_eq gq118.symm))
      have ne_z_115_b118 : z_115 ≠ b118 := Nat.ne_of_lt (Nat.lt_of_lt_of_le V_z_c115.lt (Nat.le_of_eq gq118.symm))
      have ne_b116_b118 : b116 ≠ b118 := Nat.ne_of_lt (Nat.lt_of_lt_of_le Ex117.lt (Nat.le_of_eq gq118.symm))
      have ne_t117_b118 : t117 ≠ b118 := Nat.ne_of_lt (Nat.lt_of_lt_of_le Av117.lt (Nat.le_of_eq gq118.symm))
      have g_b118 : n0 ≤ b118 := Nat.le_trans (O.1 ▸ O.2.1) (Nat.le_of_eq gq118.symm)
      have sf_b118 := own_safeN C.1 E118 (Nat.le_of_eq gq118.symm)
      have R := CHr.ext E118 C.1
      have sf_b116 := R.safe Ex117.lt sf_b116
      have C := C.trans R
      have hk := Nat.le_trans hk E118.1
      have V_z_c90 := V_z_c90.ext E118
      have V_z_c115 := V_z_c115.ext E118
      have Ex117 := Ex117.ext E118
      have Fc117 := Fc117.ext E118
      have Fv117 := Fv117.ext E118
      have Av117 := Av117.ext E118
      have O := O.ext E118
      have F_value_b118 : Fld Z h118 b118 "java/lang/String" "value" "[B" .null := D118 (Or.inr (hw _ (List.mem_of_getElem? (i := 20) rfl))) (ty := (.array .byte)) (by decide)
      have F_coder_b118 : Fld Z h118 b118 "java/lang/String" "coder" "B" (.int (0 : Int32)) := D118 (Or.inr (hw _ (List.mem_of_getElem? (i := 21) rfl))) (ty := .byte) (by decide)
      have hp_b118 := own_hp1 bc_115
      have h9_b118 : 0 < ([c1_115] : List Int32).length ∧ ([c1_115] : List Int32).length ≤ 2 := ⟨Nat.le_of_ble_eq_true rfl, Nat.le_of_ble_eq_true rfl⟩
      obtain ⟨_, _, ⟨T119, L119, k119, n119⟩, -, X119, ⟨Lc119, hQ119, l119, y119, z119⟩, st119⟩ := X118.specialBack hx (y := (⟨"java/lang/String", "<init>", "([C)V"⟩ : MethodName)) rfl hown (mvT hZ (hw _ (List.mem_of_getElem? (i := 8) rfl))) (mvT hZ (hw _ (List.mem_of_getElem? (i := 9) rfl))) (mvT hZ (hw _ (List.mem_of_getElem? (i := 10) rfl))) (by decide) (StrChars.Road.backV (W := 1) hZ (own_wNew hw) (kI := 4) (hw _ (List.mem_of_getElem? (i := 6) rfl)) (cs := ([c1_115] : List Int32)) (bs := (([c1_115] : List Int32).map (fun c => c.toInt8.toInt32))) (n := ([c1_115] : List Int32).length) g_b118 (O.1 ▸ O.2.1) A118 F_value_b118 F_coder_b118 V_z_c115 (SC.ext O.2) hzc rfl rfl h9_b118.1 (Nat.le_trans h9_b118.2 (by decide)) hp_b118 rfl (by decide) (by decide)) (g := (mkF m 147 (own_F9 i1 i2 i3 i4 i5 i6 v3 v7 (1 : Int32) (1 : Int32) v14 v18 z_90 z_115 b116) [(.ref z_115), (.ref b118), (.ref b118)])) rfl (by rw [hml]; rfl) (Steps.refl _) (a := b118) (argsL := [(.ref z_115)]) (rest := [(.ref b118)]) (lenOf pd__40_91C_41V rfl) rfl (by show 2 * 0 + _ ≤ _; exact Nat.le_of_eq rfl) (hb hby at_147) (fun _ _ => ⟨rfl, e118, (by decide : 5 + 1 ≤ _), Nat.le_trans (Nat.add_le_add_left h9_b118.2 12) (by decide)⟩)
      dsimp only [Pt.U, Pt.locs, Pt.cells, Pt.slots] at X119 l119 y119 z119 st119 hQ119
      subst l119 y119 z119
      have X119 := X119.more (Nat.le_refl _) (Nat.add_le_add_left h9_b118.2 12)
      obtain ⟨rfl, N119q, K119, Ex119, Fc119, t119, kb119, gn119, gz119, nx119, Fv119, Av119⟩ := hQ119
      have N119 := Fr.app N117 N119q
      have ne_z_90_t119 : z_90 ≠ t119 := Nat.ne_of_lt (Nat.lt_of_lt_of_le V_z_c90.lt gz119)
      have ne_z_115_t119 : z_115 ≠ t119 := Nat.ne_of_lt (Nat.lt_of_lt_of_le V_z_c115.lt gz119)
      have ne_b116_t119 : b116 ≠ t119 := Nat.ne_of_lt (Nat.lt_of_lt_of_le Ex117.lt gz119)
      have ne_t117_t119 : t117 ≠ t119 := Nat.ne_of_lt (Nat.lt_of_lt_of_le Av117.lt gz119)
      have ne_b118_t119 : b118 ≠ t119 := Nat.ne_of_lt (Nat.lt_of_lt_of_le A118.lt gz119)
      have R := CHr.keep K119 (allS sf_b118 all0) C.1
      have sf_b116 := R.safe Ex117.lt sf_b116
      have sf_b118 := R.safe A118.lt sf_b118
      have C := C.trans R
      have hk := Nat.le_trans hk K119.1
      have V_z_c90 := V_z_c90.keep K119 (ninS ne_z_90_b118 nin0)
      have V_z_c115 := V_z_c115.keep K119 (ninS ne_z_115_b118 nin0)
      have Ex117 := Ex117.keep K119
      have Fc117 := Fc117.keep K119 (ninS ne_b116_b118 nin0)
      have Fv117 := Fv117.keep K119 (ninS ne_b116_b118 nin0)
      have Av117 := Av117.keep K119 (ninS ne_t117_b118 nin0)
      have A118 := A118.keep K119
      have g_t119 := gn119
      have O := O.keep K119 (allS g_b118 all0)
      obtain ⟨cl120, Ar120, q120, Z120, N120, H120, G120⟩ := id V_z_c90
      have hin120 : ¬ ((0 : Int32) < 0 ∨ cl120.slots.size ≤ ((0 : Int32)).toNatClampNeg) := inb_of Z120 ⟨by decide, by decide⟩
      have hat120 : cl120.slots[((0 : Int32)).toNatClampNeg]? = some (.int c1_90) := H120.at hin120 rfl
      obtain ⟨cl121, Ar121, q121, Z121, N121, H121, G121⟩ := id V_z_c115
      have hin121 : ¬ ((0 : Int32) < 0 ∨ cl121.slots.size ≤ ((0 : Int32)).toNatClampNeg) := inb_of Z121 ⟨by decide, by decide⟩
      have hat121 : cl121.slots[((0 : Int32)).toNatClampNeg]? = some (.int c1_115) := H121.at hin121 rfl
      have w122 : ∀ t, Steps p.tables e below (T119.setTop (mkF m 173 (own_F10 i1 i2 i3 i4 i5 i6 v3 v7 (1 : Int32) (1 : Int32) v14 v18 z_90 z_115 b116 b118) [(.int c1_115), (.int c1_90)])) t → Steps p.tables e below (s₁.setTop (entryFrame m #[(.int i1), (.int i2), (.int i3), (.int i4), (.int i5), (.int i6)] maxLocals)) t := fun t k => by
        refine w91 t ?_
        refine XS.iload X90.here hx rfl (hb hby at_119) rfl ?_
        show Steps p.tables e below (T90.setTop (mkF m 121 (own_F7 i1 i2 i3 i4 i5 i6 v3 v7 (1 : Int32) (1 : Int32) v14 v18 z_90) [(.int (1 : Int32))])) _
        refine XS.iload X90.here hx rfl (hb hby at_121) rfl ?_
        show Steps p.tables e below (T90.setTop (mkF m 123 (own_F7 i1 i2 i3 i4 i5 i6 v3 v7 (1 : Int32) (1 : Int32) v14 v18 z_90) [(.int v14), (.int (1 : Int32))])) _
        refine XS.iload X90.here hx rfl (hb hby at_123) rfl ?_
        show Steps p.tables e below (T90.setTop (mkF m 125 (own_F7 i1 i2 i3 i4 i5 i6 v3 v7 (1 : Int32) (1 : Int32) v14 v18 z_90) [(.int v18), (.int v14), (.int (1 : Int32))])) _
        refine st115 _ ?_
        show Steps p.tables e below (T115.setTop (mkF m 128 (own_F7 i1 i2 i3 i4 i5 i6 v3 v7 (1 : Int32) (1 : Int32) v14 v18 z_90) [(.ref z_115)])) _
        refine XS.astore X115.here hx rfl (hb hby at_128) rfl rfl (l' := (own_F8 i1 i2 i3 i4 i5 i6 v3 v7 (1 : Int32) (1 : Int32) v14 v18 z_90 z_115)) rfl ?_
        show Steps p.tables e below (T115.setTop (mkF m 130 (own_F8 i1 i2 i3 i4 i5 i6 v3 v7 (1 : Int32) (1 : Int32) v14 v18 z_90 z_115) [])) _
        refine st116 _ ?_
        show Steps p.tables e below (T116.setTop (mkF m 133 (own_F8 i1 i2 i3 i4 i5 i6 v3 v7 (1 : Int32) (1 : Int32) v14 v18 z_90 z_115) [(.ref b116)])) _
        refine XS.dup X116.here hx rfl (hb hby at_133) rfl rfl ?_
        show Steps p.tables e below (T116.setTop (mkF m 134 (own_F8 i1 i2 i3 i4 i5 i6 v3 v7 (1 : Int32) (1 : Int32) v14 v18 z_90 z_115) [(.ref b116), (.ref b116)])) _
        refine XS.aload X116.here hx rfl (hb hby at_134) rfl rfl ?_
        show Steps p.tables e below (T116.setTop (mkF m 136 (own_F8 i1 i2 i3 i4 i5 i6 v3 v7 (1 : Int32) (1 : Int32) v14 v18 z_90 z_115) [(.ref z_90), (.ref b116), (.ref b116)])) _
        refine st117.trans ?_
        show Steps p.tables e below (T117.setTop (mkF m 139 (own_F8 i1 i2 i3 i4 i5 i6 v3 v7 (1 : Int32) (1 : Int32) v14 v18 z_90 z_115) [(.ref b116)])) _
        refine XS.astore X117.here hx rfl (hb hby at_139) rfl rfl (l' := (own_F9 i1 i2 i3 i4 i5 i6 v3 v7 (1 : Int32) (1 : Int32) v14 v18 z_90 z_115 b116)) rfl ?_
        show Steps p.tables e below (T117.setTop (mkF m 141 (own_F9 i1 i2 i3 i4 i5 i6 v3 v7 (1 : Int32) (1 : Int32) v14 v18 z_90 z_115 b116) [])) _
        refine st118 _ ?_
        show Steps p.tables e below (T118.setTop (mkF m 144 (own_F9 i1 i2 i3 i4 i5 i6 v3 v7 (1 : Int32) (1 : Int32) v14 v18 z_90 z_115 b116) [(.ref b118)])) _
        refine XS.dup X118.here hx rfl (hb hby at_144) rfl rfl ?_
        show Steps p.tables e below (T118.setTop (mkF m 145 (own_F9 i1 i2 i3 i4 i5 i6 v3 v7 (1 : Int32) (1 : Int32) v14 v18 z_90 z_115 b116) [(.ref b118), (.ref b118)])) _
        refine XS.aload X118.here hx rfl (hb hby at_145) rfl rfl ?_
        show Steps p.tables e below (T118.setTop (mkF m 147 (own_F9 i1 i2 i3 i4 i5 i6 v3 v7 (1 : Int32) (1 : Int32) v14 v18 z_90 z_115 b116) [(.ref z_115), (.ref b118), (.ref b118)])) _
        refine st119.trans ?_
        show Steps p.tables e below (T119.setTop (mkF m 150 (own_F9 i1 i2 i3 i4 i5 i6 v3 v7 (1 : Int32) (1 : Int32) v14 v18 z_90 z_115 b116) [(.ref b118)])) _
        refine XS.astore X119.here hx rfl (hb hby at_150) rfl rfl (l' := (own_F10 i1 i2 i3 i4 i5 i6 v3 v7 (1 : Int32) (1 : Int32) v14 v18 z_90 z_115 b116 b118)) rfl ?_
        show Steps p.tables e below (T119.setTop (mkF m 152 (own_F10 i1 i2 i3 i4 i5 i6 v3 v7 (1 : Int32) (1 : Int32) v14 v18 z_90 z_115 b116 b118) [])) _
        refine XS.iload X119.here hx rfl (hb hby at_152) rfl ?_
        show Steps p.tables e below (T119.setTop (mkF m 154 (own_F10 i1 i2 i3 i4 i5 i6 v3 v7 (1 : Int32) (1 : Int32) v14 v18 z_90 z_115 b116 b118) [(.int (1 : Int32))])) _
        refine XS.iload X119.here hx rfl (hb hby at_154) rfl ?_
        show Steps p.tables e below (T119.setTop (mkF m 156 (own_F10 i1 i2 i3 i4 i5 i6 v3 v7 (1 : Int32) (1 : Int32) v14 v18 z_90 z_115 b116 b118) [(.int (1 : Int32)), (.int (1 : Int32))])) _
        refine XS.icmpNo X119.here hx rfl (hb hby at_156) rfl (teq (rfl : (1 : Int32) = (1 : Int32))).2 ?_
        show Steps p.tables e below (T119.setTop (mkF m 159 (own_F10 i1 i2 i3 i4 i5 i6 v3 v7 (1 : Int32) (1 : Int32) v14 v18 z_90 z_115 b116 b118) [])) _
        refine XS.iload X119.here hx rfl (hb hby at_159) rfl ?_
        show Steps p.tables e below (T119.setTop (mkF m 161 (own_F10 i1 i2 i3 i4 i5 i6 v3 v7 (1 : Int32) (1 : Int32) v14 v18 z_90 z_115 b116 b118) [(.int (1 : Int32))])) _
        refine XS.iconst X119.here hx rfl (hb hby at_161) ?_
        show Steps p.tables e below (T119.setTop (mkF m 162 (own_F10 i1 i2 i3 i4 i5 i6 v3 v7 (1 : Int32) (1 : Int32) v14 v18 z_90 z_115 b116 b118) [(.int (1 : Int32)), (.int (1 : Int32))])) _
        refine XS.icmpNo X119.here hx rfl (hb hby at_162) rfl (flt ((by decide) : ¬ ((1 : Int32) < (1 : Int32)))).1 ?_
        show Steps p.tables e below (T119.setTop (mkF m 165 (own_F10 i1 i2 i3 i4 i5 i6 v3 v7 (1 : Int32) (1 : Int32) v14 v18 z_90 z_115 b116 b118) [])) _
        refine XS.aload X119.here hx rfl (hb hby at_165) rfl rfl ?_
        show Steps p.tables e below (T119.setTop (mkF m 167 (own_F10 i1 i2 i3 i4 i5 i6 v3 v7 (1 : Int32) (1 : Int32) v14 v18 z_90 z_115 b116 b118) [(.ref z_90)])) _
        refine XS.iconst X119.here hx rfl (hb hby at_167) ?_
        show Steps p.tables e below (T119.setTop (mkF m 168 (own_F10 i1 i2 i3 i4 i5 i6 v3 v7 (1 : Int32) (1 : Int32) v14 v18 z_90 z_115 b116 b118) [(.int (0 : Int32)), (.ref z_90)])) _
        refine X119.caload hx (j := (0 : Int32)) (v := (.int c1_90)) (by exact Ar120.1) (State.isArrayOf_alike hZ.alike Ar120.2.1) Ar120.2.2 hin120 hat120 (g := (mkF m 168 (own_F10 i1 i2 i3 i4 i5 i6 v3 v7 (1 : Int32) (1 : Int32) v14 v18 z_90 z_115 b116 b118) [(.int (0 : Int32)), (.ref z_90)])) rfl rfl (hb hby at_168) _ ?_
        show Steps p.tables e below (T119.setTop (mkF m 169 (own_F10 i1 i2 i3 i4 i5 i6 v3 v7 (1 : Int32) (1 : Int32) v14 v18 z_90 z_115 b116 b118) [(.int c1_90)])) _
        refine XS.aload X119.here hx rfl (hb hby at_169) rfl rfl ?_
        show Steps p.tables e below (T119.setTop (mkF m 171 (own_F10 i1 i2 i3 i4 i5 i6 v3 v7 (1 : Int32) (1 : Int32) v14 v18 z_90 z_115 b116 b118) [(.ref z_115), (.int c1_90)])) _
        refine XS.iconst X119.here hx rfl (hb hby at_171) ?_
        show Steps p.tables e below (T119.setTop (mkF m 172 (own_F10 i1 i2 i3 i4 i5 i6 v3 v7 (1 : Int32) (1 : Int32) v14 v18 z_90 z_115 b116 b118) [(.int (0 : Int32)), (.ref z_115), (.int c1_90)])) _
        refine X119.caload hx (j := (0 : Int32)) (v := (.int c1_115)) (by exact Ar121.1) (State.isArrayOf_alike hZ.alike Ar121.2.1) Ar121.2.2 hin121 hat121 (g := (mkF m 172 (own_F10 i1 i2 i3 i4 i5 i6 v3 v7 (1 : Int32) (1 : Int32) v14 v18 z_90 z_115 b116 b118) [(.int (0 : Int32)), (.ref z_115), (.int c1_90)])) rfl rfl (hb hby at_172) _ ?_
        show Steps p.tables e below (T119.setTop (mkF m 173 (own_F10 i1 i2 i3 i4 i5 i6 v3 v7 (1 : Int32) (1 : Int32) v14 v18 z_90 z_115 b116 b118) [(.int c1_115), (.int c1_90)])) _
        exact k
      obtain ⟨sm, hsm⟩ : ∃ v : Int32, v = (if c1_90 = c1_115 then (1 : Int32) else (0 : Int32)) := ⟨_, rfl⟩
      have w124 : ∀ t, Steps p.tables e below (T119.setTop (mkF m 198 (own_F10 i1 i2 i3 i4 i5 i6 v3 v7 (1 : Int32) (1 : Int32) v14 v18 z_90 z_115 b116 b118) [(.int sm)])) t → Steps p.tables e below (s₁.setTop (entryFrame m #[(.int i1), (.int i2), (.int i3), (.int i4), (.int i5), (.int i6)] maxLocals)) t := fun t k => by
        refine w122 t ?_
        show Steps p.tables e below (T119.setTop (mkF m 173 (own_F10 i1 i2 i3 i4 i5 i6 v3 v7 (1 : Int32) (1 : Int32) v14 v18 z_90 z_115 b116 b118) [(.int c1_115), (.int c1_90)])) _
        by_cases hm123 : c1_90 = c1_115
        · refine XS.icmpNo X119.here hx rfl (hb hby at_173) rfl (teq hm123).2 ?_
          show Steps p.tables e below (T119.setTop (mkF m 176 (own_F10 i1 i2 i3 i4 i5 i6 v3 v7 (1 : Int32) (1 : Int32) v14 v18 z_90 z_115 b116 b118) [])) _
          refine XS.iload X119.here hx rfl (hb hby at_176) rfl ?_
          show Steps p.tables e below (T119.setTop (mkF m 178 (own_F10 i1 i2 i3 i4 i5 i6 v3 v7 (1 : Int32) (1 : Int32) v14 v18 z_90 z_115 b116 b118) [(.int (1 : Int32))])) _
          refine XS.iconst X119.here hx rfl (hb hby at_178) ?_
          show Steps p.tables e below (T119.setTop (mkF m 179 (own_F10 i1 i2 i3 i4 i5 i6 v3 v7 (1 : Int32) (1 : Int32) v14 v18 z_90 z_115 b116 b118) [(.int (2 : Int32)), (.int (1 : Int32))])) _
          refine XS.icmpYes X119.here hx rfl (pc0 := 179) (pc' := 193) rfl (hb hby at_179) rfl (tlt ((by decide) : (1 : Int32) < (2 : Int32))).1 (by decide) (by decide) ?_
          show Steps p.tables e below (T119.setTop (mkF m 193 (own_F10 i1 i2 i3 i4 i5 i6 v3 v7 (1 : Int32) (1 : Int32) v14 v18 z_90 z_115 b116 b118) [])) _
          refine XS.iconst X119.here hx rfl (hb hby at_193) ?_
          show Steps p.tables e below (T119.setTop (mkF m 194 (own_F10 i1 i2 i3 i4 i5 i6 v3 v7 (1 : Int32) (1 : Int32) v14 v18 z_90 z_115 b116 b118) [(.int (1 : Int32))])) _
          refine XS.goto X119.here hx rfl (pc0 := 194) (pc' := 198) rfl (hb hby at_194) (by decide) (by decide) ?_
          show Steps p.tables e below (T119.setTop (mkF m 198 (own_F10 i1 i2 i3 i4 i5 i6 v3 v7 (1 : Int32) (1 : Int32) v14 v18 z_90 z_115 b116 b118) [(.int (1 : Int32))])) _
          rw [show sm = (1 : Int32) from by rw [hsm]; simp only [if_pos hm123]] at k
          exact k
        · refine XS.icmpYes X119.here hx rfl (pc0 := 173) (pc' := 197) rfl (hb hby at_173) rfl (feq hm123).2 (by decide) (by decide) ?_
          show Steps p.tables e below (T119.setTop (mkF m 197 (own_F10 i1 i2 i3 i4 i5 i6 v3 v7 (1 : Int32) (1 : Int32) v14 v18 z_90 z_115 b116 b118) [])) _
          refine XS.iconst X119.here hx rfl (hb hby at_197) ?_
          show Steps p.tables e below (T119.setTop (mkF m 198 (own_F10 i1 i2 i3 i4 i5 i6 v3 v7 (1 : Int32) (1 : Int32) v14 v18 z_90 z_115 b116 b118) [(.int (0 : Int32))])) _
          rw [show sm = (0 : Int32) from by rw [hsm]; simp only [if_neg hm123]] at k
          exact k
      have w125 : ∀ t, Steps p.tables e below (T119.setTop (mkF m 203 (own_F11 i1 i2 i3 i4 i5 i6 v3 v7 (1 : Int32) (1 : Int32) v14 v18 z_90 z_115 b116 b118 sm) [(.int v3), (.int i1)])) t → Steps p.tables e below (s₁.setTop (entryFrame m #[(.int i1), (.int i2), (.int i3), (.int i4), (.int i5), (.int i6)] maxLocals)) t := fun t k => by
        refine w124 t ?_
        refine XS.istore X119.here hx rfl (hb hby at_198) rfl (l' := (own_F11 i1 i2 i3 i4 i5 i6 v3 v7 (1 : Int32) (1 : Int32) v14 v18 z_90 z_115 b116 b118 sm)) rfl ?_
        show Steps p.tables e below (T119.setTop (mkF m 200 (own_F11 i1 i2 i3 i4 i5 i6 v3 v7 (1 : Int32) (1 : Int32) v14 v18 z_90 z_115 b116 b118 sm) [])) _
        refine XS.iloadN X119.here hx rfl (hb hby at_200) rfl ?_
        show Steps p.tables e below (T119.setTop (mkF m 201 (own_F11 i1 i2 i3 i4 i5 i6 v3 v7 (1 : Int32) (1 : Int32) v14 v18 z_90 z_115 b116 b118 sm) [(.int i1)])) _
        refine XS.iload X119.here hx rfl (hb hby at_201) rfl ?_
        show Steps p.tables e below (T119.setTop (mkF m 203 (own_F11 i1 i2 i3 i4 i5 i6 v3 v7 (1 : Int32) (1 : Int32) v14 v18 z_90 z_115 b116 b118 sm) [(.int v3), (.int i1)])) _
        exact k
      obtain ⟨ve, hve⟩ : ∃ v : Int32, v = (if i1 = v3 then (if i3 = v7 then (if sm = (0 : Int32) then (0 : Int32) else (1 : Int32)) else (0 : Int32)) else (0 : Int32)) := ⟨_, rfl⟩
      have w129 : ∀ t, Steps p.tables e below (T119.setTop (mkF m 222 (own_F11 i1 i2 i3 i4 i5 i6 v3 v7 (1 : Int32) (1 : Int32) v14 v18 z_90 z_115 b116 b118 sm) [(.int ve)])) t → Steps p.tables e below (s₁.setTop (entryFrame m #[(.int i1), (.int i2), (.int i3), (.int i4), (.int i5), (.int i6)] maxLocals)) t := fun t k => by
        refine w125 t ?_
        show Steps p.tables e below (T119.setTop (mkF m 203 (own_F11 i1 i2 i3 i4 i5 i6 v3 v7 (1 : Int32) (1 : Int32) v14 v18 z_90 z_115 b116 b118 sm) [(.int v3), (.int i1)])) _
        by_cases hm126 : i1 = v3
        · refine XS.icmpNo X119.here hx rfl (hb hby at_203) rfl (teq hm126).2 ?_
          show Steps p.tables e below (T119.setTop (mkF m 206 (own_F11 i1 i2 i3 i4 i5 i6 v3 v7 (1 : Int32) (1 : Int32) v14 v18 z_90 z_115 b116 b118 sm) [])) _
          refine XS.iloadN X119.here hx rfl (hb hby at_206) rfl ?_
          show Steps p.tables e below (T119.setTop (mkF m 207 (own_F11 i1 i2 i3 i4 i5 i6 v3 v7 (1 : Int32) (1 : Int32) v14 v18 z_90 z_115 b116 b118 sm) [(.int i3)])) _
          refine XS.iload X119.here hx rfl (hb hby at_207) rfl ?_
          show Steps p.tables e below (T119.setTop (mkF m 209 (own_F11 i1 i2 i3 i4 i5 i6 v3 v7 (1 : Int32) (1 : Int32) v14 v18 z_90 z_115 b116 b118 sm) [(.int v7), (.int i3)])) _
          by_cases hm127 : i3 = v7
          · refine XS.icmpNo X119.here hx rfl (hb hby at_209) rfl (teq hm127).2 ?_
            show Steps p.tables e below (T119.setTop (mkF m 212 (own_F11 i1 i2 i3 i4 i5 i6 v3 v7 (1 : Int32) (1 : Int32) v14 v18 z_90 z_115 b116 b118 sm) [])) _
            refine XS.iload X119.here hx rfl (hb hby at_212) rfl ?_
            show Steps p.tables e below (T119.setTop (mkF m 214 (own_F11 i1 i2 i3 i4 i5 i6 v3 v7 (1 : Int32) (1 : Int32) v14 v18 z_90 z_115 b116 b118 sm) [(.int sm)])) _
            by_cases hm128 : sm = (0 : Int32)
            · refine XS.ifYes X119.here hx rfl (pc0 := 214) (pc' := 221) rfl (hb hby at_214) rfl ((if0 _ _).trans (teq hm128).1) (by decide) (by decide) ?_
              show Steps p.tables e below (T119.setTop (mkF m 221 (own_F11 i1 i2 i3 i4 i5 i6 v3 v7 (1 : Int32) (1 : Int32) v14 v18 z_90 z_115 b116 b118 sm) [])) _
              refine XS.iconst X119.here hx rfl (hb hby at_221) ?_
              show Steps p.tables e below (T119.setTop (mkF m 222 (own_F11 i1 i2 i3 i4 i5 i6 v3 v7 (1 : Int32) (1 : Int32) v14 v18 z_90 z_115 b116 b118 sm) [(.int (0 : Int32))])) _
              rw [show ve = (0 : Int32) from by rw [hve]; simp only [if_pos hm126, if_pos hm127, if_pos hm128]] at k
              exact k
            · refine XS.ifNo X119.here hx rfl (hb hby at_214) rfl ((if0 _ _).trans (feq hm128).1) ?_
              show Steps p.tables e below (T119.setTop (mkF m 217 (own_F11 i1 i2 i3 i4 i5 i6 v3 v7 (1 : Int32) (1 : Int32) v14 v18 z_90 z_115 b116 b118 sm) [])) _
              refine XS.iconst X119.here hx rfl (hb hby at_217) ?_
              show Steps p.tables e below (T119.setTop (mkF m 218 (own_F11 i1 i2 i3 i4 i5 i6 v3 v7 (1 : Int32) (1 : Int32) v14 v18 z_90 z_115 b116 b118 sm) [(.int (1 : Int32))])) _
              refine XS.goto X119.here hx rfl (pc0 := 218) (pc' := 222) rfl (hb hby at_218) (by decide) (by decide) ?_
              show Steps p.tables e below (T119.setTop (mkF m 222 (own_F11 i1 i2 i3 i4 i5 i6 v3 v7 (1 : Int32) (1 : Int32) v14 v18 z_90 z_115 b116 b118 sm) [(.int (1 : Int32))])) _
              rw [show ve = (1 : Int32) from by rw [hve]; simp only [if_pos hm126, if_pos hm127, if_neg hm128]] at k
              exact k
          · refine XS.icmpYes X119.here hx rfl (pc0 := 209) (pc' := 221) rfl (hb hby at_209) rfl (feq hm127).2 (by decide) (by decide) ?_
            show Steps p.tables e below (T119.setTop (mkF m 221 (own_F11 i1 i2 i3 i4 i5 i6 v3 v7 (1 : Int32) (1 : Int32) v14 v18 z_90 z_115 b116 b118 sm) [])) _
            refine XS.iconst X119.here hx rfl (hb hby at_221) ?_
            show Steps p.tables e below (T119.setTop (mkF m 222 (own_F11 i1 i2 i3 i4 i5 i6 v3 v7 (1 : Int32) (1 : Int32) v14 v18 z_90 z_115 b116 b118 sm) [(.int (0 : Int32))])) _
            rw [show ve = (0 : Int32) from by rw [hve]; simp only [if_pos hm126, if_neg hm127]] at k
            exact k
        · refine XS.icmpYes X119.here hx rfl (pc0 := 203) (pc' := 221) rfl (hb hby at_203) rfl (feq hm126).2 (by decide) (by decide) ?_
          show Steps p.tables e below (T119.setTop (mkF m 221 (own_F11 i1 i2 i3 i4 i5 i6 v3 v7 (1 : Int32) (1 : Int32) v14 v18 z_90 z_115 b116 b118 sm) [])) _
          refine XS.iconst X119.here hx rfl (hb hby at_221) ?_
          show Steps p.tables e below (T119.setTop (mkF m 222 (own_F11 i1 i2 i3 i4 i5 i6 v3 v7 (1 : Int32) (1 : Int32) v14 v18 z_90 z_115 b116 b118 sm) [(.int (0 : Int32))])) _
          rw [show ve = (0 : Int32) from by rw [hve]; simp only [if_neg hm126]] at k
          exact k
      obtain ⟨T130, h130, X130, e130, E130, A130, D130, -, st130⟩ := newO X119 hx hZ hown (hw _ (List.mem_of_getElem? (i := 26) rfl)) (hw _ (List.mem_of_getElem? (i := 27) rfl)) (hw _ (List.mem_of_getElem? (i := 28) rfl)) rfl (g := (mkF m 224 (own_F12 i1 i2 i3 i4 i5 i6 v3 v7 (1 : Int32) (1 : Int32) v14 v18 z_90 z_115 b116 b118 sm ve) [])) rfl (hb hby at_224) (by decide) (by decide)
      obtain ⟨b130, gq130⟩ : ∃ z, z = Array.size T119.heap := ⟨_, rfl⟩
      rw [← gq130] at A130 D130 st130
      have ne_z_90_b130 : z_90 ≠ b130 := Nat.ne_of_lt (Nat.lt_of_lt_of_le V_z_c90.lt (Nat.le_of_eq gq130.symm))
      have ne_z_115_b130 : z_115 ≠ b130 := Nat.ne_of_lt (Nat.lt_of_lt_of_le V_z_c115.lt (Nat.le_of_eq gq130.symm))
      have ne_b116_b130 : b116 ≠ b130 := Nat.ne_of_lt (Nat.lt_of_lt_of_le Ex117.lt (Nat.le_of_eq gq130.symm))
      have ne_t117_b130 : t117 ≠ b130 := Nat.ne_of_lt (Nat.lt_of_lt_of_le Av117.lt (Nat.le_of_eq gq130.symm))
      have ne_b118_b130 : b118 ≠ b130 := Nat.ne_of_lt (Nat.lt_of_lt_of_le Ex119.lt (Nat.le_of_eq gq130.symm))
      have ne_t119_b130 : t119 ≠ b130 := Nat.ne_of_lt (Nat.lt_of_lt_of_le Av119.lt (Nat.le_of_eq gq130.symm))
      have g_b130 : n0 ≤ b130 := Nat.le_trans (O.1 ▸ O.2.1) (Nat.le_of_eq gq130.symm)
      have sf_b130 := own_safeN C.1 E130 (Nat.le_of_eq gq130.symm)
      have R := CHr.ext E130 C.1
      have sf_b116 := R.safe Ex117.lt sf_b116
      have sf_b118 := R.safe Ex119.lt sf_b118
      have C := C.trans R
      have hk := Nat.le_trans hk E130.1
      have V_z_c90 := V_z_c90.ext E130
      have V_z_c115 := V_z_c115.ext E130
      have Ex117 := Ex117.ext E130
      have Fc117 := Fc117.ext E130
      have Fv117 := Fv117.ext E130
      have Av117 := Av117.ext E130
      have Ex119 := Ex119.ext E130
      have Fc119 := Fc119.ext E130
      have Fv119 := Fv119.ext E130
      have Av119 := Av119.ext E130
      have O := O.ext E130
      have F_id_b130 : Fld Z h130 b130 "com/example/whirligig/whirligig/DownloadInfoIndication$Unreadable" "id" "I" (.int (0 : Int32)) := D130 (Or.inr (hw _ (List.mem_of_getElem? (i := 39) rfl))) (ty := .int) (by decide)
      have F_version_b130 : Fld Z h130 b130 "com/example/whirligig/whirligig/DownloadInfoIndication$Unreadable" "version" "I" (.int (0 : Int32)) := D130 (Or.inr (hw _ (List.mem_of_getElem? (i := 41) rfl))) (ty := .int) (by decide)
      have F_reason_b130 : Fld Z h130 b130 "com/example/whirligig/whirligig/DownloadInfoIndication$Unreadable" "reason" "Ljava/lang/String;" .null := D130 (Or.inr (hw _ (List.mem_of_getElem? (i := 43) rfl))) (ty := (.object "java/lang/String")) (by decide)
      obtain ⟨_, _, ⟨T131, L131, k131, n131⟩, -, X131, ⟨Lc131, hQ131, l131, y131, z131⟩, st131⟩ := X130.specialBack hx (y := (⟨"com/example/whirligig/whirligig/DownloadInfoIndication$Unreadable", "<init>", "(IILjava/lang/String;)V"⟩ : MethodName)) rfl hown (mvT hZ (hw _ (List.mem_of_getElem? (i := 29) rfl))) (mvT hZ (hw _ (List.mem_of_getElem? (i := 30) rfl))) (mvT hZ (hw _ (List.mem_of_getElem? (i := 31) rfl))) (by decide) (backOf (W := 1) (rm5 l Z a0 hw [] b130 i1 i3 b116 h130 n0 O A130 F_id_b130 F_version_b130 F_reason_b130 g_b130) hZ (hw _ (List.mem_of_getElem? (i := 31) rfl)) (hw _ (List.mem_of_getElem? (i := 28) rfl)) (by decide) (by decide)) (g := (mkF m 232 (own_F12 i1 i2 i3 i4 i5 i6 v3 v7 (1 : Int32) (1 : Int32) v14 v18 z_90 z_115 b116 b118 sm ve) [(.ref b116), (.int i3), (.int i1), (.ref b130), (.ref b130)])) rfl (by rw [hml]; rfl) (Steps.refl _) (a := b130) (argsL := [(.int i1), (.int i3), (.ref b116)]) (rest := [(.ref b130)]) (lenOf pd__40IILjava_47lang_47String_59_41V rfl) rfl (by show 2 * 0 + _ ≤ _; exact Nat.le_of_eq rfl) (hb hby at_232) (fun _ _ => ⟨rfl, e130, (by decide : 7 + 0 ≤ _), (by decide : 17 + 0 ≤ _)⟩)
      dsimp only [Pt.U, Pt.locs, Pt.cells, Pt.slots] at X131 l131 y131 z131 st131 hQ131
      subst l131 y131 z131
      obtain ⟨rfl, N131q, K131, F_i_a_c131, F_w_a_c131, F_r_a_c131⟩ := hQ131
      have N131 := Fr.app N119 N131q
      have R := CHr.keep K131 (allS sf_b130 all0) C.1
      have sf_b116 := R.safe Ex117.lt sf_b116
      have sf_b118 := R.safe Ex119.lt sf_b118
      have sf_b130 := R.safe A130.lt sf_b130
      have C := C.trans R
      have hk := Nat.le_trans hk K131.1
      have V_z_c90 := V_z_c90.keep K131 (ninS ne_z_90_b130 nin0)
      have V_z_c115 := V_z_c115.keep K131 (ninS ne_z_115_b130 nin0)
      have Ex117 := Ex117.keep K131
      have Fc117 := Fc117.keep K131 (ninS ne_b116_b130 nin0)
      have Fv117 := Fv117.keep K131 (ninS ne_b116_b130 nin0)
      have Av117 := Av117.keep K131 (ninS ne_t117_b130 nin0)
      have Ex119 := Ex119.keep K131
      have Fc119 := Fc119.keep K131 (ninS ne_b118_b130 nin0)
      have Fv119 := Fv119.keep K131 (ninS ne_b118_b130 nin0)
      have Av119 := Av119.keep K131 (ninS ne_t119_b130 nin0)
      have A130 := A130.keep K131
      have O := O.keep K131 (allS g_b130 all0)
      obtain ⟨T132, h132, X132, e132, E132, A132, D132, -, st132⟩ := newO X131 hx hZ hown (hw _ (List.mem_of_getElem? (i := 26) rfl)) (hw _ (List.mem_of_getElem? (i := 27) rfl)) (hw _ (List.mem_of_getElem? (i := 28) rfl)) rfl (g := (mkF m 237 (own_F13 i1 i2 i3 i4 i5 i6 v3 v7 (1 : Int32) (1 : Int32) v14 v18 z_90 z_115 b116 b118 sm ve b130) [])) rfl (hb hby at_237) (by decide) (by decide)
      obtain ⟨b132, gq132⟩ : ∃ z, z = Array.size T131.heap := ⟨_, rfl⟩
      rw [← gq132] at A132 D132 st132
      have ne_z_90_b132 : z_90 ≠ b132 := Nat.ne_of_lt (Nat.lt_of_lt_of_le V_z_c90.lt (Nat.le_of_eq gq132.symm))
      have ne_z_115_b132 : z_115 ≠ b132 := Nat.ne_of_lt (Nat.lt_of_lt_of_le V_z_c115.lt (Nat.le_of_eq gq132.symm))
      have ne_b116_b132 : b116 ≠ b132 := Nat.ne_of_lt (Nat.lt_of_lt_of_le Ex117.lt (Nat.le_of_eq gq132.symm))
      have ne_t117_b132 : t117 ≠ b132 := Nat.ne_of_lt (Nat.lt_of_lt_of_le Av117.lt (Nat.le_of_eq gq132.symm))
      have ne_b118_b132 : b118 ≠ b132 := Nat.ne_of_lt (Nat.lt_of_lt_of_le Ex119.lt (Nat.le_of_eq gq132.symm))
      have ne_t119_b132 : t119 ≠ b132 := Nat.ne_of_lt (Nat.lt_of_lt_of_le Av119.lt (Nat.le_of_eq gq132.symm))
      have ne_b130_b132 : b130 ≠ b132 := Nat.ne_of_lt (Nat.lt_of_lt_of_le A130.lt (Nat.le_of_eq gq132.symm))
      have g_b132 : n0 ≤ b132 := Nat.le_trans (O.1 ▸ O.2.1) (Nat.le_of_eq gq132.symm)
      have sf_b132 := own_safeN C.1 E132 (Nat.le_of_eq gq132.symm)
      have R := CHr.ext E132 C.1
      have sf_b116 := R.safe Ex117.lt sf_b116
      have sf_b118 := R.safe Ex119.lt sf_b118
      have sf_b130 := R.safe A130.lt sf_b130
      have C := C.trans R
      have hk := Nat.le_trans hk E132.1
      have V_z_c90 := V_z_c90.ext E132
      have V_z_c115 := V_z_c115.ext E132
      have Ex117 := Ex117.ext E132
      have Fc117 := Fc117.ext E132
      have Fv117 := Fv117.ext E132
      have Av117 := Av117.ext E132
      have Ex119 := Ex119.ext E132
      have Fc119 := Fc119.ext E132
      have Fv119 := Fv119.ext E132
      have Av119 := Av119.ext E132
      have A130 := A130.ext E132
      have F_i_a_c131 := F_i_a_c131.ext E132
      have F_w_a_c131 := F_w_a_c131.ext E132
      have F_r_a_c131 := F_r_a_c131.ext E132
      have O := O.ext E132
      have F_id_b132 : Fld Z h132 b132 "com/example/whirligig/whirligig/DownloadInfoIndication$Unreadable" "id" "I" (.int (0 : Int32)) := D132 (Or.inr (hw _ (List.mem_of_getElem? (i := 39) rfl))) (ty := .int) (by decide)
      have F_version_b132 : Fld Z h132 b132 "com/example/whirligig/whirligig/DownloadInfoIndication$Unreadable" "version" "I" (.int (0 : Int32)) := D132 (Or.inr (hw _ (List.mem_of_getElem? (i := 41) rfl))) (ty := .int) (by decide)
      have F_reason_b132 : Fld Z h132 b132 "com/example/whirligig/whirligig/DownloadInfoIndication$Unreadable" "reason" "Ljava/lang/String;" .null := D132 (Or.inr (hw _ (List.mem_of_getElem? (i := 43) rfl))) (ty := (.object "java/lang/String")) (by decide)
      obtain ⟨_, _, ⟨T133, L133, k133, n133⟩, -, X133, ⟨Lc133, hQ133, l133, y133, z133⟩, st133⟩ := X132.specialBack hx (y := (⟨"com/example/whirligig/whirligig/DownloadInfoIndication$Unreadable", "<init>", "(IILjava/lang/String;)V"⟩ : MethodName)) rfl hown (mvT hZ (hw _ (List.mem_of_getElem? (i := 29) rfl))) (mvT hZ (hw _ (List.mem_of_getElem? (i := 30) rfl))) (mvT hZ (hw _ (List.mem_of_getElem? (i := 31) rfl))) (by decide) (backOf (W := 1) (rm5 l Z a0 hw [] b132 v3 v7 b118 h132 n0 O A132 F_id_b132 F_version_b132 F_reason_b132 g_b132) hZ (hw _ (List.mem_of_getElem? (i := 31) rfl)) (hw _ (List.mem_of_getElem? (i := 28) rfl)) (by decide) (by decide)) (g := (mkF m 247 (own_F13 i1 i2 i3 i4 i5 i6 v3 v7 (1 : Int32) (1 : Int32) v14 v18 z_90 z_115 b116 b118 sm ve b130) [(.ref b118), (.int v7), (.int v3), (.ref b132), (.ref b132)])) rfl (by rw [hml]; rfl) (Steps.refl _) (a := b132) (argsL := [(.int v3), (.int v7), (.ref b118)]) (rest := [(.ref b132)]) (lenOf pd__40IILjava_47lang_47String_59_41V rfl) rfl (by show 2 * 0 + _ ≤ _; exact Nat.le_of_eq rfl) (hb hby at_247) (fun _ _ => ⟨rfl, e132, (by decide : 8 + 0 ≤ _), (by decide : 20 + 0 ≤ _)⟩)
      dsimp only [Pt.U, Pt.locs, Pt.cells, Pt.slots] at X133 l133 y133 z133 st133 hQ133
      subst l133 y133 z133
      obtain ⟨rfl, N133q, K133, F_i_a_c133, F_w_a_c133, F_r_a_c133⟩ := hQ133
      have N133 := Fr.app N131 N133q
      have R := CHr.keep K133 (allS sf_b132 all0) C.1
      have sf_b116 := R.safe Ex117.lt sf_b116
      have sf_b118 := R.safe Ex119.lt sf_b118
      have sf_b130 := R.safe A130.lt sf_b130
      have sf_b132 := R.safe A132.lt sf_b132
      have C := C.trans R
      have hk := Nat.le_trans hk K133.1
      have V_z_c90 := V_z_c90.keep K133 (ninS ne_z_90_b132 nin0)
      have V_z_c115 := V_z_c115.keep K133 (ninS ne_z_115_b132 nin0)
      have Ex117 := Ex117.keep K133
      have Fc117 := Fc117.keep K133 (ninS ne_b116_b132 nin0)
      have Fv117 := Fv117.keep K133 (ninS ne_b116_b132 nin0)
      have Av117 := Av117.keep K133 (ninS ne_t117_b132 nin0)
      have Ex119 := Ex119.keep K133
      have Fc119 := Fc119.keep K133 (ninS ne_b118_b132 nin0)
      have Fv119 := Fv119.keep K133 (ninS ne_b118_b132 nin0)
      have Av119 := Av119.keep K133 (ninS ne_t119_b132 nin0)
      have A130 := A130.keep K133
      have F_i_a_c131 := F_i_a_c131.keep K133 (ninS ne_b130_b132 nin0)
      have F_w_a_c131 := F_w_a_c131.keep K133 (ninS ne_b130_b132 nin0)
      have F_r_a_c131 := F_r_a_c131.keep K133 (ninS ne_b130_b132 nin0)
      have A132 := A132.keep K133
      have O := O.keep K133 (allS g_b132 all0)
      obtain ⟨cq134, kq134, q134a, q134b, q134c⟩ := isOf hZ rfl A130
      obtain ⟨_, _, ⟨T134, L134, k134, n134⟩, -, X134, ⟨Lc134, hQ134, l134, y134, z134⟩, st134⟩ := X133.virtualBack hx (y := (⟨"com/example/whirligig/whirligig/DownloadInfoIndication$Unreadable", "equals", "(Ljava/lang/Object;)Z"⟩ : MethodName)) (z := (⟨"com/example/whirligig/whirligig/DownloadInfoIndication$Unreadable", "equals", "(Ljava/lang/Object;)Z"⟩ : MethodName)) hown (mvT hZ (hw _ (List.mem_of_getElem? (i := 44) rfl))) (mvT hZ (hw _ (List.mem_of_getElem? (i := 45) rfl))) (notFace_of_selects (args := #[]) (mvT hZ (hw _ (List.mem_of_getElem? (i := 47) rfl)))) (mvT hZ (hw _ (List.mem_of_getElem? (i := 47) rfl))) (mvT hZ (hw _ (List.mem_of_getElem? (i := 46) rfl))) (by decide) (backOf (W := 0) (rm7 l Z a0 hw [] b130 b132 i1 v3 i3 v7 b116 b118 t117 t119 kb117 kb119 ([c1_90] : List Int32) ([c1_115] : List Int32) zc T133.heap n0 O A132 F_i_a_c131 F_i_a_c133 F_w_a_c131 F_w_a_c133 F_r_a_c131 F_r_a_c133 Ex117 Fv117 Fc117 Av117 Ex119 Fv119 Fc119 Av119 hp_b116 (Nat.le_trans h9_b116.2 (by decide)) hp_b118 (Nat.le_trans h9_b118.2 (by decide)) SC hzc) hZ (hw _ (List.mem_of_getElem? (i := 48) rfl)) (hw _ (List.mem_of_getElem? (i := 28) rfl)) (by decide) (by decide)) q134a q134c (g := (mkF m 264 (own_F16 i1 i2 i3 i4 i5 i6 v3 v7 (1 : Int32) (1 : Int32) v14 v18 z_90 z_115 b116 b118 sm ve b130 b132 b132 b130) [(.ref b132), (.ref b130)])) rfl (by rw [hml]; rfl) (Steps.refl _) (argsL := [(.ref b132)]) (rest := []) (lenOf pd__40Ljava_47lang_47Object_59_41Z rfl) rfl (by show 2 * 0 + _ ≤ _; exact Nat.le_of_eq rfl) (hb hby at_264) (fun _ _ => ⟨rfl, rfl, (by decide : 8 + 0 ≤ _), (by decide : 20 + 0 ≤ _)⟩)
      dsimp only [Pt.U, Pt.locs, Pt.cells, Pt.slots] at X134 l134 y134 z134 st134 hQ134
      subst l134 y134 z134
      obtain ⟨rfl, N134q, eh134⟩ := hQ134
      have N134 := Fr.app N133 N134q
      obtain ⟨cq135, kq135, q135a, q135b, q135c⟩ := isOf hZ eh134 A132
      obtain ⟨_, _, ⟨T135, L135, k135, n135⟩, -, X135, ⟨Lc135, hQ135, l135, y135, z135⟩, st135⟩ := X134.virtualBack hx (y := (⟨"com/example/whirligig/whirligig/DownloadInfoIndication$Unreadable", "equals", "(Ljava/lang/Object;)Z"⟩ : MethodName)) (z := (⟨"com/example/whirligig/whirligig/DownloadInfoIndication$Unreadable", "equals", "(Ljava/lang/Object;)Z"⟩ : MethodName)) hown (mvT hZ (hw _ (List.mem_of_getElem? (i := 44) rfl))) (mvT hZ (hw _ (List.mem_of_getElem? (i := 45) rfl))) (notFace_of_selects (args := #[]) (mvT hZ (hw _ (List.mem_of_getElem? (i := 47) rfl)))) (mvT hZ (hw _ (List.mem_of_getElem? (i := 47) rfl))) (mvT hZ (hw _ (List.mem_of_getElem? (i := 46) rfl))) (by decide) (backOf (W := 0) (rm7 l Z a0 hw [] b132 b130 v3 i1 v7 i3 b118 b116 t119 t117 kb119 kb117 ([c1_115] : List Int32) ([c1_90] : List Int32) zc T133.heap n0 O A130 F_i_a_c133 F_i_a_c131 F_w_a_c133 F_w_a_c131 F_r_a_c133 F_r_a_c131 Ex119 Fv119 Fc119 Av119 Ex117 Fv117 Fc117 Av117 hp_b118 (Nat.le_trans h9_b118.2 (by decide)) hp_b116 (Nat.le_trans h9_b116.2 (by decide)) SC hzc) hZ (hw _ (List.mem_of_getElem? (i := 48) rfl)) (hw _ (List.mem_of_getElem? (i := 28) rfl)) (by decide) (by decide)) q135a q135c (g := (mkF m 276 (own_F16 i1 i2 i3 i4 i5 i6 v3 v7 (1 : Int32) (1 : Int32) v14 v18 z_90 z_115 b116 b118 sm ve b130 b132 b132 b130) [(.ref b130), (.ref b132)])) rfl (by rw [hml]; rfl) (Steps.refl _) (argsL := [(.ref b130)]) (rest := []) (lenOf pd__40Ljava_47lang_47Object_59_41Z rfl) rfl (by show 2 * 0 + _ ≤ _; exact Nat.le_of_eq rfl) (hb hby at_276) (fun _ _ => ⟨rfl, eh134, (by decide : 8 + 0 ≤ _), (by decide : 20 + 0 ≤ _)⟩)
      dsimp only [Pt.U, Pt.locs, Pt.cells, Pt.slots] at X135 l135 y135 z135 st135 hQ135
      subst l135 y135 z135
      obtain ⟨rfl, N135q, eh135⟩ := hQ135
      have N135 := Fr.app N134 N135q
      obtain ⟨cq136, kq136, q136a, q136b, q136c⟩ := isOf hZ eh135 A130
      obtain ⟨_, _, ⟨T136, L136, k136, n136⟩, -, X136, ⟨Lc136, hQ136, l136, y136, z136⟩, st136⟩ := X135.virtualBack hx (y := (⟨"com/example/whirligig/whirligig/DownloadInfoIndication$Unreadable", "equals", "(Ljava/lang/Object;)Z"⟩ : MethodName)) (z := (⟨"com/example/whirligig/whirligig/DownloadInfoIndication$Unreadable", "equals", "(Ljava/lang/Object;)Z"⟩ : MethodName)) hown (mvT hZ (hw _ (List.mem_of_getElem? (i := 44) rfl))) (mvT hZ (hw _ (List.mem_of_getElem? (i := 45) rfl))) (notFace_of_selects (args := #[]) (mvT hZ (hw _ (List.mem_of_getElem? (i := 47) rfl)))) (mvT hZ (hw _ (List.mem_of_getElem? (i := 47) rfl))) (mvT hZ (hw _ (List.mem_of_getElem? (i := 46) rfl))) (by decide) (backOf (W := 0) (rm7 l Z a0 hw [] b130 b130 i1 i1 i3 i3 b116 b116 t117 t117 kb117 kb117 ([c1_90] : List Int32) ([c1_90] : List Int32) zc T133.heap n0 O A130 F_i_a_c131 F_i_a_c131 F_w_a_c131 F_w_a_c131 F_r_a_c131 F_r_a_c131 Ex117 Fv117 Fc117 Av117 Ex117 Fv117 Fc117 Av117 hp_b116 (Nat.le_trans h9_b116.2 (by decide)) hp_b116 (Nat.le_trans h9_b116.2 (by decide)) SC hzc) hZ (hw _ (List.mem_of_getElem? (i := 48) rfl)) (hw _ (List.mem_of_getElem? (i := 28) rfl)) (by decide) (by decide)) q136a q136c (g := (mkF m 288 (own_F16 i1 i2 i3 i4 i5 i6 v3 v7 (1 : Int32) (1 : Int32) v14 v18 z_90 z_115 b116 b118 sm ve b130 b132 b132 b130) [(.ref b130), (.ref b130)])) rfl (by rw [hml]; rfl) (Steps.refl _) (argsL := [(.ref b130)]) (rest := []) (lenOf pd__40Ljava_47lang_47Object_59_41Z rfl) rfl (by show 2 * 0 + _ ≤ _; exact Nat.le_of_eq rfl) (hb hby at_288) (fun _ _ => ⟨rfl, eh135, (by decide : 8 + 0 ≤ _), (by decide : 20 + 0 ≤ _)⟩)
      dsimp only [Pt.U, Pt.locs, Pt.cells, Pt.slots] at X136 l136 y136 z136 st136 hQ136
      subst l136 y136 z136
      obtain ⟨rfl, N136q, eh136⟩ := hQ136
      have N136 := Fr.app N135 N136q
      obtain ⟨cq137, kq137, q137a, q137b, q137c⟩ := isOf hZ eh136 A130
      obtain ⟨_, _, ⟨T137, L137, k137, n137⟩, -, X137, ⟨Lc137, hQ137, l137, y137, z137⟩, st137⟩ := X136.virtualBack hx (y := (⟨"com/example/whirligig/whirligig/DownloadInfoIndication$Unreadable", "equals", "(Ljava/lang/Object;)Z"⟩ : MethodName)) (z := (⟨"com/example/whirligig/whirligig/DownloadInfoIndication$Unreadable", "equals", "(Ljava/lang/Object;)Z"⟩ : MethodName)) hown (mvT hZ (hw _ (List.mem_of_getElem? (i := 44) rfl))) (mvT hZ (hw _ (List.mem_of_getElem? (i := 45) rfl))) (notFace_of_selects (args := #[]) (mvT hZ (hw _ (List.mem_of_getElem? (i := 47) rfl)))) (mvT hZ (hw _ (List.mem_of_getElem? (i := 47) rfl))) (mvT hZ (hw _ (List.mem_of_getElem? (i := 46) rfl))) (by decide) (backOf (W := 0) (rm7_n l Z a0 hw [] b130 T133.heap n0 O ) hZ (hw _ (List.mem_of_getElem? (i := 48) rfl)) (hw _ (List.mem_of_getElem? (i := 28) rfl)) (by decide) (by decide)) q137a q137c (g := (mkF m 297 (own_F16 i1 i2 i3 i4 i5 i6 v3 v7 (1 : Int32) (1 : Int32) v14 v18 z_90 z_115 b116 b118 sm ve b130 b132 b132 b130) [.null, (.ref b130)])) rfl (by rw [hml]; rfl) (Steps.refl _) (argsL := [.null]) (rest := []) (lenOf pd__40Ljava_47lang_47Object_59_41Z rfl) rfl (by show 2 * 0 + _ ≤ _; exact Nat.le_of_eq rfl) (hb hby at_297) (fun _ _ => ⟨rfl, eh136, (by decide : 8 + 0 ≤ _), (by decide : 20 + 0 ≤ _)⟩)
      dsimp only [Pt.U, Pt.locs, Pt.cells, Pt.slots] at X137 l137 y137 z137 st137 hQ137
      subst l137 y137 z137
      obtain ⟨rfl, N137q, eh137⟩ := hQ137
      have N137 := Fr.app N136 N137q
      obtain ⟨cq138, kq138, q138a, q138b, q138c⟩ := isOf hZ eh137 A130
      obtain ⟨_, _, ⟨T138, L138, k138, n138⟩, -, X138, ⟨Lc138, hQ138, l138, y138, z138⟩, st138⟩ := X137.virtualBack hx (y := (⟨"com/example/whirligig/whirligig/DownloadInfoIndication$Unreadable", "equals", "(Ljava/lang/Object;)Z"⟩ : MethodName)) (z := (⟨"com/example/whirligig/whirligig/DownloadInfoIndication$Unreadable", "equals", "(Ljava/lang/Object;)Z"⟩ : MethodName)) hown (mvT hZ (hw _ (List.mem_of_getElem? (i := 44) rfl))) (mvT hZ (hw _ (List.mem_of_getElem? (i := 45) rfl))) (notFace_of_selects (args := #[]) (mvT hZ (hw _ (List.mem_of_getElem? (i := 47) rfl)))) (mvT hZ (hw _ (List.mem_of_getElem? (i := 47) rfl))) (mvT hZ (hw _ (List.mem_of_getElem? (i := 46) rfl))) (by decide) (backOf (W := 0) (rm7_S l Z a0 hw [] b130 b116 T133.heap n0 O Ex117) hZ (hw _ (List.mem_of_getElem? (i := 48) rfl)) (hw _ (List.mem_of_getElem? (i := 28) rfl)) (by decide) (by decide)) q138a q138c (g := (mkF m 307 (own_F16 i1 i2 i3 i4 i5 i6 v3 v7 (1 : Int32) (1 : Int32) v14 v18 z_90 z_115 b116 b118 sm ve b130 b132 b132 b130) [(.ref b116), (.ref b130)])) rfl (by rw [hml]; rfl) (Steps.refl _) (argsL := [(.ref b116)]) (rest := []) (lenOf pd__40Ljava_47lang_47Object_59_41Z rfl) rfl (by show 2 * 0 + _ ≤ _; exact Nat.le_of_eq rfl) (hb hby at_307) (fun _ _ => ⟨rfl, eh137, (by decide : 8 + 0 ≤ _), (by decide : 20 + 0 ≤ _)⟩)
      dsimp only [Pt.U, Pt.locs, Pt.cells, Pt.slots] at X138 l138 y138 z138 st138 hQ138
      subst l138 y138 z138
      obtain ⟨rfl, N138q, eh138⟩ := hQ138
      have N138 := Fr.app N137 N138q
      obtain ⟨_, _, ⟨T139, L139, k139, n139⟩, -, X139, ⟨Lc139, hQ139, l139, y139, z139⟩, st139⟩ := Jvm.LawKit.callS X138 hx (y := (⟨"java/lang/Integer", "valueOf", "(I)Ljava/lang/Integer;"⟩ : MethodName)) hown (mvT hZ (hw _ (List.mem_of_getElem? (i := 64) rfl))) (mvT hZ (hw _ (List.mem_of_getElem? (i := 65) rfl))) (mvT hZ (hw _ (List.mem_of_getElem? (i := 66) rfl))) (mvT hZ (hw _ (List.mem_of_getElem? (i := 67) rfl))) (by decide) (backOf (W := 1) (rm10 l Z a0 hw [] i1 cl_s_cacheI s_cacheI T133.heap n0 O S_s_cacheI S_high BI) hZ (hw _ (List.mem_of_getElem? (i := 67) rfl)) (hw _ (List.mem_of_getElem? (i := 66) rfl)) (by decide) (by decide)) (g := (mkF m 316 (own_F16 i1 i2 i3 i4 i5 i6 v3 v7 (1 : Int32) (1 : Int32) v14 v18 z_90 z_115 b116 b118 sm ve b130 b132 b132 b130) [(.int i1), (.ref b130)])) rfl (by rw [hml]; rfl) (argsL := [(.int i1)]) (rest := [(.ref b130)]) (lenOf pd__40I_41Ljava_47lang_47Integer_59 rfl) rfl (by show 2 * 0 + _ ≤ _; exact Nat.le_of_eq rfl) (hb hby at_316) (fun _ _ => ⟨rfl, eh138, (by decide : 8 + 1 ≤ _), (by decide : 20 + 1 ≤ _)⟩)
      dsimp only [Pt.U, Pt.locs, Pt.cells, Pt.slots] at X139 l139 y139 z139 st139 hQ139
      subst l139 y139 z139
      obtain ⟨z_139, rfl, N139q, K139, E_z_c139⟩ := hQ139
      have N139 := Fr.app N138 N139q
      have R := CHr.keep K139 all0 C.1
      have sf_b116 := R.safe Ex117.lt sf_b116
      have sf_b118 := R.safe Ex119.lt sf_b118
      have sf_b130 := R.safe A130.lt sf_b130
      have sf_b132 := R.safe A132.lt sf_b132
      have C := C.trans R
      have hk := Nat.le_trans hk K139.1
      have V_z_c90 := V_z_c90.keep K139 nin0
      have V_z_c115 := V_z_c115.keep K139 nin0
      have Ex117 := Ex117.keep K139
      have Fc117 := Fc117.keep K139 nin0
      have Fv117 := Fv117.keep K139 nin0
      have Av117 := Av117.keep K139 nin0
      have Ex119 := Ex119.keep K139
      have Fc119 := Fc119.keep K139 nin0
      have Fv119 := Fv119.keep K139 nin0
      have Av119 := Av119.keep K139 nin0
      have A130 := A130.keep K139
      have F_i_a_c131 := F_i_a_c131.keep K139 nin0
      have F_w_a_c131 := F_w_a_c131.keep K139 nin0
      have F_r_a_c131 := F_r_a_c131.keep K139 nin0
      have A132 := A132.keep K139
      have F_i_a_c133 := F_i_a_c133.keep K139 nin0
      have F_w_a_c133 := F_w_a_c133.keep K139 nin0
      have F_r_a_c133 := F_r_a_c133.keep K139 nin0
      have O := O.keep K139 all0
      obtain ⟨cq140, kq140, q140a, q140b, q140c⟩ := isOf hZ rfl A130
      obtain ⟨_, _, ⟨T140, L140, k140, n140⟩, -, X140, ⟨Lc140, hQ140, l140, y140, z140⟩, st140⟩ := X139.virtualBack hx (y := (⟨"com/example/whirligig/whirligig/DownloadInfoIndication$Unreadable", "equals", "(Ljava/lang/Object;)Z"⟩ : MethodName)) (z := (⟨"com/example/whirligig/whirligig/DownloadInfoIndication$Unreadable", "equals", "(Ljava/lang/Object;)Z"⟩ : MethodName)) hown (mvT hZ (hw _ (List.mem_of_getElem? (i := 44) rfl))) (mvT hZ (hw _ (List.mem_of_getElem? (i := 45) rfl))) (notFace_of_selects (args := #[]) (mvT hZ (hw _ (List.mem_of_getElem? (i := 47) rfl)))) (mvT hZ (hw _ (List.mem_of_getElem? (i := 47) rfl))) (mvT hZ (hw _ (List.mem_of_getElem? (i := 46) rfl))) (by decide) (backOf (W := 0) (rm7_I l Z a0 hw [] b130 z_139 T139.heap n0 O E_z_c139) hZ (hw _ (List.mem_of_getElem? (i := 48) rfl)) (hw _ (List.mem_of_getElem? (i := 28) rfl)) (by decide) (by decide)) q140a q140c (g := (mkF m 319 (own_F16 i1 i2 i3 i4 i5 i6 v3 v7 (1 : Int32) (1 : Int32) v14 v18 z_90 z_115 b116 b118 sm ve b130 b132 b132 b130) [(.ref z_139), (.ref b130)])) rfl (by rw [hml]; rfl) (Steps.refl _) (argsL := [(.ref z_139)]) (rest := []) (lenOf pd__40Ljava_47lang_47Object_59_41Z rfl) rfl (by show 2 * 0 + _ ≤ _; exact Nat.le_of_eq rfl) (hb hby at_319) (fun _ _ => ⟨rfl, rfl, (by decide : 9 + 0 ≤ _), (by decide : 21 + 0 ≤ _)⟩)
      dsimp only [Pt.U, Pt.locs, Pt.cells, Pt.slots] at X140 l140 y140 z140 st140 hQ140
      subst l140 y140 z140
      obtain ⟨rfl, N140q, eh140⟩ := hQ140
      have N140 := Fr.app N139 N140q
      have w141 : ∀ t, Steps p.tables e below (T140.setTop (mkF m 330 (own_F16 i1 i2 i3 i4 i5 i6 v3 v7 (1 : Int32) (1 : Int32) v14 v18 z_90 z_115 b116 b118 sm ve b130 b132 b132 b130) [(.int (1 : Int32))])) t → Steps p.tables e below (s₁.setTop (entryFrame m #[(.int i1), (.int i2), (.int i3), (.int i4), (.int i5), (.int i6)] maxLocals)) t := fun t k => by
        refine w129 t ?_
        refine XS.istore X119.here hx rfl (hb hby at_222) rfl (l' := (own_F12 i1 i2 i3 i4 i5 i6 v3 v7 (1 : Int32) (1 : Int32) v14 v18 z_90 z_115 b116 b118 sm ve)) rfl ?_
        show Steps p.tables e below (T119.setTop (mkF m 224 (own_F12 i1 i2 i3 i4 i5 i6 v3 v7 (1 : Int32) (1 : Int32) v14 v18 z_90 z_115 b116 b118 sm ve) [])) _
        refine st130 _ ?_
        show Steps p.tables e below (T130.setTop (mkF m 227 (own_F12 i1 i2 i3 i4 i5 i6 v3 v7 (1 : Int32) (1 : Int32) v14 v18 z_90 z_115 b116 b118 sm ve) [(.ref b130)])) _
        refine XS.dup X130.here hx rfl (hb hby at_227) rfl rfl ?_
        show Steps p.tables e below (T130.setTop (mkF m 228 (own_F12 i1 i2 i3 i4 i5 i6 v3 v7 (1 : Int32) (1 : Int32) v14 v18 z_90 z_115 b116 b118 sm ve) [(.ref b130), (.ref b130)])) _
        refine XS.iloadN X130.here hx rfl (hb hby at_228) rfl ?_
        show Steps p.tables e below (T130.setTop (mkF m 229 (own_F12 i1 i2 i3 i4 i5 i6 v3 v7 (1 : Int32) (1 : Int32) v14 v18 z_90 z_115 b116 b118 sm ve) [(.int i1), (.ref b130), (.ref b130)])) _
        refine XS.iloadN X130.here hx rfl (hb hby at_229) rfl ?_
        show Steps p.tables e below (T130.setTop (mkF m 230 (own_F12 i1 i2 i3 i4 i5 i6 v3 v7 (1 : Int32) (1 : Int32) v14 v18 z_90 z_115 b116 b118 sm ve) [(.int i3), (.int i1), (.ref b130), (.ref b130)])) _
        refine XS.aload X130.here hx rfl (hb hby at_230) rfl rfl ?_
        show Steps p.tables e below (T130.setTop (mkF m 232 (own_F12 i1 i2 i3 i4 i5 i6 v3 v7 (1 : Int32) (1 : Int32) v14 v18 z_90 z_115 b116 b118 sm ve) [(.ref b116), (.int i3), (.int i1), (.ref b130), (.ref b130)])) _
        refine st131.trans ?_
        show Steps p.tables e below (T131.setTop (mkF m 235 (own_F12 i1 i2 i3 i4 i5 i6 v3 v7 (1 : Int32) (1 : Int32) v14 v18 z_90 z_115 b116 b118 sm ve) [(.ref b130)])) _
        refine XS.astore X131.here hx rfl (hb hby at_235) rfl rfl (l' := (own_F13 i1 i2 i3 i4 i5 i6 v3 v7 (1 : Int32) (1 : Int32) v14 v18 z_90 z_115 b116 b118 sm ve b130)) rfl ?_
        show Steps p.tables e below (T131.setTop (mkF m 237 (own_F13 i1 i2 i3 i4 i5 i6 v3 v7 (1 : Int32) (1 : Int32) v14 v18 z_90 z_115 b116 b118 sm ve b130) [])) _
        refine st132 _ ?_
        show Steps p.tables e below (T132.setTop (mkF m 240 (own_F13 i1 i2 i3 i4 i5 i6 v3 v7 (1 : Int32) (1 : Int32) v14 v18 z_90 z_115 b116 b118 sm ve b130) [(.ref b132)])) _
        refine XS.dup X132.here hx rfl (hb hby at_240) rfl rfl ?_
        show Steps p.tables e below (T132.setTop (mkF m 241 (own_F13 i1 i2 i3 i4 i5 i6 v3 v7 (1 : Int32) (1 : Int32) v14 v18 z_90 z_115 b116 b118 sm ve b130) [(.ref b132), (.ref b132)])) _
        refine XS.iload X132.here hx rfl (hb hby at_241) rfl ?_
        show Steps p.tables e below (T132.setTop (mkF m 243 (own_F13 i1 i2 i3 i4 i5 i6 v3 v7 (1 : Int32) (1 : Int32) v14 v18 z_90 z_115 b116 b118 sm ve b130) [(.int v3), (.ref b132), (.ref b132)])) _
        refine XS.iload X132.here hx rfl (hb hby at_243) rfl ?_
        show Steps p.tables e below (T132.setTop (mkF m 245 (own_F13 i1 i2 i3 i4 i5 i6 v3 v7 (1 : Int32) (1 : Int32) v14 v18 z_90 z_115 b116 b118 sm ve b130) [(.int v7), (.int v3), (.ref b132), (.ref b132)])) _
        refine XS.aload X132.here hx rfl (hb hby at_245) rfl rfl ?_
        show Steps p.tables e below (T132.setTop (mkF m 247 (own_F13 i1 i2 i3 i4 i5 i6 v3 v7 (1 : Int32) (1 : Int32) v14 v18 z_90 z_115 b116 b118 sm ve b130) [(.ref b118), (.int v7), (.int v3), (.ref b132), (.ref b132)])) _
        refine st133.trans ?_
        show Steps p.tables e below (T133.setTop (mkF m 250 (own_F13 i1 i2 i3 i4 i5 i6 v3 v7 (1 : Int32) (1 : Int32) v14 v18 z_90 z_115 b116 b118 sm ve b130) [(.ref b132)])) _
        refine XS.astore X133.here hx rfl (hb hby at_250) rfl rfl (l' := (own_F14 i1 i2 i3 i4 i5 i6 v3 v7 (1 : Int32) (1 : Int32) v14 v18 z_90 z_115 b116 b118 sm ve b130 b132)) rfl ?_
        show Steps p.tables e below (T133.setTop (mkF m 252 (own_F14 i1 i2 i3 i4 i5 i6 v3 v7 (1 : Int32) (1 : Int32) v14 v18 z_90 z_115 b116 b118 sm ve b130 b132) [])) _
        refine XS.aload X133.here hx rfl (hb hby at_252) rfl rfl ?_
        show Steps p.tables e below (T133.setTop (mkF m 254 (own_F14 i1 i2 i3 i4 i5 i6 v3 v7 (1 : Int32) (1 : Int32) v14 v18 z_90 z_115 b116 b118 sm ve b130 b132) [(.ref b132)])) _
        refine XS.astore X133.here hx rfl (hb hby at_254) rfl rfl (l' := (own_F15 i1 i2 i3 i4 i5 i6 v3 v7 (1 : Int32) (1 : Int32) v14 v18 z_90 z_115 b116 b118 sm ve b130 b132 b132)) rfl ?_
        show Steps p.tables e below (T133.setTop (mkF m 256 (own_F15 i1 i2 i3 i4 i5 i6 v3 v7 (1 : Int32) (1 : Int32) v14 v18 z_90 z_115 b116 b118 sm ve b130 b132 b132) [])) _
        refine XS.aload X133.here hx rfl (hb hby at_256) rfl rfl ?_
        show Steps p.tables e below (T133.setTop (mkF m 258 (own_F15 i1 i2 i3 i4 i5 i6 v3 v7 (1 : Int32) (1 : Int32) v14 v18 z_90 z_115 b116 b118 sm ve b130 b132 b132) [(.ref b130)])) _
        refine XS.astore X133.here hx rfl (hb hby at_258) rfl rfl (l' := (own_F16 i1 i2 i3 i4 i5 i6 v3 v7 (1 : Int32) (1 : Int32) v14 v18 z_90 z_115 b116 b118 sm ve b130 b132 b132 b130)) rfl ?_
        show Steps p.tables e below (T133.setTop (mkF m 260 (own_F16 i1 i2 i3 i4 i5 i6 v3 v7 (1 : Int32) (1 : Int32) v14 v18 z_90 z_115 b116 b118 sm ve b130 b132 b132 b130) [])) _
        refine XS.aload X133.here hx rfl (hb hby at_260) rfl rfl ?_
        show Steps p.tables e below (T133.setTop (mkF m 262 (own_F16 i1 i2 i3 i4 i5 i6 v3 v7 (1 : Int32) (1 : Int32) v14 v18 z_90 z_115 b116 b118 sm ve b130 b132 b132 b130) [(.ref b130)])) _
        refine XS.aload X133.here hx rfl (hb hby at_262) rfl rfl ?_
        show Steps p.tables e below (T133.setTop (mkF m 264 (own_F16 i1 i2 i3 i4 i5 i6 v3 v7 (1 : Int32) (1 : Int32) v14 v18 z_90 z_115 b116 b118 sm ve b130 b132 b132 b130) [(.ref b132), (.ref b130)])) _
        refine st134.trans ?_
        show Steps p.tables e below (T134.setTop (mkF m 267 (own_F16 i1 i2 i3 i4 i5 i6 v3 v7 (1 : Int32) (1 : Int32) v14 v18 z_90 z_115 b116 b118 sm ve b130 b132 b132 b130) [(.int (own_e i1 v3 i3 v7 ([c1_90] : List Int32) ([c1_115] : List Int32)))])) _
        refine XS.iload X134.here hx rfl (hb hby at_267) rfl ?_
        show Steps p.tables e below (T134.setTop (mkF m 269 (own_F16 i1 i2 i3 i4 i5 i6 v3 v7 (1 : Int32) (1 : Int32) v14 v18 z_90 z_115 b116 b118 sm ve b130 b132 b132 b130) [(.int ve), (.int (own_e i1 v3 i3 v7 ([c1_90] : List Int32) ([c1_115] : List Int32)))])) _
        refine XS.icmpNo X134.here hx rfl (hb hby at_269) rfl (teq ((own_q1 _ _ _ _ _ _  hsm hve) : (own_e i1 v3 i3 v7 ([c1_90] : List Int32) ([c1_115] : List Int32)) = ve)).2 ?_
        show Steps p.tables e below (T134.setTop (mkF m 272 (own_F16 i1 i2 i3 i4 i5 i6 v3 v7 (1 : Int32) (1 : Int32) v14 v18 z_90 z_115 b116 b118 sm ve b130 b132 b132 b130) [])) _
        refine XS.aload X134.here hx rfl (hb hby at_272) rfl rfl ?_
        show Steps p.tables e below (T134.setTop (mkF m 274 (own_F16 i1 i2 i3 i4 i5 i6 v3 v7 (1 : Int32) (1 : Int32) v14 v18 z_90 z_115 b116 b118 sm ve b130 b132 b132 b130) [(.ref b132)])) _
        refine XS.aload X134.here hx rfl (hb hby at_274) rfl rfl ?_
        show Steps p.tables e below (T134.setTop (mkF m 276 (own_F16 i1 i2 i3 i4 i5 i6 v3 v7 (1 : Int32) (1 : Int32) v14 v18 z_90 z_115 b116 b118 sm ve b130 b132 b132 b130) [(.ref b130), (.ref b132)])) _
        refine st135.trans ?_
        show Steps p.tables e below (T135.setTop (mkF m 279 (own_F16 i1 i2 i3 i4 i5 i6 v3 v7 (1 : Int32) (1 : Int32) v14 v18 z_90 z_115 b116 b118 sm ve b130 b132 b132 b130) [(.int (own_e v3 i1 v7 i3 ([c1_115] : List Int32) ([c1_90] : List Int32)))])) _
        refine XS.iload X135.here hx rfl (hb hby at_279) rfl ?_
        show Steps p.tables e below (T135.setTop (mkF m 281 (own_F16 i1 i2 i3 i4 i5 i6 v3 v7 (1 : Int32) (1 : Int32) v14 v18 z_90 z_115 b116 b118 sm ve b130 b132 b132 b130) [(.int ve), (.int (own_e v3 i1 v7 i3 ([c1_115] : List Int32) ([c1_90] : List Int32)))])) _
        refine XS.icmpNo X135.here hx rfl (hb hby at_281) rfl (teq ((own_sym _ _ _ _ _ _).trans ((own_q1 _ _ _ _ _ _  hsm hve)) : (own_e v3 i1 v7 i3 ([c1_115] : List Int32) ([c1_90] : List Int32)) = ve)).2 ?_
        show Steps p.tables e below (T135.setTop (mkF m 284 (own_F16 i1 i2 i3 i4 i5 i6 v3 v7 (1 : Int32) (1 : Int32) v14 v18 z_90 z_115 b116 b118 sm ve b130 b132 b132 b130) [])) _
        refine XS.aload X135.here hx rfl (hb hby at_284) rfl rfl ?_
        show Steps p.tables e below (T135.setTop (mkF m 286 (own_F16 i1 i2 i3 i4 i5 i6 v3 v7 (1 : Int32) (1 : Int32) v14 v18 z_90 z_115 b116 b118 sm ve b130 b132 b132 b130) [(.ref b130)])) _
        refine XS.aload X135.here hx rfl (hb hby at_286) rfl rfl ?_
        show Steps p.tables e below (T135.setTop (mkF m 288 (own_F16 i1 i2 i3 i4 i5 i6 v3 v7 (1 : Int32) (1 : Int32) v14 v18 z_90 z_115 b116 b118 sm ve b130 b132 b132 b130) [(.ref b130), (.ref b130)])) _
        refine st136.trans ?_
        show Steps p.tables e below (T136.setTop (mkF m 291 (own_F16 i1 i2 i3 i4 i5 i6 v3 v7 (1 : Int32) (1 : Int32) v14 v18 z_90 z_115 b116 b118 sm ve b130 b132 b132 b130) [(.int (own_e i1 i1 i3 i3 ([c1_90] : List Int32) ([c1_90] : List Int32)))])) _
        refine XS.ifNo X136.here hx rfl (hb hby at_291) rfl ((if0 _ _).trans (feq (own_rfl _ _ _ : ¬ ((own_e i1 i1 i3 i3 ([c1_90] : List Int32) ([c1_90] : List Int32)) = (0 : Int32)))).1) ?_
        show Steps p.tables e below (T136.setTop (mkF m 294 (own_F16 i1 i2 i3 i4 i5 i6 v3 v7 (1 : Int32) (1 : Int32) v14 v18 z_90 z_115 b116 b118 sm ve b130 b132 b132 b130) [])) _
        refine XS.aload X136.here hx rfl (hb hby at_294) rfl rfl ?_
        show Steps p.tables e below (T136.setTop (mkF m 296 (own_F16 i1 i2 i3 i4 i5 i6 v3 v7 (1 : Int32) (1 : Int32) v14 v18 z_90 z_115 b116 b118 sm ve b130 b132 b132 b130) [(.ref b130)])) _
        refine XS.aconstNull X136.here hx rfl (hb hby at_296) ?_
        show Steps p.tables e below (T136.setTop (mkF m 297 (own_F16 i1 i2 i3 i4 i5 i6 v3 v7 (1 : Int32) (1 : Int32) v14 v18 z_90 z_115 b116 b118 sm ve b130 b132 b132 b130) [.null, (.ref b130)])) _
        refine st137.trans ?_
        show Steps p.tables e below (T137.setTop (mkF m 300 (own_F16 i1 i2 i3 i4 i5 i6 v3 v7 (1 : Int32) (1 : Int32) v14 v18 z_90 z_115 b116 b118 sm ve b130 b132 b132 b130) [(.int (0 : Int32))])) _
        refine XS.ifNo X137.here hx rfl (hb hby at_300) rfl ((if0 _ _).trans (teq (rfl : (0 : Int32) = (0 : Int32))).2) ?_
        show Steps p.tables e below (T137.setTop (mkF m 303 (own_F16 i1 i2 i3 i4 i5 i6 v3 v7 (1 : Int32) (1 : Int32) v14 v18 z_90 z_115 b116 b118 sm ve b130 b132 b132 b130) [])) _
        refine XS.aload X137.here hx rfl (hb hby at_303) rfl rfl ?_
        show Steps p.tables e below (T137.setTop (mkF m 305 (own_F16 i1 i2 i3 i4 i5 i6 v3 v7 (1 : Int32) (1 : Int32) v14 v18 z_90 z_115 b116 b118 sm ve b130 b132 b132 b130) [(.ref b130)])) _
        refine XS.aload X137.here hx rfl (hb hby at_305) rfl rfl ?_
        show Steps p.tables e below (T137.setTop (mkF m 307 (own_F16 i1 i2 i3 i4 i5 i6 v3 v7 (1 : Int32) (1 : Int32) v14 v18 z_90 z_115 b116 b118 sm ve b130 b132 b132 b130) [(.ref b116), (.ref b130)])) _
        refine st138.trans ?_
        show Steps p.tables e below (T138.setTop (mkF m 310 (own_F16 i1 i2 i3 i4 i5 i6 v3 v7 (1 : Int32) (1 : Int32) v14 v18 z_90 z_115 b116 b118 sm ve b130 b132 b132 b130) [(.int (0 : Int32))])) _
        refine XS.ifNo X138.here hx rfl (hb hby at_310) rfl ((if0 _ _).trans (teq (rfl : (0 : Int32) = (0 : Int32))).2) ?_
        show Steps p.tables e below (T138.setTop (mkF m 313 (own_F16 i1 i2 i3 i4 i5 i6 v3 v7 (1 : Int32) (1 : Int32) v14 v18 z_90 z_115 b116 b118 sm ve b130 b132 b132 b130) [])) _
        refine XS.aload X138.here hx rfl (hb hby at_313) rfl rfl ?_
        show Steps p.tables e below (T138.setTop (mkF m 315 (own_F16 i1 i2 i3 i4 i5 i6 v3 v7 (1 : Int32) (1 : Int32) v14 v18 z_90 z_115 b116 b118 sm ve b130 b132 b132 b130) [(.ref b130)])) _
        refine XS.iloadN X138.here hx rfl (hb hby at_315) rfl ?_
        show Steps p.tables e below (T138.setTop (mkF m 316 (own_F16 i1 i2 i3 i4 i5 i6 v3 v7 (1 : Int32) (1 : Int32) v14 v18 z_90 z_115 b116 b118 sm ve b130 b132 b132 b130) [(.int i1), (.ref b130)])) _
        refine st139 _ ?_
        show Steps p.tables e below (T139.setTop (mkF m 319 (own_F16 i1 i2 i3 i4 i5 i6 v3 v7 (1 : Int32) (1 : Int32) v14 v18 z_90 z_115 b116 b118 sm ve b130 b132 b132 b130) [(.ref z_139), (.ref b130)])) _
        refine st140.trans ?_
        show Steps p.tables e below (T140.setTop (mkF m 322 (own_F16 i1 i2 i3 i4 i5 i6 v3 v7 (1 : Int32) (1 : Int32) v14 v18 z_90 z_115 b116 b118 sm ve b130 b132 b132 b130) [(.int (0 : Int32))])) _
        refine XS.ifNo X140.here hx rfl (hb hby at_322) rfl ((if0 _ _).trans (teq (rfl : (0 : Int32) = (0 : Int32))).2) ?_
        show Steps p.tables e below (T140.setTop (mkF m 325 (own_F16 i1 i2 i3 i4 i5 i6 v3 v7 (1 : Int32) (1 : Int32) v14 v18 z_90 z_115 b116 b118 sm ve b130 b132 b132 b130) [])) _
        refine XS.iconst X140.here hx rfl (hb hby at_325) ?_
        show Steps p.tables e below (T140.setTop (mkF m 326 (own_F16 i1 i2 i3 i4 i5 i6 v3 v7 (1 : Int32) (1 : Int32) v14 v18 z_90 z_115 b116 b118 sm ve b130 b132 b132 b130) [(.int (1 : Int32))])) _
        refine XS.goto X140.here hx rfl (pc0 := 326) (pc' := 330) rfl (hb hby at_326) (by decide) (by decide) ?_
        show Steps p.tables e below (T140.setTop (mkF m 330 (own_F16 i1 i2 i3 i4 i5 i6 v3 v7 (1 : Int32) (1 : Int32) v14 v18 z_90 z_115 b116 b118 sm ve b130 b132 b132 b130) [(.int (1 : Int32))])) _
        exact k
      obtain ⟨fs, hr, hrun, hended, hE⟩ := Stand.leaveW (s := s) (vm₁ := s.vm) X140 hS (by rw [eh140]; exact hk) (v := some (.int (1 : Int32))) (fun h => by rw [Bd.returns] at h; cases h)
      refine ⟨_, _, w141 _ ?_, hrun, hended, _, _, rfl, ?_, ?_, own_mono hE (by decide) (by decide)⟩
      · exact retN X140 hx (t := .boolean) Bd.returns (by simp) (hb hby at_330) hr
      · show Q0 Z i1 i2 i3 i4 i5 i6 cl_s_cacheI zc s_cacheI h0 n0 _ T140.heap _
        rw [eh140]
        exact ⟨rfl, N140⟩
      · rw [hh]; show CHr Z consts_1 s.vm h0 T140.vm T140.heap; rw [eh140]; exact C.trans (CHv.at X140 hZ hEL C.1)
    · rw [hk93] at w91
      have lt142_z_90 := V_z_c90.lt
      obtain ⟨_, _, ⟨T142, L142, k142, n142⟩, -, X142, ⟨Lc142, hQ142, l142, y142, z142⟩, st142⟩ := Jvm.LawKit.callS X90 hx (y := (⟨"com/example/whirligig/whirligig/UnreadableEqualsPinLaw", "chars", "(III)[C"⟩ : MethodName)) hown (mvT hZ (hw _ (List.mem_of_getElem? (i := 0) rfl))) (mvT hZ (hw _ (List.mem_of_getElem? (i := 1) rfl))) (mvT hZ (hw _ (List.mem_of_getElem? (i := 2) rfl))) (mvT hZ (hw _ (List.mem_of_getElem? (i := 3) rfl))) (by decide) (backOf (W := 0) (rm1_2 l Z a0 hw [] v14 v18 T90.heap n0 O ) hZ (hw _ (List.mem_of_getElem? (i := 3) rfl)) (hw _ (List.mem_of_getElem? (i := 2) rfl)) (by decide) (by decide)) (g := (mkF m 125 (own_F7 i1 i2 i3 i4 i5 i6 v3 v7 (1 : Int32) (2 : Int32) v14 v18 z_90) [(.int v18), (.int v14), (.int (2 : Int32))])) rfl (by rw [hml]; rfl) (argsL := [(.int (2 : Int32)), (.int v14), (.int v18)]) (rest := []) (lenOf pd__40III_41_91C rfl) rfl (by show 2 * 0 + _ ≤ _; exact Nat.le_of_eq rfl) (hb hby at_125) (fun _ _ => ⟨rfl, rfl, (by decide : 1 + 1 ≤ _), (by decide : 1 + 2 ≤ _)⟩)
      dsimp only [Pt.U, Pt.locs, Pt.cells, Pt.slots] at X142 l142 y142 z142 st142 hQ142
      subst l142 y142 z142
      obtain ⟨z_142, kz_142, c1_142, d1_142, rfl, N142q, K142, V_z_c142, gz_142, gn_142, bc_142, bd_142⟩ := hQ142
      have N142 := Fr.app N90 N142q
      have R := CHr.keep K142 all0 C.1
      have C := C.trans R
      have hk := Nat.le_trans hk K142.1
      have V_z_c90 := V_z_c90.keep K142 nin0
      have ne_z_90_z_142 : z_90 ≠ z_142 := Nat.ne_of_lt (Nat.lt_of_lt_of_le lt142_z_90 gz_142)
      have g_z_142 := gn_142
      have O := O.keep K142 all0
      obtain ⟨T143, h143, X143, e143, E143, A143, D143, -, st143⟩ := newO X142 hx hZ hown (hw _ (List.mem_of_getElem? (i := 5) rfl)) (hw _ (List.mem_of_getElem? (i := 6) rfl)) (hw _ (List.mem_of_getElem? (i := 7) rfl)) rfl (g := (mkF m 130 (own_F8 i1 i2 i3 i4 i5 i6 v3 v7 (1 : Int32) (2 : Int32) v14 v18 z_90 z_142) [])) rfl (hb hby at_130) (by decide) (by decide)
      obtain ⟨b143, gq143⟩ : ∃ z, z = Array.size T142.heap := ⟨_, rfl⟩
      rw [← gq143] at A143 D143 st143
      have ne_z_90_b143 : z_90 ≠ b143 := Nat.ne_of_lt (Nat.lt_of_lt_of_le V_z_c90.lt (Nat.le_of_eq gq143.symm))
      have ne_z_142_b143 : z_142 ≠ b143 := Nat.ne_of_lt (Nat.lt_of_lt_of_le V_z_c142.lt (Nat.le_of_eq gq143.symm))
      have g_b143 : n0 ≤ b143 := Nat.le_trans (O.1 ▸ O.2.1) (Nat.le_of_eq gq143.symm)
      have sf_b143 := own_safeN C.1 E143 (Nat.le_of_eq gq143.symm)
      have R := CHr.ext E143 C.1
      have C := C.trans R
      have hk := Nat.le_trans hk E143.1
      have V_z_c90 := V_z_c90.ext E143
      have V_z_c142 := V_z_c142.ext E143
      have O := O.ext E143
      have F_value_b143 : Fld Z h143 b143 "java/lang/String" "value" "[B" .null := D143 (Or.inr (hw _ (List.mem_of_getElem? (i := 20) rfl))) (ty := (.array .byte)) (by decide)
      have F_coder_b143 : Fld Z h143 b143 "java/lang/String" "coder" "B" (.int (0 : Int32)) := D143 (Or.inr (hw _ (List.mem_of_getElem? (i := 21) rfl))) (ty := .byte) (by decide)
      have hp_b143 := own_hp1 bc_90
      have h9_b143 : 0 < ([c1_90] : List Int32).length ∧ ([c1_90] : List Int32).length ≤ 2 := ⟨Nat.le_of_ble_eq_true rfl, Nat.le_of_ble_eq_true rfl⟩
      obtain ⟨_, _, ⟨T144, L144, k144, n144⟩, -, X144, ⟨Lc144, hQ144, l144, y144, z144⟩, st144⟩ := X143.specialBack hx (y := (⟨"java/lang/String", "<init>", "([C)V"⟩ : MethodName)) rfl hown (mvT hZ (hw _ (List.mem_of_getElem? (i := 8) rfl))) (mvT hZ (hw _ (List.mem_of_getElem? (i := 9) rfl))) (mvT hZ (hw _ (List.mem_of_getElem? (i := 10) rfl))) (by decide) (StrChars.Road.backV (W := 1) hZ (own_wNew hw) (kI := 4) (hw _ (List.mem_of_getElem? (i := 6) rfl)) (cs := ([c1_90] : List Int32)) (bs := (([c1_90] : List Int32).map (fun c => c.toInt8.toInt32))) (n := ([c1_90] : List Int32).length) g_b143 (O.1 ▸ O.2.1) A143 F_value_b143 F_coder_b143 V_z_c90 (SC.ext O.2) hzc rfl rfl h9_b143.1 (Nat.le_trans h9_b143.2 (by decide)) hp_b143 rfl (by decide) (by decide)) (g := (mkF m 136 (own_F8 i1 i2 i3 i4 i5 i6 v3 v7 (1 : Int32) (2 : Int32) v14 v18 z_90 z_142) [(.ref z_90), (.ref b143), (.ref b143)])) rfl (by rw [hml]; rfl) (Steps.refl _) (a := b143) (argsL := [(.ref z_90)]) (rest := [(.ref b143)]) (lenOf pd__40_91C_41V rfl) rfl (by show 2 * 0 + _ ≤ _; exact Nat.le_of_eq rfl) (hb hby at_136) (fun _ _ => ⟨rfl, e143, (by decide : 3 + 1 ≤ _), Nat.le_trans (Nat.add_le_add_left h9_b143.2 7) (by decide)⟩)
      dsimp only [Pt.U, Pt.locs, Pt.cells, Pt.slots] at X144 l144 y144 z144 st144 hQ144
      subst l144 y144 z144
      have X144 := X144.more (Nat.le_refl _) (Nat.add_le_add_left h9_b143.2 7)
      obtain ⟨rfl, N144q, K144, Ex144, Fc144, t144, kb144, gn144, gz144, nx144, Fv144, Av144⟩ := hQ144
      have N144 := Fr.app N142 N144q
      have ne_z_90_t144 : z_90 ≠ t144 := Nat.ne_of_lt (Nat.lt_of_lt_of_le V_z_c90.lt gz144)
      have ne_z_142_t144 : z_142 ≠ t144 := Nat.ne_of_lt (Nat.lt_of_lt_of_le V_z_c142.lt gz144)
      have ne_b143_t144 : b143 ≠ t144 := Nat.ne_of_lt (Nat.lt_of_lt_of_le A143.lt gz144)
      have R := CHr.keep K144 (allS sf_b143 all0) C.1
      have sf_b143 := R.safe A143.lt sf_b143
      have C := C.trans R
      have hk := Nat.le_trans hk K144.1
      have V_z_c90 := V_z_c90.keep K144 (ninS ne_z_90_b143 nin0)
      have V_z_c142 := V_z_c142.keep K144 (ninS ne_z_142_b143 nin0)
      have A143 := A143.keep K144
      have g_t144 := gn144
      have O := O.keep K144 (allS g_b143 all0)
      obtain ⟨T145, h145, X145, e145, E145, A145, D145, -, st145⟩ := newO X144 hx hZ hown (hw _ (List.mem_of_getElem? (i := 5) rfl)) (hw _ (List.mem_of_getElem? (i := 6) rfl)) (hw _ (List.mem_of_getElem? (i := 7) rfl)) rfl (g := (mkF m 141 (own_F9 i1 i2 i3 i4 i5 i6 v3 v7 (1 : Int32) (2 : Int32) v14 v18 z_90 z_142 b143) [])) rfl (hb hby at_141) (by decide) (by decide)
      obtain ⟨b145, gq145⟩ : ∃ z, z = Array.size T144.heap := ⟨_, rfl⟩
      rw [← gq145] at A145 D145 st145
      have ne_z_90_b145 : z_90 ≠ b145 := Nat.ne_of_lt (Nat.lt_of_lt_of_le V_z_c90.lt (Nat.le_of_eq gq145.symm))
      have ne_z_142_b145 : z_142 ≠ b145 := Nat.ne_of_lt (Nat.lt_of_lt_of_le V_z_c142.lt (Nat.le_of_eq gq145.symm))
      have ne_b143_b145 : b143 ≠ b145 := Nat.ne_of_lt (Nat.lt_of_lt_of_le Ex144.lt (Nat.le_of_eq gq145.symm))
      have ne_t144_b145 : t144 ≠ b145 := Nat.ne_of_lt (Nat.lt_of_lt_of_le Av144.lt (Nat.le_of_eq gq145.symm))
      have g_b145 : n0 ≤ b145 := Nat.le_trans (O.1 ▸ O.2.1) (Nat.le_of_eq gq145.symm)
      have sf_b145 := own_safeN C.1 E145 (Nat.le_of_eq gq145.symm)
      have R := CHr.ext E145 C.1
      have sf_b143 := R.safe Ex144.lt sf_b143
      have C := C.trans R
      have hk := Nat.le_trans hk E145.1
      have V_z_c90 := V_z_c90.ext E145
      have V_z_c142 := V_z_c142.ext E145
      have Ex144 := Ex144.ext E145
      have Fc144 := Fc144.ext E145
      have Fv144 := Fv144.ext E145
      have Av144 := Av144.ext E145
      have O := O.ext E145
      have F_value_b145 : Fld Z h145 b145 "java/lang/String" "value" "[B" .null := D145 (Or.inr (hw _ (List.mem_of_getElem? (i := 20) rfl))) (ty := (.array .byte)) (by decide)
      have F_coder_b145 : Fld Z h145 b145 "java/lang/String" "coder" "B" (.int (0 : Int32)) := D145 (Or.inr (hw _ (List.mem_of_getElem? (i := 21) rfl))) (ty := .byte) (by decide)
      have hp_b145 := own_hp2 bc_142 bd_142
      have h9_b145 : 0 < ([c1_142, d1_142] : List Int32).length ∧ ([c1_142, d1_142] : List Int32).length ≤ 2 := ⟨Nat.le_of_ble_eq_true rfl, Nat.le_of_ble_eq_true rfl⟩
      obtain ⟨_, _, ⟨T146, L146, k146, n146⟩, -, X146, ⟨Lc146, hQ146, l146, y146, z146⟩, st146⟩ := X145.specialBack hx (y := (⟨"java/lang/String", "<init>", "([C)V"⟩ : MethodName)) rfl hown (mvT hZ (hw _ (List.mem_of_getElem? (i := 8) rfl))) (mvT hZ (hw _ (List.mem_of_getElem? (i := 9) rfl))) (mvT hZ (hw _ (List.mem_of_getElem? (i := 10) rfl))) (by decide) (StrChars.Road.backV (W := 1) hZ (own_wNew hw) (kI := 4) (hw _ (List.mem_of_getElem? (i := 6) rfl)) (cs := ([c1_142, d1_142] : List Int32)) (bs := (([c1_142, d1_142] : List Int32).map (fun c => c.toInt8.toInt32))) (n := ([c1_142, d1_142] : List Int32).length) g_b145 (O.1 ▸ O.2.1) A145 F_value_b145 F_coder_b145 V_z_c142 (SC.ext O.2) hzc rfl rfl h9_b145.1 (Nat.le_trans h9_b145.2 (by decide)) hp_b145 rfl (by decide) (by decide)) (g := (mkF m 147 (own_F9 i1 i2 i3 i4 i5 i6 v3 v7 (1 : Int32) (2 : Int32) v14 v18 z_90 z_142 b143) [(.ref z_142), (.ref b145), (.ref b145)])) rfl (by rw [hml]; rfl) (Steps.refl _) (a := b145) (argsL := [(.ref z_142)]) (rest := [(.ref b145)]) (lenOf pd__40_91C_41V rfl) rfl (by show 2 * 0 + _ ≤ _; exact Nat.le_of_eq rfl) (hb hby at_147) (fun _ _ => ⟨rfl, e145, (by decide : 5 + 1 ≤ _), Nat.le_trans (Nat.add_le_add_left h9_b145.2 13) (by decide)⟩)
      dsimp only [Pt.U, Pt.locs, Pt.cells, Pt.slots] at X146 l146 y146 z146 st146 hQ146
      subst l146 y146 z146
      have X146 := X146.more (Nat.le_refl _) (Nat.add_le_add_left h9_b145.2 13)
      obtain ⟨rfl, N146q, K146, Ex146, Fc146, t146, kb146, gn146, gz146, nx146, Fv146, Av146⟩ := hQ146
      have N146 := Fr.app N144 N146q
      have ne_z_90_t146 : z_90 ≠ t146 := Nat.ne_of_lt (Nat.lt_of_lt_of_le V_z_c90.lt gz146)
      have ne_z_142_t146 : z_142 ≠ t146 := Nat.ne_of_lt (Nat.lt_of_lt_of_le V_z_c142.lt gz146)
      have ne_b143_t146 : b143 ≠ t146 := Nat.ne_of_lt (Nat.lt_of_lt_of_le Ex144.lt gz146)
      have ne_t144_t146 : t144 ≠ t146 := Nat.ne_of_lt (Nat.lt_of_lt_of_le Av144.lt gz146)
      have ne_b145_t146 : b145 ≠ t146 := Nat.ne_of_lt (Nat.lt_of_lt_of_le A145.lt gz146)
      have R := CHr.keep K146 (allS sf_b145 all0) C.1
      have sf_b143 := R.safe Ex144.lt sf_b143
      have sf_b145 := R.safe A145.lt sf_b145
      have C := C.trans R
      have hk := Nat.le_trans hk K146.1
      have V_z_c90 := V_z_c90.keep K146 (ninS ne_z_90_b145 nin0)
      have V_z_c142 := V_z_c142.keep K146 (ninS ne_z_142_b145 nin0)
      have Ex144 := Ex144.keep K146
      have Fc144 := Fc144.keep K146 (ninS ne_b143_b145 nin0)
      have Fv144 := Fv144.keep K146 (ninS ne_b143_b145 nin0)
      have Av144 := Av144.keep K146 (ninS ne_t144_b145 nin0)
      have A145 := A145.keep K146
      have g_t146 := gn146
      have O := O.keep K146 (allS g_b145 all0)
      have w147 : ∀ t, Steps p.tables e below (T146.setTop (mkF m 203 (own_F11 i1 i2 i3 i4 i5 i6 v3 v7 (1 : Int32) (2 : Int32) v14 v18 z_90 z_142 b143 b145 (0 : Int32)) [(.int v3), (.int i1)])) t → Steps p.tables e below (s₁.setTop (entryFrame m #[(.int i1), (.int i2), (.int i3), (.int i4), (.int i5), (.int i6)] maxLocals)) t := fun t k => by
        refine w91 t ?_
        refine XS.iload X90.here hx rfl (hb hby at_119) rfl ?_
        show Steps p.tables e below (T90.setTop (mkF m 121 (own_F7 i1 i2 i3 i4 i5 i6 v3 v7 (1 : Int32) (2 : Int32) v14 v18 z_90) [(.int (2 : Int32))])) _
        refine XS.iload X90.here hx rfl (hb hby at_121) rfl ?_
        show Steps p.tables e below (T90.setTop (mkF m 123 (own_F7 i1 i2 i3 i4 i5 i6 v3 v7 (1 : Int32) (2 : Int32) v14 v18 z_90) [(.int v14), (.int (2 : Int32))])) _
        refine XS.iload X90.here hx rfl (hb hby at_123) rfl ?_
        show Steps p.tables e below (T90.setTop (mkF m 125 (own_F7 i1 i2 i3 i4 i5 i6 v3 v7 (1 : Int32) (2 : Int32) v14 v18 z_90) [(.int v18), (.int v14), (.int (2 : Int32))])) _
        refine st142 _ ?_
        show Steps p.tables e below (T142.setTop (mkF m 128 (own_F7 i1 i2 i3 i4 i5 i6 v3 v7 (1 : Int32) (2 : Int32) v14 v18 z_90) [(.ref z_142)])) _
        refine XS.astore X142.here hx rfl (hb hby at_128) rfl rfl (l' := (own_F8 i1 i2 i3 i4 i5 i6 v3 v7 (1 : Int32) (2 : Int32) v14 v18 z_90 z_142)) rfl ?_
        show Steps p.tables e below (T142.setTop (mkF m 130 (own_F8 i1 i2 i3 i4 i5 i6 v3 v7 (1 : Int32) (2 : Int32) v14 v18 z_90 z_142) [])) _
        refine st143 _ ?_
        show Steps p.tables e below (T143.setTop (mkF m 133 (own_F8 i1 i2 i3 i4 i5 i6 v3 v7 (1 : Int32) (2 : Int32) v14 v18 z_90 z_142) [(.ref b143)])) _
        refine XS.dup X143.here hx rfl (hb hby at_133) rfl rfl ?_
        show Steps p.tables e below (T143.setTop (mkF m 134 (own_F8 i1 i2 i3 i4 i5 i6 v3 v7 (1 : Int32) (2 : Int32) v14 v18 z_90 z_142) [(.ref b143), (.ref b143)])) _
        refine XS.aload X143.here hx rfl (hb hby at_134) rfl rfl ?_
        show Steps p.tables e below (T143.setTop (mkF m 136 (own_F8 i1 i2 i3 i4 i5 i6 v3 v7 (1 : Int32) (2 : Int32) v14 v18 z_90 z_142) [(.ref z_90), (.ref b143), (.ref b143)])) _
        refine st144.trans ?_
        show Steps p.tables e below (T144.setTop (mkF m 139 (own_F8 i1 i2 i3 i4 i5 i6 v3 v7 (1 : Int32) (2 : Int32) v14 v18 z_90 z_142) [(.ref b143)])) _
        refine XS.astore X144.here hx rfl (hb hby at_139) rfl rfl (l' := (own_F9 i1 i2 i3 i4 i5 i6 v3 v7 (1 : Int32) (2 : Int32) v14 v18 z_90 z_142 b143)) rfl ?_
        show Steps p.tables e below (T144.setTop (mkF m 141 (own_F9 i1 i2 i3 i4 i5 i6 v3 v7 (1 : Int32) (2 : Int32) v14 v18 z_90 z_142 b143) [])) _
        refine st145 _ ?_
        show Steps p.tables e below (T145.setTop (mkF m 144 (own_F9 i1 i2 i3 i4 i5 i6 v3 v7 (1 : Int32) (2 : Int32) v14 v18 z_90 z_142 b143) [(.ref b145)])) _
        refine XS.dup X145.here hx rfl (hb hby at_144) rfl rfl ?_
        show Steps p.tables e below (T145.setTop (mkF m 145 (own_F9 i1 i2 i3 i4 i5 i6 v3 v7 (1 : Int32) (2 : Int32) v14 v18 z_90 z_142 b143) [(.ref b145), (.ref b145)])) _
        refine XS.aload X145.here hx rfl (hb hby at_145) rfl rfl ?_
        show Steps p.tables e below (T145.setTop (mkF m 147 (own_F9 i1 i2 i3 i4 i5 i6 v3 v7 (1 : Int32) (2 : Int32) v14 v18 z_90 z_142 b143) [(.ref z_142), (.ref b145), (.ref b145)])) _
        refine st146.trans ?_
        show Steps p.tables e below (T146.setTop (mkF m 150 (own_F9 i1 i2 i3 i4 i5 i6 v3 v7 (1 : Int32) (2 : Int32) v14 v18 z_90 z_142 b143) [(.ref b145)])) _
        refine XS.astore X146.here hx rfl (hb hby at_150) rfl rfl (l' := (own_F10 i1 i2 i3 i4 i5 i6 v3 v7 (1 : Int32) (2 : Int32) v14 v18 z_90 z_142 b143 b145)) rfl ?_
        show Steps p.tables e below (T146.setTop (mkF m 152 (own_F10 i1 i2 i3 i4 i5 i6 v3 v7 (1 : Int32) (2 : Int32) v14 v18 z_90 z_142 b143 b145) [])) _
        refine XS.iload X146.here hx rfl (hb hby at_152) rfl ?_
        show Steps p.tables e below (T146.setTop (mkF m 154 (own_F10 i1 i2 i3 i4 i5 i6 v3 v7 (1 : Int32) (2 : Int32) v14 v18 z_90 z_142 b143 b145) [(.int (1 : Int32))])) _
        refine XS.iload X146.here hx rfl (hb hby at_154) rfl ?_
        show Steps p.tables e below (T146.setTop (mkF m 156 (own_F10 i1 i2 i3 i4 i5 i6 v3 v7 (1 : Int32) (2 : Int32) v14 v18 z_90 z_142 b143 b145) [(.int (2 : Int32)), (.int (1 : Int32))])) _
        refine XS.icmpYes X146.here hx rfl (pc0 := 156) (pc' := 197) rfl (hb hby at_156) rfl (feq ((by decide) : ¬ ((1 : Int32) = (2 : Int32)))).2 (by decide) (by decide) ?_
        show Steps p.tables e below (T146.setTop (mkF m 197 (own_F10 i1 i2 i3 i4 i5 i6 v3 v7 (1 : Int32) (2 : Int32) v14 v18 z_90 z_142 b143 b145) [])) _
        refine XS.iconst X146.here hx rfl (hb hby at_197) ?_
        show Steps p.tables e below (T146.setTop (mkF m 198 (own_F10 i1 i2 i3 i4 i5 i6 v3 v7 (1 : Int32) (2 : Int32) v14 v18 z_90 z_142 b143 b145) [(.int (0 : Int32))])) _
        refine XS.istore X146.here hx rfl (hb hby at_198) rfl (l' := (own_F11 i1 i2 i3 i4 i5 i6 v3 v7 (1 : Int32) (2 : Int32) v14 v18 z_90 z_142 b143 b145 (0 : Int32))) rfl ?_
        show Steps p.tables e below (T146.setTop (mkF m 200 (own_F11 i1 i2 i3 i4 i5 i6 v3 v7 (1 : Int32) (2 : Int32) v14 v18 z_90 z_142 b143 b145 (0 : Int32)) [])) _
        refine XS.iloadN X146.here hx rfl (hb hby at_200) rfl ?_
        show Steps p.tables e below (T146.setTop (mkF m 201 (own_F11 i1 i2 i3 i4 i5 i6 v3 v7 (1 : Int32) (2 : Int32) v14 v18 z_90 z_142 b143 b145 (0 : Int32)) [(.int i1)])) _
        refine XS.iload X146.here hx rfl (hb hby at_201) rfl ?_
        show Steps p.tables e below (T146.setTop (mkF m 203 (own_F11 i1 i2 i3 i4 i5 i6 v3 v7 (1 : Int32) (2 : Int32) v14 v18 z_90 z_142 b143 b145 (0 : Int32)) [(.int v3), (.int i1)])) _
        exact k
      have w150 : ∀ t, Steps p.tables e below (T146.setTop (mkF m 222 (own_F11 i1 i2 i3 i4 i5 i6 v3 v7 (1 : Int32) (2 : Int32) v14 v18 z_90 z_142 b143 b145 (0 : Int32)) [(.int (0 : Int32))])) t → Steps p.tables e below (s₁.setTop (entryFrame m #[(.int i1), (.int i2), (.int i3), (.int i4), (.int i5), (.int i6)] maxLocals)) t := fun t k => by
        refine w147 t ?_
        show Steps p.tables e below (T146.setTop (mkF m 203 (own_F11 i1 i2 i3 i4 i5 i6 v3 v7 (1 : Int32) (2 : Int32) v14 v18 z_90 z_142 b143 b145 (0 : Int32)) [(.int v3), (.int i1)])) _
        by_cases hm148 : i1 = v3
        · refine XS.icmpNo X146.here hx rfl (hb hby at_203) rfl (teq hm148).2 ?_
          show Steps p.tables e below (T146.setTop (mkF m 206 (own_F11 i1 i2 i3 i4 i5 i6 v3 v7 (1 : Int32) (2 : Int32) v14 v18 z_90 z_142 b143 b145 (0 : Int32)) [])) _
          refine XS.iloadN X146.here hx rfl (hb hby at_206) rfl ?_
          show Steps p.tables e below (T146.setTop (mkF m 207 (own_F11 i1 i2 i3 i4 i5 i6 v3 v7 (1 : Int32) (2 : Int32) v14 v18 z_90 z_142 b143 b145 (0 : Int32)) [(.int i3)])) _
          refine XS.iload X146.here hx rfl (hb hby at_207) rfl ?_
          show Steps p.tables e below (T146.setTop (mkF m 209 (own_F11 i1 i2 i3 i4 i5 i6 v3 v7 (1 : Int32) (2 : Int32) v14 v18 z_90 z_142 b143 b145 (0 : Int32)) [(.int v7), (.int i3)])) _
          by_cases hm149 : i3 = v7
          · refine XS.icmpNo X146.here hx rfl (hb hby at_209) rfl (teq hm149).2 ?_
            show Steps p.tables e below (T146.setTop (mkF m 212 (own_F11 i1 i2 i3 i4 i5 i6 v3 v7 (1 : Int32) (2 : Int32) v14 v18 z_90 z_142 b143 b145 (0 : Int32)) [])) _
            refine XS.iload X146.here hx rfl (hb hby at_212) rfl ?_
            show Steps p.tables e below (T146.setTop (mkF m 214 (own_F11 i1 i2 i3 i4 i5 i6 v3 v7 (1 : Int32) (2 : Int32) v14 v18 z_90 z_142 b143 b145 (0 : Int32)) [(.int (0 : Int32))])) _
            refine XS.ifYes X146.here hx rfl (pc0 := 214) (pc' := 221) rfl (hb hby at_214) rfl ((if0 _ _).trans (teq ((by decide) : (0 : Int32) = (0 : Int32))).1) (by decide) (by decide) ?_
            show Steps p.tables e below (T146.setTop (mkF m 221 (own_F11 i1 i2 i3 i4 i5 i6 v3 v7 (1 : Int32) (2 : Int32) v14 v18 z_90 z_142 b143 b145 (0 : Int32)) [])) _
            refine XS.iconst X146.here hx rfl (hb hby at_221) ?_
            show Steps p.tables e below (T146.setTop (mkF m 222 (own_F11 i1 i2 i3 i4 i5 i6 v3 v7 (1 : Int32) (2 : Int32) v14 v18 z_90 z_142 b143 b145 (0 : Int32)) [(.int (0 : Int32))])) _
            exact k
          · refine XS.icmpYes X146.here hx rfl (pc0 := 209) (pc' := 221) rfl (hb hby at_209) rfl (feq hm149).2 (by decide) (by decide) ?_
            show Steps p.tables e below (T146.setTop (mkF m 221 (own_F11 i1 i2 i3 i4 i5 i6 v3 v7 (1 : Int32) (2 : Int32) v14 v18 z_90 z_142 b143 b145 (0 : Int32)) [])) _
            refine XS.iconst X146.here hx rfl (hb hby at_221) ?_
            show Steps p.tables e below (T146.setTop (mkF m 222 (own_F11 i1 i2 i3 i4 i5 i6 v3 v7 (1 : Int32) (2 : Int32) v14 v18 z_90 z_142 b143 b145 (0 : Int32)) [(.int (0 : Int32))])) _
            exact k
        · refine XS.icmpYes X146.here hx rfl (pc0 := 203) (pc' := 221) rfl (hb hby at_203) rfl (feq hm148).2 (by decide) (by decide) ?_
          show Steps p.tables e below (T146.setTop (mkF m 221 (own_F11 i1 i2 i3 i4 i5 i6 v3 v7 (1 : Int32) (2 : Int32) v14 v18 z_90 z_142 b143 b145 (0 : Int32)) [])) _
          refine XS.iconst X146.here hx rfl (hb hby at_221) ?_
          show Steps p.tables e below (T146.setTop (mkF m 222 (own_F11 i1 i2 i3 i4 i5 i6 v3 v7 (1 : Int32) (2 : Int32) v14 v18 z_90 z_142 b143 b145 (0 : Int32)) [(.int (0 : Int32))])) _
          exact k
      obtain ⟨T151, h151, X151, e151, E151, A151, D151, -, st151⟩ := newO X146 hx hZ hown (hw _ (List.mem_of_getElem? (i := 26) rfl)) (hw _ (List.mem_of_getElem? (i := 27) rfl)) (hw _ (List.mem_of_getElem? (i := 28) rfl)) rfl (g := (mkF m 224 (own_F12 i1 i2 i3 i4 i5 i6 v3 v7 (1 : Int32) (2 : Int32) v14 v18 z_90 z_142 b143 b145 (0 : Int32) (0 : Int32)) [])) rfl (hb hby at_224) (by decide) (by decide)
      obtain ⟨b151, gq151⟩ : ∃ z, z = Array.size T146.heap := ⟨_, rfl⟩
      rw [← gq151] at A151 D151 st151
      have ne_z_90_b151 : z_90 ≠ b151 := Nat.ne_of_lt (Nat.lt_of_lt_of_le V_z_c90.lt (Nat.le_of_eq gq151.symm))
      have ne_z_142_b151 : z_142 ≠ b151 := Nat.ne_of_lt (Nat.lt_of_lt_of_le V_z_c142.lt (Nat.le_of_eq gq151.symm))
      have ne_b143_b151 : b143 ≠ b151 := Nat.ne_of_lt (Nat.lt_of_lt_of_le Ex144.lt (Nat.le_of_eq gq151.symm))
      have ne_t144_b151 : t144 ≠ b151 := Nat.ne_of_lt (Nat.lt_of_lt_of_le Av144.lt (Nat.le_of_eq gq151.symm))
      have ne_b145_b151 : b145 ≠ b151 := Nat.ne_of_lt (Nat.lt_of_lt_of_le Ex146.lt (Nat.le_of_eq gq151.symm))
      have ne_t146_b151 : t146 ≠ b151 := Nat.ne_of_lt (Nat.lt_of_lt_of_le Av146.lt (Nat.le_of_eq gq151.symm))
      have g_b151 : n0 ≤ b151 := Nat.le_trans (O.1 ▸ O.2.1) (Nat.le_of_eq gq151.symm)
      have sf_b151 := own_safeN C.1 E151 (Nat.le_of_eq gq151.symm)
      have R := CHr.ext E151 C.1
      have sf_b143 := R.safe Ex144.lt sf_b143
      have sf_b145 := R.safe Ex146.lt sf_b145
      have C := C.trans R
      have hk := Nat.le_trans hk E151.1
      have V_z_c90 := V_z_c90.ext E151
      have V_z_c142 := V_z_c142.ext E151
      have Ex144 := Ex144.ext E151
      have Fc144 := Fc144.ext E151
      have Fv144 := Fv144.ext E151
      have Av144 := Av144.ext E151
      have Ex146 := Ex146.ext E151
      have Fc146 := Fc146.ext E151
      have Fv146 := Fv146.ext E151
      have Av146 := Av146.ext E151
      have O := O.ext E151
      have F_id_b151 : Fld Z h151 b151 "com/example/whirligig/whirligig/DownloadInfoIndication$Unreadable" "id" "I" (.int (0 : Int32)) := D151 (Or.inr (hw _ (List.mem_of_getElem? (i := 39) rfl))) (ty := .int) (by decide)
      have F_version_b151 : Fld Z h151 b151 "com/example/whirligig/whirligig/DownloadInfoIndication$Unreadable" "version" "I" (.int (0 : Int32)) := D151 (Or.inr (hw _ (List.mem_of_getElem? (i := 41) rfl))) (ty := .int) (by decide)
      have F_reason_b151 : Fld Z h151 b151 "com/example/whirligig/whirligig/DownloadInfoIndication$Unreadable" "reason" "Ljava/lang/String;" .null := D151 (Or.inr (hw _ (List.mem_of_getElem? (i := 43) rfl))) (ty := (.object "java/lang/String")) (by decide)
      obtain ⟨_, _, ⟨T152, L152, k152, n152⟩, -, X152, ⟨Lc152, hQ152, l152, y152, z152⟩, st152⟩ := X151.specialBack hx (y := (⟨"com/example/whirligig/whirligig/DownloadInfoIndication$Unreadable", "<init>", "(IILjava/lang/String;)V"⟩ : MethodName)) rfl hown (mvT hZ (hw _ (List.mem_of_getElem? (i := 29) rfl))) (mvT hZ (hw _ (List.mem_of_getElem? (i := 30) rfl))) (mvT hZ (hw _ (List.mem_of_getElem? (i := 31) rfl))) (by decide) (backOf (W := 1) (rm5 l Z a0 hw [] b151 i1 i3 b143 h151 n0 O A151 F_id_b151 F_version_b151 F_reason_b151 g_b151) hZ (hw _ (List.mem_of_getElem? (i := 31) rfl)) (hw _ (List.mem_of_getElem? (i := 28) rfl)) (by decide) (by decide)) (g := (mkF m 232 (own_F12 i1 i2 i3 i4 i5 i6 v3 v7 (1 : Int32) (2 : Int32) v14 v18 z_90 z_142 b143 b145 (0 : Int32) (0 : Int32)) [(.ref b143), (.int i3), (.int i1), (.ref b151), (.ref b151)])) rfl (by rw [hml]; rfl) (Steps.refl _) (a := b151) (argsL := [(.int i1), (.int i3), (.ref b143)]) (rest := [(.ref b151)]) (lenOf pd__40IILjava_47lang_47String_59_41V rfl) rfl (by show 2 * 0 + _ ≤ _; exact Nat.le_of_eq rfl) (hb hby at_232) (fun _ _ => ⟨rfl, e151, (by decide : 7 + 0 ≤ _), (by decide : 18 + 0 ≤ _)⟩)
      dsimp only [Pt.U, Pt.locs, Pt.cells, Pt.slots] at X152 l152 y152 z152 st152 hQ152
      subst l152 y152 z152
      obtain ⟨rfl, N152q, K152, F_i_a_c152, F_w_a_c152, F_r_a_c152⟩ := hQ152
      have N152 := Fr.app N146 N152q
      have R := CHr.keep K152 (allS sf_b151 all0) C.1
      have sf_b143 := R.safe Ex144.lt sf_b143
      have sf_b145 := R.safe Ex146.lt sf_b145
      have sf_b151 := R.safe A151.lt sf_b151
      have C := C.trans R
      have hk := Nat.le_trans hk K152.1
      have V_z_c90 := V_z_c90.keep K152 (ninS ne_z_90_b151 nin0)
      have V_z_c142 := V_z_c142.keep K152 (ninS ne_z_142_b151 nin0)
      have Ex144 := Ex144.keep K152
      have Fc144 := Fc144.keep K152 (ninS ne_b143_b151 nin0)
      have Fv144 := Fv144.keep K152 (ninS ne_b143_b151 nin0)
      have Av144 := Av144.keep K152 (ninS ne_t144_b151 nin0)
      have Ex146 := Ex146.keep K152
      have Fc146 := Fc146.keep K152 (ninS ne_b145_b151 nin0)
      have Fv146 := Fv146.keep K152 (ninS ne_b145_b151 nin0)
      have Av146 := Av146.keep K152 (ninS ne_t146_b151 nin0)
      have A151 := A151.keep K152
      have O := O.keep K152 (allS g_b151 all0)
      obtain ⟨T153, h153, X153, e153, E153, A153, D153, -, st153⟩ := newO X152 hx hZ hown (hw _ (List.mem_of_getElem? (i := 26) rfl)) (hw _ (List.mem_of_getElem? (i := 27) rfl)) (hw _ (List.mem_of_getElem? (i := 28) rfl)) rfl (g := (mkF m 237 (own_F13 i1 i2 i3 i4 i5 i6 v3 v7 (1 : Int32) (2 : Int32) v14 v18 z_90 z_142 b143 b145 (0 : Int32) (0 : Int32) b151) [])) rfl (hb hby at_237) (by decide) (by decide)
      obtain ⟨b153, gq153⟩ : ∃ z, z = Array.size T152.heap := ⟨_, rfl⟩
      rw [← gq153] at A153 D153 st153
      have ne_z_90_b153 : z_90 ≠ b153 := Nat.ne_of_lt (Nat.lt_of_lt_of_le V_z_c90.lt (Nat.le_of_eq gq153.symm))
      have ne_z_142_b153 : z_142 ≠ b153 := Nat.ne_of_lt (Nat.lt_of_lt_of_le V_z_c142.lt (Nat.le_of_eq gq153.symm))
      have ne_b143_b153 : b143 ≠ b153 := Nat.ne_of_lt (Nat.lt_of_lt_of_le Ex144.lt (Nat.le_of_eq gq153.symm))
      have ne_t144_b153 : t144 ≠ b153 := Nat.ne_of_lt (Nat.lt_of_lt_of_le Av144.lt (Nat.le_of_eq gq153.symm))
      have ne_b145_b153 : b145 ≠ b153 := Nat.ne_of_lt (Nat.lt_of_lt_of_le Ex146.lt (Nat.le_of_eq gq153.symm))
      have ne_t146_b153 : t146 ≠ b153 := Nat.ne_of_lt (Nat.lt_of_lt_of_le Av146.lt (Nat.le_of_eq gq153.symm))
      have ne_b151_b153 : b151 ≠ b153 := Nat.ne_of_lt (Nat.lt_of_lt_of_le A151.lt (Nat.le_of_eq gq153.symm))
      have g_b153 : n0 ≤ b153 := Nat.le_trans (O.1 ▸ O.2.1) (Nat.le_of_eq gq153.symm)
      have sf_b153 := own_safeN C.1 E153 (Nat.le_of_eq gq153.symm)
      have R := CHr.ext E153 C.1
      have sf_b143 := R.safe Ex144.lt sf_b143
      have sf_b145 := R.safe Ex146.lt sf_b145
      have sf_b151 := R.safe A151.lt sf_b151
      have C := C.trans R
      have hk := Nat.le_trans hk E153.1
      have V_z_c90 := V_z_c90.ext E153
      have V_z_c142 := V_z_c142.ext E153
      have Ex144 := Ex144.ext E153
      have Fc144 := Fc144.ext E153
      have Fv144 := Fv144.ext E153
      have Av144 := Av144.ext E153
      have Ex146 := Ex146.ext E153
      have Fc146 := Fc146.ext E153
      have Fv146 := Fv146.ext E153
      have Av146 := Av146.ext E153
      have A151 := A151.ext E153
      have F_i_a_c152 := F_i_a_c152.ext E153
      have F_w_a_c152 := F_w_a_c152.ext E153
      have F_r_a_c152 := F_r_a_c152.ext E153
      have O := O.ext E153
      have F_id_b153 : Fld Z h153 b153 "com/example/whirligig/whirligig/DownloadInfoIndication$Unreadable" "id" "I" (.int (0 : Int32)) := D153 (Or.inr (hw _ (List.mem_of_getElem? (i := 39) rfl))) (ty := .int) (by decide)
      have F_version_b153 : Fld Z h153 b153 "com/example/whirligig/whirligig/DownloadInfoIndication$Unreadable" "version" "I" (.int (0 : Int32)) := D153 (Or.inr (hw _ (List.mem_of_getElem? (i := 41) rfl))) (ty := .int) (by decide)
      have F_reason_b153 : Fld Z h153 b153 "com/example/whirligig/whirligig/DownloadInfoIndication$Unreadable" "reason" "Ljava/lang/String;" .null := D153 (Or.inr (hw _ (List.mem_of_getElem? (i := 43) rfl))) (ty := (.object "java/lang/String")) (by decide)
      obtain ⟨_, _, ⟨T154, L154, k154, n154⟩, -, X154, ⟨Lc154, hQ154, l154, y154, z154⟩, st154⟩ := X153.specialBack hx (y := (⟨"com/example/whirligig/whirligig/DownloadInfoIndication$Unreadable", "<init>", "(IILjava/lang/String;)V"⟩ : MethodName)) rfl hown (mvT hZ (hw _ (List.mem_of_getElem? (i := 29) rfl))) (mvT hZ (hw _ (List.mem_of_getElem? (i := 30) rfl))) (mvT hZ (hw _ (List.mem_of_getElem? (i := 31) rfl))) (by decide) (backOf (W := 1) (rm5 l Z a0 hw [] b153 v3 v7 b145 h153 n0 O A153 F_id_b153 F_version_b153 F_reason_b153 g_b153) hZ (hw _ (List.mem_of_getElem? (i := 31) rfl)) (hw _ (List.mem_of_getElem? (i := 28) rfl)) (by decide) (by decide)) (g := (mkF m 247 (own_F13 i1 i2 i3 i4 i5 i6 v3 v7 (1 : Int32) (2 : Int32) v14 v18 z_90 z_142 b143 b145 (0 : Int32) (0 : Int32) b151) [(.ref b145), (.int v7), (.int v3), (.ref b153), (.ref b153)])) rfl (by rw [hml]; rfl) (Steps.refl _) (a := b153) (argsL := [(.int v3), (.int v7), (.ref b145)]) (rest := [(.ref b153)]) (lenOf pd__40IILjava_47lang_47String_59_41V rfl) rfl (by show 2 * 0 + _ ≤ _; exact Nat.le_of_eq rfl) (hb hby at_247) (fun _ _ => ⟨rfl, e153, (by decide : 8 + 0 ≤ _), (by decide : 21 + 0 ≤ _)⟩)
      dsimp only [Pt.U, Pt.locs, Pt.cells, Pt.slots] at X154 l154 y154 z154 st154 hQ154
      subst l154 y154 z154
      obtain ⟨rfl, N154q, K154, F_i_a_c154, F_w_a_c154, F_r_a_c154⟩ := hQ154
      have N154 := Fr.app N152 N154q
      have R := CHr.keep K154 (allS sf_b153 all0) C.1
      have sf_b143 := R.safe Ex144.lt sf_b143
      have sf_b145 := R.safe Ex146.lt sf_b145
      have sf_b151 := R.safe A151.lt sf_b151
      have sf_b153 := R.safe A153.lt sf_b153
      have C := C.trans R
      have hk := Nat.le_trans hk K154.1
      have V_z_c90 := V_z_c90.keep K154 (ninS ne_z_90_b153 nin0)
      have V_z_c142 := V_z_c142.keep K154 (ninS ne_z_142_b153 nin0)
      have Ex144 := Ex144.keep K154
      have Fc144 := Fc144.keep K154 (ninS ne_b143_b153 nin0)
      have Fv144 := Fv144.keep K154 (ninS ne_b143_b153 nin0)
      have Av144 := Av144.keep K154 (ninS ne_t144_b153 nin0)
      have Ex146 := Ex146.keep K154
      have Fc146 := Fc146.keep K154 (ninS ne_b145_b153 nin0)
      have Fv146 := Fv146.keep K154 (ninS ne_b145_b153 nin0)
      have Av146 := Av146.keep K154 (ninS ne_t146_b153 nin0)
      have A151 := A151.keep K154
      have F_i_a_c152 := F_i_a_c152.keep K154 (ninS ne_b151_b153 nin0)
      have F_w_a_c152 := F_w_a_c152.keep K154 (ninS ne_b151_b153 nin0)
      have F_r_a_c152 := F_r_a_c152.keep K154 (ninS ne_b151_b153 nin0)
      have A153 := A153.keep K154
      have O := O.keep K154 (allS g_b153 all0)
      obtain ⟨cq155, kq155, q155a, q155b, q155c⟩ := isOf hZ rfl A151
      obtain ⟨_, _, ⟨T155, L155, k155, n155⟩, -, X155, ⟨Lc155, hQ155, l155, y155, z155⟩, st155⟩ := X154.virtualBack hx (y := (⟨"com/example/whirligig/whirligig/DownloadInfoIndication$Unreadable", "equals", "(Ljava/lang/Object;)Z"⟩ : MethodName)) (z := (⟨"com/example/whirligig/whirligig/DownloadInfoIndication$Unreadable", "equals", "(Ljava/lang/Object;)Z"⟩ : MethodName)) hown (mvT hZ (hw _ (List.mem_of_getElem? (i := 44) rfl))) (mvT hZ (hw _ (List.mem_of_getElem? (i := 45) rfl))) (notFace_of_selects (args := #[]) (mvT hZ (hw _ (List.mem_of_getElem? (i := 47) rfl)))) (mvT hZ (hw _ (List.mem_of_getElem? (i := 47) rfl))) (mvT hZ (hw _ (List.mem_of_getElem? (i := 46) rfl))) (by decide) (backOf (W := 0) (rm7 l Z a0 hw [] b151 b153 i1 v3 i3 v7 b143 b145 t144 t146 kb144 kb146 ([c1_90] : List Int32) ([c1_142, d1_142] : List Int32) zc T154.heap n0 O A153 F_i_a_c152 F_i_a_c154 F_w_a_c152 F_w_a_c154 F_r_a_c152 F_r_a_c154 Ex144 Fv144 Fc144 Av144 Ex146 Fv146 Fc146 Av146 hp_b143 (Nat.le_trans h9_b143.2 (by decide)) hp_b145 (Nat.le_trans h9_b145.2 (by decide)) SC hzc) hZ (hw _ (List.mem_of_getElem? (i := 48) rfl)) (hw _ (List.mem_of_getElem? (i := 28) rfl)) (by decide) (by decide)) q155a q155c (g := (mkF m 264 (own_F16 i1 i2 i3 i4 i5 i6 v3 v7 (1 : Int32) (2 : Int32) v14 v18 z_90 z_142 b143 b145 (0 : Int32) (0 : Int32) b151 b153 b153 b151) [(.ref b153), (.ref b151)])) rfl (by rw [hml]; rfl) (Steps.refl _) (argsL := [(.ref b153)]) (rest := []) (lenOf pd__40Ljava_47lang_47Object_59_41Z rfl) rfl (by show 2 * 0 + _ ≤ _; exact Nat.le_of_eq rfl) (hb hby at_264) (fun _ _ => ⟨rfl, rfl, (by decide : 8 + 0 ≤ _), (by decide : 21 + 0 ≤ _)⟩)
      dsimp only [Pt.U, Pt.locs, Pt.cells, Pt.slots] at X155 l155 y155 z155 st155 hQ155
      subst l155 y155 z155
      obtain ⟨rfl, N155q, eh155⟩ := hQ155
      have N155 := Fr.app N154 N155q
      obtain ⟨cq156, kq156, q156a, q156b, q156c⟩ := isOf hZ eh155 A153
      obtain ⟨_, _, ⟨T156, L156, k156, n156⟩, -, X156, ⟨Lc156, hQ156, l156, y156, z156⟩, st156⟩ := X155.virtualBack hx (y := (⟨"com/example/whirligig/whirligig/DownloadInfoIndication$Unreadable", "equals", "(Ljava/lang/Object;)Z"⟩ : MethodName)) (z := (⟨"com/example/whirligig/whirligig/DownloadInfoIndication$Unreadable", "equals", "(Ljava/lang/Object;)Z"⟩ : MethodName)) hown (mvT hZ (hw _ (List.mem_of_getElem? (i := 44) rfl))) (mvT hZ (hw _ (List.mem_of_getElem? (i := 45) rfl))) (notFace_of_selects (args := #[]) (mvT hZ (hw _ (List.mem_of_getElem? (i := 47) rfl)))) (mvT hZ (hw _ (List.mem_of_getElem? (i := 47) rfl))) (mvT hZ (hw _ (List.mem_of_getElem? (i := 46) rfl))) (by decide) (backOf (W := 0) (rm7 l Z a0 hw [] b153 b151 v3 i1 v7 i3 b145 b143 t146 t144 kb146 kb144 ([c1_142, d1_142] : List Int32) ([c1_90] : List Int32) zc T154.heap n0 O A151 F_i_a_c154 F_i_a_c152 F_w_a_c154 F_w_a_c152 F_r_a_c154 F_r_a_c152 Ex146 Fv146 Fc146 Av146 Ex144 Fv144 Fc144 Av144 hp_b145 (Nat.le_trans h9_b145.2 (by decide)) hp_b143 (Nat.le_trans h9_b143.2 (by decide)) SC hzc) hZ (hw _ (List.mem_of_getElem? (i := 48) rfl)) (hw _ (List.mem_of_getElem? (i := 28) rfl)) (by decide) (by decide)) q156a q156c (g := (mkF m 276 (own_F16 i1 i2 i3 i4 i5 i6 v3 v7 (1 : Int32) (2 : Int32) v14 v18 z_90 z_142 b143 b145 (0 : Int32) (0 : Int32) b151 b153 b153 b151) [(.ref b151), (.ref b153)])) rfl (by rw [hml]; rfl) (Steps.refl _) (argsL := [(.ref b151)]) (rest := []) (lenOf pd__40Ljava_47lang_47Object_59_41Z rfl) rfl (by show 2 * 0 + _ ≤ _; exact Nat.le_of_eq rfl) (hb hby at_276) (fun _ _ => ⟨rfl, eh155, (by decide : 8 + 0 ≤ _), (by decide : 21 + 0 ≤ _)⟩)
      dsimp only [Pt.U, Pt.locs, Pt.cells, Pt.slots] at X156 l156 y156 z156 st156 hQ156
      subst l156 y156 z156
      obtain ⟨rfl, N156q, eh156⟩ := hQ156
      have N156 := Fr.app N155 N156q
      obtain ⟨cq157, kq157, q157a, q157b, q157c⟩ := isOf hZ eh156 A151
      obtain ⟨_, _, ⟨T157, L157, k157, n157⟩, -, X157, ⟨Lc157, hQ157, l157, y157, z157⟩, st157⟩ := X156.virtualBack hx (y := (⟨"com/example/whirligig/whirligig/DownloadInfoIndication$Unreadable", "equals", "(Ljava/lang/Object;)Z"⟩ : MethodName)) (z := (⟨"com/example/whirligig/whirligig/DownloadInfoIndication$Unreadable", "equals", "(Ljava/lang/Object;)Z"⟩ : MethodName)) hown (mvT hZ (hw _ (List.mem_of_getElem? (i := 44) rfl))) (mvT hZ (hw _ (List.mem_of_getElem? (i := 45) rfl))) (notFace_of_selects (args := #[]) (mvT hZ (hw _ (List.mem_of_getElem? (i := 47) rfl)))) (mvT hZ (hw _ (List.mem_of_getElem? (i := 47) rfl))) (mvT hZ (hw _ (List.mem_of_getElem? (i := 46) rfl))) (by decide) (backOf (W := 0) (rm7 l Z a0 hw [] b151 b151 i1 i1 i3 i3 b143 b143 t144 t144 kb144 kb144 ([c1_90] : List Int32) ([c1_90] : List Int32) zc T154.heap n0 O A151 F_i_a_c152 F_i_a_c152 F_w_a_c152 F_w_a_c152 F_r_a_c152 F_r_a_c152 Ex144 Fv144 Fc144 Av144 Ex144 Fv144 Fc144 Av144 hp_b143 (Nat.le_trans h9_b143.2 (by decide)) hp_b143 (Nat.le_trans h9_b143.2 (by decide)) SC hzc) hZ (hw _ (List.mem_of_getElem? (i := 48) rfl)) (hw _ (List.mem_of_getElem? (i := 28) rfl)) (by decide) (by decide)) q157a q157c (g := (mkF m 288 (own_F16 i1 i2 i3 i4 i5 i6 v3 v7 (1 : Int32) (2 : Int32) v14 v18 z_90 z_142 b143 b145 (0 : Int32) (0 : Int32) b151 b153 b153 b151) [(.ref b151), (.ref b151)])) rfl (by rw [hml]; rfl) (Steps.refl _) (argsL := [(.ref b151)]) (rest := []) (lenOf pd__40Ljava_47lang_47Object_59_41Z rfl) rfl (by show 2 * 0 + _ ≤ _; exact Nat.le_of_eq rfl) (hb hby at_288) (fun _ _ => ⟨rfl, eh156, (by decide : 8 + 0 ≤ _), (by decide : 21 + 0 ≤ _)⟩)
      dsimp only [Pt.U, Pt.locs, Pt.cells, Pt.slots] at X157 l157 y157 z157 st157 hQ157
      subst l157 y157 z157
      obtain ⟨rfl, N157q, eh157⟩ := hQ157
      have N157 := Fr.app N156 N157q
      obtain ⟨cq158, kq158, q158a, q158b, q158c⟩ := isOf hZ eh157 A151
      obtain ⟨_, _, ⟨T158, L158, k158, n158⟩, -, X158, ⟨Lc158, hQ158, l158, y158, z158⟩, st158⟩ := X157.virtualBack hx (y := (⟨"com/example/whirligig/whirligig/DownloadInfoIndication$Unreadable", "equals", "(Ljava/lang/Object;)Z"⟩ : MethodName)) (z := (⟨"com/example/whirligig/whirligig/DownloadInfoIndication$Unreadable", "equals", "(Ljava/lang/Object;)Z"⟩ : MethodName)) hown (mvT hZ (hw _ (List.mem_of_getElem? (i := 44) rfl))) (mvT hZ (hw _ (List.mem_of_getElem? (i := 45) rfl))) (notFace_of_selects (args := #[]) (mvT hZ (hw _ (List.mem_of_getElem? (i := 47) rfl)))) (mvT hZ (hw _ (List.mem_of_getElem? (i := 47) rfl))) (mvT hZ (hw _ (List.mem_of_getElem? (i := 46) rfl))) (by decide) (backOf (W := 0) (rm7_n l Z a0 hw [] b151 T154.heap n0 O ) hZ (hw _ (List.mem_of_getElem? (i := 48) rfl)) (hw _ (List.mem_of_getElem? (i := 28) rfl)) (by decide) (by decide)) q158a q158c (g := (mkF m 297 (own_F16 i1 i2 i3 i4 i5 i6 v3 v7 (1 : Int32) (2 : Int32) v14 v18 z_90 z_142 b143 b145 (0 : Int32) (0 : Int32) b151 b153 b153 b151) [.null, (.ref b151)])) rfl (by rw [hml]; rfl) (Steps.refl _) (argsL := [.null]) (rest := []) (lenOf pd__40Ljava_47lang_47Object_59_41Z rfl) rfl (by show 2 * 0 + _ ≤ _; exact Nat.le_of_eq rfl) (hb hby at_297) (fun _ _ => ⟨rfl, eh157, (by decide : 8 + 0 ≤ _), (by decide : 21 + 0 ≤ _)⟩)
      dsimp only [Pt.U, Pt.locs, Pt.cells, Pt.slots] at X158 l158 y158 z158 st158 hQ158
      subst l158 y158 z158
      obtain ⟨rfl, N158q, eh158⟩ := hQ158
      have N158 := Fr.app N157 N158q
      obtain ⟨cq159, kq159, q159a, q159b, q159c⟩ := isOf hZ eh158 A151
      obtain ⟨_, _, ⟨T159, L159, k159, n159⟩, -, X159, ⟨Lc159, hQ159, l159, y159, z159⟩, st159⟩ := X158.virtualBack hx (y := (⟨"com/example/whirligig/whirligig/DownloadInfoIndication$Unreadable", "equals", "(Ljava/lang/Object;)Z"⟩ : MethodName)) (z := (⟨"com/example/whirligig/whirligig/DownloadInfoIndication$Unreadable", "equals", "(Ljava/lang/Object;)Z"⟩ : MethodName)) hown (mvT hZ (hw _ (List.mem_of_getElem? (i := 44) rfl))) (mvT hZ (hw _ (List.mem_of_getElem? (i := 45) rfl))) (notFace_of_selects (args := #[]) (mvT hZ (hw _ (List.mem_of_getElem? (i := 47) rfl)))) (mvT hZ (hw _ (List.mem_of_getElem? (i := 47) rfl))) (mvT hZ (hw _ (List.mem_of_getElem? (i := 46) rfl))) (by decide) (backOf (W := 0) (rm7_S l Z a0 hw [] b151 b143 T154.heap n0 O Ex144) hZ (hw _ (List.mem_of_getElem? (i := 48) rfl)) (hw _ (List.mem_of_getElem? (i := 28) rfl)) (by decide) (by decide)) q159a q159c (g := (mkF m 307 (own_F16 i1 i2 i3 i4 i5 i6 v3 v7 (1 : Int32) (2 : Int32) v14 v18 z_90 z_142 b143 b145 (0 : Int32) (0 : Int32) b151 b153 b153 b151) [(.ref b143), (.ref b151)])) rfl (by rw [hml]; rfl) (Steps.refl _) (argsL := [(.ref b143)]) (rest := []) (lenOf pd__40Ljava_47lang_47Object_59_41Z rfl) rfl (by show 2 * 0 + _ ≤ _; exact Nat.le_of_eq rfl) (hb hby at_307) (fun _ _ => ⟨rfl, eh158, (by decide : 8 + 0 ≤ _), (by decide : 21 + 0 ≤ _)⟩)
      dsimp only [Pt.U, Pt.locs, Pt.cells, Pt.slots] at X159 l159 y159 z159 st159 hQ159
      subst l159 y159 z159
      obtain ⟨rfl, N159q, eh159⟩ := hQ159
      have N159 := Fr.app N158 N159q
      obtain ⟨_, _, ⟨T160, L160, k160, n160⟩, -, X160, ⟨Lc160, hQ160, l160, y160, z160⟩, st160⟩ := Jvm.LawKit.callS X159 hx (y := (⟨"java/lang/Integer", "valueOf", "(I)Ljava/lang/Integer;"⟩ : MethodName)) hown (mvT hZ (hw _ (List.mem_of_getElem? (i := 64) rfl))) (mvT hZ (hw _ (List.mem_of_getElem? (i := 65) rfl))) (mvT hZ (hw _ (List.mem_of_getElem? (i := 66) rfl))) (mvT hZ (hw _ (List.mem_of_getElem? (i := 67) rfl))) (by decide) (backOf (W := 1) (rm10 l Z a0 hw [] i1 cl_s_cacheI s_cacheI T154.heap n0 O S_s_cacheI S_high BI) hZ (hw _ (List.mem_of_getElem? (i := 67) rfl)) (hw _ (List.mem_of_getElem? (i := 66) rfl)) (by decide) (by decide)) (g := (mkF m 316 (own_F16 i1 i2 i3 i4 i5 i6 v3 v7 (1 : Int32) (2 : Int32) v14 v18 z_90 z_142 b143 b145 (0 : Int32) (0 : Int32) b151 b153 b153 b151) [(.int i1), (.ref b151)])) rfl (by rw [hml]; rfl) (argsL := [(.int i1)]) (rest := [(.ref b151)]) (lenOf pd__40I_41Ljava_47lang_47Integer_59 rfl) rfl (by show 2 * 0 + _ ≤ _; exact Nat.le_of_eq rfl) (hb hby at_316) (fun _ _ => ⟨rfl, eh159, (by decide : 8 + 1 ≤ _), (by decide : 21 + 1 ≤ _)⟩)
      dsimp only [Pt.U, Pt.locs, Pt.cells, Pt.slots] at X160 l160 y160 z160 st160 hQ160
      subst l160 y160 z160
      obtain ⟨z_160, rfl, N160q, K160, E_z_c160⟩ := hQ160
      have N160 := Fr.app N159 N160q
      have R := CHr.keep K160 all0 C.1
      have sf_b143 := R.safe Ex144.lt sf_b143
      have sf_b145 := R.safe Ex146.lt sf_b145
      have sf_b151 := R.safe A151.lt sf_b151
      have sf_b153 := R.safe A153.lt sf_b153
      have C := C.trans R
      have hk := Nat.le_trans hk K160.1
      have V_z_c90 := V_z_c90.keep K160 nin0
      have V_z_c142 := V_z_c142.keep K160 nin0
      have Ex144 := Ex144.keep K160
      have Fc144 := Fc144.keep K160 nin0
      have Fv144 := Fv144.keep K160 nin0
      have Av144 := Av144.keep K160 nin0
      have Ex146 := Ex146.keep K160
      have Fc146 := Fc146.keep K160 nin0
      have Fv146 := Fv146.keep K160 nin0
      have Av146 := Av146.keep K160 nin0
      have A151 := A151.keep K160
      have F_i_a_c152 := F_i_a_c152.keep K160 nin0
      have F_w_a_c152 := F_w_a_c152.keep K160 nin0
      have F_r_a_c152 := F_r_a_c152.keep K160 nin0
      have A153 := A153.keep K160
      have F_i_a_c154 := F_i_a_c154.keep K160 nin0
      have F_w_a_c154 := F_w_a_c154.keep K160 nin0
      have F_r_a_c154 := F_r_a_c154.keep K160 nin0
      have O := O.keep K160 all0
      obtain ⟨cq161, kq161, q161a, q161b, q161c⟩ := isOf hZ rfl A151
      obtain ⟨_, _, ⟨T161, L161, k161, n161⟩, -, X161, ⟨Lc161, hQ161, l161, y161, z161⟩, st161⟩ := X160.virtualBack hx (y := (⟨"com/example/whirligig/whirligig/DownloadInfoIndication$Unreadable", "equals", "(Ljava/lang/Object;)Z"⟩ : MethodName)) (z := (⟨"com/example/whirligig/whirligig/DownloadInfoIndication$Unreadable", "equals", "(Ljava/lang/Object;)Z"⟩ : MethodName)) hown (mvT hZ (hw _ (List.mem_of_getElem? (i := 44) rfl))) (mvT hZ (hw _ (List.mem_of_getElem? (i := 45) rfl))) (notFace_of_selects (args := #[]) (mvT hZ (hw _ (List.mem_of_getElem? (i := 47) rfl)))) (mvT hZ (hw _ (List.mem_of_getElem? (i := 47) rfl))) (mvT hZ (hw _ (List.mem_of_getElem? (i := 46) rfl))) (by decide) (backOf (W := 0) (rm7_I l Z a0 hw [] b151 z_160 T160.heap n0 O E_z_c160) hZ (hw _ (List.mem_of_getElem? (i := 48) rfl)) (hw _ (List.mem_of_getElem? (i := 28) rfl)) (by decide) (by decide)) q161a q161c (g := (mkF m 319 (own_F16 i1 i2 i3 i4 i5 i6 v3 v7 (1 : Int32) (2 : Int32) v14 v18 z_90 z_142 b143 b145 (0 : Int32) (0 : Int32) b151 b153 b153 b151) [(.ref z_160), (.ref b151)])) rfl (by rw [hml]; rfl) (Steps.refl _) (argsL := [(.ref z_160)]) (rest := []) (lenOf pd__40Ljava_47lang_47Object_59_41Z rfl) rfl (by show 2 * 0 + _ ≤ _; exact Nat.le_of_eq rfl) (hb hby at_319) (fun _ _ => ⟨rfl, rfl, (by decide : 9 + 0 ≤ _), (by decide : 22 + 0 ≤ _)⟩)
      dsimp only [Pt.U, Pt.locs, Pt.cells, Pt.slots] at X161 l161 y161 z161 st161 hQ161
      subst l161 y161 z161
      obtain ⟨rfl, N161q, eh161⟩ := hQ161
      have N161 := Fr.app N160 N161q
      have w162 : ∀ t, Steps p.tables e below (T161.setTop (mkF m 330 (own_F16 i1 i2 i3 i4 i5 i6 v3 v7 (1 : Int32) (2 : Int32) v14 v18 z_90 z_142 b143 b145 (0 : Int32) (0 : Int32) b151 b153 b153 b151) [(.int (1 : Int32))])) t → Steps p.tables e below (s₁.setTop (entryFrame m #[(.int i1), (.int i2), (.int i3), (.int i4), (.int i5), (.int i6)] maxLocals)) t := fun t k => by
        refine w150 t ?_
        refine XS.istore X146.here hx rfl (hb hby at_222) rfl (l' := (own_F12 i1 i2 i3 i4 i5 i6 v3 v7 (1 : Int32) (2 : Int32) v14 v18 z_90 z_142 b143 b145 (0 : Int32) (0 : Int32))) rfl ?_
        show Steps p.tables e below (T146.setTop (mkF m 224 (own_F12 i1 i2 i3 i4 i5 i6 v3 v7 (1 : Int32) (2 : Int32) v14 v18 z_90 z_142 b143 b145 (0 : Int32) (0 : Int32)) [])) _
        refine st151 _ ?_
        show Steps p.tables e below (T151.setTop (mkF m 227 (own_F12 i1 i2 i3 i4 i5 i6 v3 v7 (1 : Int32) (2 : Int32) v14 v18 z_90 z_142 b143 b145 (0 : Int32) (0 : Int32)) [(.ref b151)])) _
        refine XS.dup X151.here hx rfl (hb hby at_227) rfl rfl ?_
        show Steps p.tables e below (T151.setTop (mkF m 228 (own_F12 i1 i2 i3 i4 i5 i6 v3 v7 (1 : Int32) (2 : Int32) v14 v18 z_90 z_142 b143 b145 (0 : Int32) (0 : Int32)) [(.ref b151), (.ref b151)])) _
        refine XS.iloadN X151.here hx rfl (hb hby at_228) rfl ?_
        show Steps p.tables e below (T151.setTop (mkF m 229 (own_F12 i1 i2 i3 i4 i5 i6 v3 v7 (1 : Int32) (2 : Int32) v14 v18 z_90 z_142 b143 b145 (0 : Int32) (0 : Int32)) [(.int i1), (.ref b151), (.ref b151)])) _
        refine XS.iloadN X151.here hx rfl (hb hby at_229) rfl ?_
        show Steps p.tables e below (T151.setTop (mkF m 230 (own_F12 i1 i2 i3 i4 i5 i6 v3 v7 (1 : Int32) (2 : Int32) v14 v18 z_90 z_142 b143 b145 (0 : Int32) (0 : Int32)) [(.int i3), (.int i1), (.ref b151), (.ref b151)])) _
        refine XS.aload X151.here hx rfl (hb hby at_230) rfl rfl ?_
        show Steps p.tables e below (T151.setTop (mkF m 232 (own_F12 i1 i2 i3 i4 i5 i6 v3 v7 (1 : Int32) (2 : Int32) v14 v18 z_90 z_142 b143 b145 (0 : Int32) (0 : Int32)) [(.ref b143), (.int i3), (.int i1), (.ref b151), (.ref b151)])) _
        refine st152.trans ?_
        show Steps p.tables e below (T152.setTop (mkF m 235 (own_F12 i1 i2 i3 i4 i5 i6 v3 v7 (1 : Int32) (2 : Int32) v14 v18 z_90 z_142 b143 b145 (0 : Int32) (0 : Int32)) [(.ref b151)])) _
        refine XS.astore X152.here hx rfl (hb hby at_235) rfl rfl (l' := (own_F13 i1 i2 i3 i4 i5 i6 v3 v7 (1 : Int32) (2 : Int32) v14 v18 z_90 z_142 b143 b145 (0 : Int32) (0 : Int32) b151)) rfl ?_
        show Steps p.tables e below (T152.setTop (mkF m 237 (own_F13 i1 i2 i3 i4 i5 i6 v3 v7 (1 : Int32) (2 : Int32) v14 v18 z_90 z_142 b143 b145 (0 : Int32) (0 : Int32) b151) [])) _
        refine st153 _ ?_
        show Steps p.tables e below (T153.setTop (mkF m 240 (own_F13 i1 i2 i3 i4 i5 i6 v3 v7 (1 : Int32) (2 : Int32) v14 v18 z_90 z_142 b143 b145 (0 : Int32) (0 : Int32) b151) [(.ref b153)])) _
        refine XS.dup X153.here hx rfl (hb hby at_240) rfl rfl ?_
        show Steps p.tables e below (T153.setTop (mkF m 241 (own_F13 i1 i2 i3 i4 i5 i6 v3 v7 (1 : Int32) (2 : Int32) v14 v18 z_90 z_142 b143 b145 (0 : Int32) (0 : Int32) b151) [(.ref b153), (.ref b153)])) _
        refine XS.iload X153.here hx rfl (hb hby at_241) rfl ?_
        show Steps p.tables e below (T153.setTop (mkF m 243 (own_F13 i1 i2 i3 i4 i5 i6 v3 v7 (1 : Int32) (2 : Int32) v14 v18 z_90 z_142 b143 b145 (0 : Int32) (0 : Int32) b151) [(.int v3), (.ref b153), (.ref b153)])) _
        refine XS.iload X153.here hx rfl (hb hby at_243) rfl ?_
        show Steps p.tables e below (T153.setTop (mkF m 245 (own_F13 i1 i2 i3 i4 i5 i6 v3 v7 (1 : Int32) (2 : Int32) v14 v18 z_90 z_142 b143 b145 (0 : Int32) (0 : Int32) b151) [(.int v7), (.int v3), (.ref b153), (.ref b153)])) _
        refine XS.aload X153.here hx rfl (hb hby at_245) rfl rfl ?_
        show Steps p.tables e below (T153.setTop (mkF m 247 (own_F13 i1 i2 i3 i4 i5 i6 v3 v7 (1 : Int32) (2 : Int32) v14 v18 z_90 z_142 b143 b145 (0 : Int32) (0 : Int32) b151) [(.ref b145), (.int v7), (.int v3), (.ref b153), (.ref b153)])) _
        refine st154.trans ?_
        show Steps p.tables e below (T154.setTop (mkF m 250 (own_F13 i1 i2 i3 i4 i5 i6 v3 v7 (1 : Int32) (2 : Int32) v14 v18 z_90 z_142 b143 b145 (0 : Int32) (0 : Int32) b151) [(.ref b153)])) _
        refine XS.astore X154.here hx rfl (hb hby at_250) rfl rfl (l' := (own_F14 i1 i2 i3 i4 i5 i6 v3 v7 (1 : Int32) (2 : Int32) v14 v18 z_90 z_142 b143 b145 (0 : Int32) (0 : Int32) b151 b153)) rfl ?_
        show Steps p.tables e below (T154.setTop (mkF m 252 (own_F14 i1 i2 i3 i4 i5 i6 v3 v7 (1 : Int32) (2 : Int32) v14 v18 z_90 z_142 b143 b145 (0 : Int32) (0 : Int32) b151 b153) [])) _
        refine XS.aload X154.here hx rfl (hb hby at_252) rfl rfl ?_
        show Steps p.tables e below (T154.setTop (mkF m 254 (own_F14 i1 i2 i3 i4 i5 i6 v3 v7 (1 : Int32) (2 : Int32) v14 v18 z_90 z_142 b143 b145 (0 : Int32) (0 : Int32) b151 b153) [(.ref b153)])) _
        refine XS.astore X154.here hx rfl (hb hby at_254) rfl rfl (l' := (own_F15 i1 i2 i3 i4 i5 i6 v3 v7 (1 : Int32) (2 : Int32) v14 v18 z_90 z_142 b143 b145 (0 : Int32) (0 : Int32) b151 b153 b153)) rfl ?_
        show Steps p.tables e below (T154.setTop (mkF m 256 (own_F15 i1 i2 i3 i4 i5 i6 v3 v7 (1 : Int32) (2 : Int32) v14 v18 z_90 z_142 b143 b145 (0 : Int32) (0 : Int32) b151 b153 b153) [])) _
        refine XS.aload X154.here hx rfl (hb hby at_256) rfl rfl ?_
        show Steps p.tables e below (T154.setTop (mkF m 258 (own_F15 i1 i2 i3 i4 i5 i6 v3 v7 (1 : Int32) (2 : Int32) v14 v18 z_90 z_142 b143 b145 (0 : Int32) (0 : Int32) b151 b153 b153) [(.ref b151)])) _
        refine XS.astore X154.here hx rfl (hb hby at_258) rfl rfl (l' := (own_F16 i1 i2 i3 i4 i5 i6 v3 v7 (1 : Int32) (2 : Int32) v14 v18 z_90 z_142 b143 b145 (0 : Int32) (0 : Int32) b151 b153 b153 b151)) rfl ?_
        show Steps p.tables e below (T154.setTop (mkF m 260 (own_F16 i1 i2 i3 i4 i5 i6 v3 v7 (1 : Int32) (2 : Int32) v14 v18 z_90 z_142 b143 b145 (0 : Int32) (0 : Int32) b151 b153 b153 b151) [])) _
        refine XS.aload X154.here hx rfl (hb hby at_260) rfl rfl ?_
        show Steps p.tables e below (T154.setTop (mkF m 262 (own_F16 i1 i2 i3 i4 i5 i6 v3 v7 (1 : Int32) (2 : Int32) v14 v18 z_90 z_142 b143 b145 (0 : Int32) (0 : Int32) b151 b153 b153 b151) [(.ref b151)])) _
        refine XS.aload X154.here hx rfl (hb hby at_262) rfl rfl ?_
        show Steps p.tables e below (T154.setTop (mkF m 264 (own_F16 i1 i2 i3 i4 i5 i6 v3 v7 (1 : Int32) (2 : Int32) v14 v18 z_90 z_142 b143 b145 (0 : Int32) (0 : Int32) b151 b153 b153 b151) [(.ref b153), (.ref b151)])) _
        refine st155.trans ?_
        show Steps p.tables e below (T155.setTop (mkF m 267 (own_F16 i1 i2 i3 i4 i5 i6 v3 v7 (1 : Int32) (2 : Int32) v14 v18 z_90 z_142 b143 b145 (0 : Int32) (0 : Int32) b151 b153 b153 b151) [(.int (own_e i1 v3 i3 v7 ([c1_90] : List Int32) ([c1_142, d1_142] : List Int32)))])) _
        refine XS.iload X155.here hx rfl (hb hby at_267) rfl ?_
        show Steps p.tables e below (T155.setTop (mkF m 269 (own_F16 i1 i2 i3 i4 i5 i6 v3 v7 (1 : Int32) (2 : Int32) v14 v18 z_90 z_142 b143 b145 (0 : Int32) (0 : Int32) b151 b153 b153 b151) [(.int (0 : Int32)), (.int (own_e i1 v3 i3 v7 ([c1_90] : List Int32) ([c1_142, d1_142] : List Int32)))])) _
        refine XS.icmpNo X155.here hx rfl (hb hby at_269) rfl (teq (own_e0 _ _ _ _ (fun e => nomatch (List.cons.inj e).2) : (own_e i1 v3 i3 v7 ([c1_90] : List Int32) ([c1_142, d1_142] : List Int32)) = (0 : Int32))).2 ?_
        show Steps p.tables e below (T155.setTop (mkF m 272 (own_F16 i1 i2 i3 i4 i5 i6 v3 v7 (1 : Int32) (2 : Int32) v14 v18 z_90 z_142 b143 b145 (0 : Int32) (0 : Int32) b151 b153 b153 b151) [])) _
        refine XS.aload X155.here hx rfl (hb hby at_272) rfl rfl ?_
        show Steps p.tables e below (T155.setTop (mkF m 274 (own_F16 i1 i2 i3 i4 i5 i6 v3 v7 (1 : Int32) (2 : Int32) v14 v18 z_90 z_142 b143 b145 (0 : Int32) (0 : Int32) b151 b153 b153 b151) [(.ref b153)])) _
        refine XS.aload X155.here hx rfl (hb hby at_274) rfl rfl ?_
        show Steps p.tables e below (T155.setTop (mkF m 276 (own_F16 i1 i2 i3 i4 i5 i6 v3 v7 (1 : Int32) (2 : Int32) v14 v18 z_90 z_142 b143 b145 (0 : Int32) (0 : Int32) b151 b153 b153 b151) [(.ref b151), (.ref b153)])) _
        refine st156.trans ?_
        show Steps p.tables e below (T156.setTop (mkF m 279 (own_F16 i1 i2 i3 i4 i5 i6 v3 v7 (1 : Int32) (2 : Int32) v14 v18 z_90 z_142 b143 b145 (0 : Int32) (0 : Int32) b151 b153 b153 b151) [(.int (own_e v3 i1 v7 i3 ([c1_142, d1_142] : List Int32) ([c1_90] : List Int32)))])) _
        refine XS.iload X156.here hx rfl (hb hby at_279) rfl ?_
        show Steps p.tables e below (T156.setTop (mkF m 281 (own_F16 i1 i2 i3 i4 i5 i6 v3 v7 (1 : Int32) (2 : Int32) v14 v18 z_90 z_142 b143 b145 (0 : Int32) (0 : Int32) b151 b153 b153 b151) [(.int (0 : Int32)), (.int (own_e v3 i1 v7 i3 ([c1_142, d1_142] : List Int32) ([c1_90] : List Int32)))])) _
        refine XS.icmpNo X156.here hx rfl (hb hby at_281) rfl (teq ((own_sym _ _ _ _ _ _).trans (own_e0 _ _ _ _ (fun e => nomatch (List.cons.inj e).2)) : (own_e v3 i1 v7 i3 ([c1_142, d1_142] : List Int32) ([c1_90] : List Int32)) = (0 : Int32))).2 ?_
        show Steps p.tables e below (T156.setTop (mkF m 284 (own_F16 i1 i2 i3 i4 i5 i6 v3 v7 (1 : Int32) (2 : Int32) v14 v18 z_90 z_142 b143 b145 (0 : Int32) (0 : Int32) b151 b153 b153 b151) [])) _
        refine XS.aload X156.here hx rfl (hb hby at_284) rfl rfl ?_
        show Steps p.tables e below (T156.setTop (mkF m 286 (own_F16 i1 i2 i3 i4 i5 i6 v3 v7 (1 : Int32) (2 : Int32) v14 v18 z_90 z_142 b143 b145 (0 : Int32) (0 : Int32) b151 b153 b153 b151) [(.ref b151)])) _
        refine XS.aload X156.here hx rfl (hb hby at_286) rfl rfl ?_
        show Steps p.tables e below (T156.setTop (mkF m 288 (own_F16 i1 i2 i3 i4 i5 i6 v3 v7 (1 : Int32) (2 : Int32) v14 v18 z_90 z_142 b143 b145 (0 : Int32) (0 : Int32) b151 b153 b153 b151) [(.ref b151), (.ref b151)])) _
        refine st157.trans ?_
        show Steps p.tables e below (T157.setTop (mkF m 291 (own_F16 i1 i2 i3 i4 i5 i6 v3 v7 (1 : Int32) (2 : Int32) v14 v18 z_90 z_142 b143 b145 (0 : Int32) (0 : Int32) b151 b153 b153 b151) [(.int (own_e i1 i1 i3 i3 ([c1_90] : List Int32) ([c1_90] : List Int32)))])) _
        refine XS.ifNo X157.here hx rfl (hb hby at_291) rfl ((if0 _ _).trans (feq (own_rfl _ _ _ : ¬ ((own_e i1 i1 i3 i3 ([c1_90] : List Int32) ([c1_90] : List Int32)) = (0 : Int32)))).1) ?_
        show Steps p.tables e below (T157.setTop (mkF m 294 (own_F16 i1 i2 i3 i4 i5 i6 v3 v7 (1 : Int32) (2 : Int32) v14 v18 z_90 z_142 b143 b145 (0 : Int32) (0 : Int32) b151 b153 b153 b151) [])) _
        refine XS.aload X157.here hx rfl (hb hby at_294) rfl rfl ?_
        show Steps p.tables e below (T157.setTop (mkF m 296 (own_F16 i1 i2 i3 i4 i5 i6 v3 v7 (1 : Int32) (2 : Int32) v14 v18 z_90 z_142 b143 b145 (0 : Int32) (0 : Int32) b151 b153 b153 b151) [(.ref b151)])) _
        refine XS.aconstNull X157.here hx rfl (hb hby at_296) ?_
        show Steps p.tables e below (T157.setTop (mkF m 297 (own_F16 i1 i2 i3 i4 i5 i6 v3 v7 (1 : Int32) (2 : Int32) v14 v18 z_90 z_142 b143 b145 (0 : Int32) (0 : Int32) b151 b153 b153 b151) [.null, (.ref b151)])) _
        refine st158.trans ?_
        show Steps p.tables e below (T158.setTop (mkF m 300 (own_F16 i1 i2 i3 i4 i5 i6 v3 v7 (1 : Int32) (2 : Int32) v14 v18 z_90 z_142 b143 b145 (0 : Int32) (0 : Int32) b151 b153 b153 b151) [(.int (0 : Int32))])) _
        refine XS.ifNo X158.here hx rfl (hb hby at_300) rfl ((if0 _ _).trans (teq (rfl : (0 : Int32) = (0 : Int32))).2) ?_
        show Steps p.tables e below (T158.setTop (mkF m 303 (own_F16 i1 i2 i3 i4 i5 i6 v3 v7 (1 : Int32) (2 : Int32) v14 v18 z_90 z_142 b143 b145 (0 : Int32) (0 : Int32) b151 b153 b153 b151) [])) _
        refine XS.aload X158.here hx rfl (hb hby at_303) rfl rfl ?_
        show Steps p.tables e below (T158.setTop (mkF m 305 (own_F16 i1 i2 i3 i4 i5 i6 v3 v7 (1 : Int32) (2 : Int32) v14 v18 z_90 z_142 b143 b145 (0 : Int32) (0 : Int32) b151 b153 b153 b151) [(.ref b151)])) _
        refine XS.aload X158.here hx rfl (hb hby at_305) rfl rfl ?_
        show Steps p.tables e below (T158.setTop (mkF m 307 (own_F16 i1 i2 i3 i4 i5 i6 v3 v7 (1 : Int32) (2 : Int32) v14 v18 z_90 z_142 b143 b145 (0 : Int32) (0 : Int32) b151 b153 b153 b151) [(.ref b143), (.ref b151)])) _
        refine st159.trans ?_
        show Steps p.tables e below (T159.setTop (mkF m 310 (own_F16 i1 i2 i3 i4 i5 i6 v3 v7 (1 : Int32) (2 : Int32) v14 v18 z_90 z_142 b143 b145 (0 : Int32) (0 : Int32) b151 b153 b153 b151) [(.int (0 : Int32))])) _
        refine XS.ifNo X159.here hx rfl (hb hby at_310) rfl ((if0 _ _).trans (teq (rfl : (0 : Int32) = (0 : Int32))).2) ?_
        show Steps p.tables e below (T159.setTop (mkF m 313 (own_F16 i1 i2 i3 i4 i5 i6 v3 v7 (1 : Int32) (2 : Int32) v14 v18 z_90 z_142 b143 b145 (0 : Int32) (0 : Int32) b151 b153 b153 b151) [])) _
        refine XS.aload X159.here hx rfl (hb hby at_313) rfl rfl ?_
        show Steps p.tables e below (T159.setTop (mkF m 315 (own_F16 i1 i2 i3 i4 i5 i6 v3 v7 (1 : Int32) (2 : Int32) v14 v18 z_90 z_142 b143 b145 (0 : Int32) (0 : Int32) b151 b153 b153 b151) [(.ref b151)])) _
        refine XS.iloadN X159.here hx rfl (hb hby at_315) rfl ?_
        show Steps p.tables e below (T159.setTop (mkF m 316 (own_F16 i1 i2 i3 i4 i5 i6 v3 v7 (1 : Int32) (2 : Int32) v14 v18 z_90 z_142 b143 b145 (0 : Int32) (0 : Int32) b151 b153 b153 b151) [(.int i1), (.ref b151)])) _
        refine st160 _ ?_
        show Steps p.tables e below (T160.setTop (mkF m 319 (own_F16 i1 i2 i3 i4 i5 i6 v3 v7 (1 : Int32) (2 : Int32) v14 v18 z_90 z_142 b143 b145 (0 : Int32) (0 : Int32) b151 b153 b153 b151) [(.ref z_160), (.ref b151)])) _
        refine st161.trans ?_
        show Steps p.tables e below (T161.setTop (mkF m 322 (own_F16 i1 i2 i3 i4 i5 i6 v3 v7 (1 : Int32) (2 : Int32) v14 v18 z_90 z_142 b143 b145 (0 : Int32) (0 : Int32) b151 b153 b153 b151) [(.int (0 : Int32))])) _
        refine XS.ifNo X161.here hx rfl (hb hby at_322) rfl ((if0 _ _).trans (teq (rfl : (0 : Int32) = (0 : Int32))).2) ?_
        show Steps p.tables e below (T161.setTop (mkF m 325 (own_F16 i1 i2 i3 i4 i5 i6 v3 v7 (1 : Int32) (2 : Int32) v14 v18 z_90 z_142 b143 b145 (0 : Int32) (0 : Int32) b151 b153 b153 b151) [])) _
        refine XS.iconst X161.here hx rfl (hb hby at_325) ?_
        show Steps p.tables e below (T161.setTop (mkF m 326 (own_F16 i1 i2 i3 i4 i5 i6 v3 v7 (1 : Int32) (2 : Int32) v14 v18 z_90 z_142 b143 b145 (0 : Int32) (0 : Int32) b151 b153 b153 b151) [(.int (1 : Int32))])) _
        refine XS.goto X161.here hx rfl (pc0 := 326) (pc' := 330) rfl (hb hby at_326) (by decide) (by decide) ?_
        show Steps p.tables e below (T161.setTop (mkF m 330 (own_F16 i1 i2 i3 i4 i5 i6 v3 v7 (1 : Int32) (2 : Int32) v14 v18 z_90 z_142 b143 b145 (0 : Int32) (0 : Int32) b151 b153 b153 b151) [(.int (1 : Int32))])) _
        exact k
      obtain ⟨fs, hr, hrun, hended, hE⟩ := Stand.leaveW (s := s) (vm₁ := s.vm) X161 hS (by rw [eh161]; exact hk) (v := some (.int (1 : Int32))) (fun h => by rw [Bd.returns] at h; cases h)
      refine ⟨_, _, w162 _ ?_, hrun, hended, _, _, rfl, ?_, ?_, own_mono hE (by decide) (by decide)⟩
      · exact retN X161 hx (t := .boolean) Bd.returns (by simp) (hb hby at_330) hr
      · show Q0 Z i1 i2 i3 i4 i5 i6 cl_s_cacheI zc s_cacheI h0 n0 _ T161.heap _
        rw [eh161]
        exact ⟨rfl, N161⟩
      · rw [hh]; show CHr Z consts_1 s.vm h0 T161.vm T161.heap; rw [eh161]; exact C.trans (CHv.at X161 hZ hEL C.1)
  · rw [hk22] at w20
    obtain ⟨_, _, ⟨T163, L163, k163, n163⟩, -, X163, ⟨Lc163, hQ163, l163, y163, z163⟩, st163⟩ := Jvm.LawKit.callS X0 hx (y := (⟨"com/example/whirligig/whirligig/UnreadableEqualsPinLaw", "chars", "(III)[C"⟩ : MethodName)) hown (mvT hZ (hw _ (List.mem_of_getElem? (i := 0) rfl))) (mvT hZ (hw _ (List.mem_of_getElem? (i := 1) rfl))) (mvT hZ (hw _ (List.mem_of_getElem? (i := 2) rfl))) (mvT hZ (hw _ (List.mem_of_getElem? (i := 3) rfl))) (by decide) (backOf (W := 0) (rm1_2 l Z a0 hw [] i5 ((i5.toUInt32 >>> ((8 : Int32) &&& 31).toUInt32).toInt32) h0 n0 O ) hZ (hw _ (List.mem_of_getElem? (i := 3) rfl)) (hw _ (List.mem_of_getElem? (i := 2) rfl)) (by decide) (by decide)) (g := (mkF m 114 (own_F6 i1 i2 i3 i4 i5 i6 v3 v7 (2 : Int32) l2 v14 v18) [(.int ((i5.toUInt32 >>> ((8 : Int32) &&& 31).toUInt32).toInt32)), (.int i5), (.int (2 : Int32))])) rfl (by rw [hml]; rfl) (argsL := [(.int (2 : Int32)), (.int i5), (.int ((i5.toUInt32 >>> ((8 : Int32) &&& 31).toUInt32).toInt32))]) (rest := []) (lenOf pd__40III_41_91C rfl) rfl (by show 2 * 0 + _ ≤ _; exact Nat.le_of_eq rfl) (hb hby at_114) (fun _ _ => ⟨rfl, e0, (by decide : 0 + 1 ≤ _), (by decide : 0 + 2 ≤ _)⟩)
    dsimp only [Pt.U, Pt.locs, Pt.cells, Pt.slots] at X163 l163 y163 z163 st163 hQ163
    subst l163 y163 z163
    obtain ⟨z_163, kz_163, c1_163, d1_163, rfl, N163q, K163, V_z_c163, gz_163, gn_163, bc_163, bd_163⟩ := hQ163
    have N163 := Fr.app N0 N163q
    have R := CHr.keep K163 all0 C.1
    have C := C.trans R
    have hk := Nat.le_trans hk K163.1
    have g_z_163 := gn_163
    have O := O.keep K163 all0
    have w164 : ∀ t, Steps p.tables e below (T163.setTop (mkF m 119 (own_F7 i1 i2 i3 i4 i5 i6 v3 v7 (2 : Int32) l2 v14 v18 z_163) [])) t → Steps p.tables e below (s₁.setTop (entryFrame m #[(.int i1), (.int i2), (.int i3), (.int i4), (.int i5), (.int i6)] maxLocals)) t := fun t k => by
      refine w20 t ?_
      refine XS.iload X0.here hx rfl (hb hby at_105) rfl ?_
      show Steps p.tables e below (s₁.setTop (mkF m 107 (own_F6 i1 i2 i3 i4 i5 i6 v3 v7 (2 : Int32) l2 v14 v18) [(.int (2 : Int32))])) _
      refine XS.iload X0.here hx rfl (hb hby at_107) rfl ?_
      show Steps p.tables e below (s₁.setTop (mkF m 109 (own_F6 i1 i2 i3 i4 i5 i6 v3 v7 (2 : Int32) l2 v14 v18) [(.int i5), (.int (2 : Int32))])) _
      refine XS.iload X0.here hx rfl (hb hby at_109) rfl ?_
      show Steps p.tables e below (s₁.setTop (mkF m 111 (own_F6 i1 i2 i3 i4 i5 i6 v3 v7 (2 : Int32) l2 v14 v18) [(.int i5), (.int i5), (.int (2 : Int32))])) _
      refine XS.bipush X0.here hx rfl (hb hby at_111) ?_
      show Steps p.tables e below (s₁.setTop (mkF m 113 (own_F6 i1 i2 i3 i4 i5 i6 v3 v7 (2 : Int32) l2 v14 v18) [(.int (8 : Int32)), (.int i5), (.int i5), (.int (2 : Int32))])) _
      refine XS.iushr X0.here hx rfl (hb hby at_113) rfl ?_
      show Steps p.tables e below (s₁.setTop (mkF m 114 (own_F6 i1 i2 i3 i4 i5 i6 v3 v7 (2 : Int32) l2 v14 v18) [(.int ((i5.toUInt32 >>> ((8 : Int32) &&& 31).toUInt32).toInt32)), (.int i5), (.int (2 : Int32))])) _
      refine st163 _ ?_
      show Steps p.tables e below (T163.setTop (mkF m 117 (own_F6 i1 i2 i3 i4 i5 i6 v3 v7 (2 : Int32) l2 v14 v18) [(.ref z_163)])) _
      refine XS.astore X163.here hx rfl (hb hby at_117) rfl rfl (l' := (own_F7 i1 i2 i3 i4 i5 i6 v3 v7 (2 : Int32) l2 v14 v18 z_163)) rfl ?_
      show Steps p.tables e below (T163.setTop (mkF m 119 (own_F7 i1 i2 i3 i4 i5 i6 v3 v7 (2 : Int32) l2 v14 v18 z_163) [])) _
      exact k
    have mm165 : l2 = 0 ∨ l2 = 1 ∨ l2 = 2 := by rw [hl2]; split <;> first | exact own_m3 _ | exact mk8
    rcases mm165 with hk166 | hk166 | hk166
    · rw [hk166] at w164
      have lt167_z_163 := V_z_c163.lt
      obtain ⟨_, _, ⟨T167, L167, k167, n167⟩, -, X167, ⟨Lc167, hQ167, l167, y167, z167⟩, st167⟩ := Jvm.LawKit.callS X163 hx (y := (⟨"com/example/whirligig/whirligig/UnreadableEqualsPinLaw", "chars", "(III)[C"⟩ : MethodName)) hown (mvT hZ (hw _ (List.mem_of_getElem? (i := 0) rfl))) (mvT hZ (hw _ (List.mem_of_getElem? (i := 1) rfl))) (mvT hZ (hw _ (List.mem_of_getElem? (i := 2) rfl))) (mvT hZ (hw _ (List.mem_of_getElem? (i := 3) rfl))) (by decide) (backOf (W := 0) (rm1_0 l Z a0 hw [] v14 v18 T163.heap n0 O ) hZ (hw _ (List.mem_of_getElem? (i := 3) rfl)) (hw _ (List.mem_of_getElem? (i := 2) rfl)) (by decide) (by decide)) (g := (mkF m 125 (own_F7 i1 i2 i3 i4 i5 i6 v3 v7 (2 : Int32) (0 : Int32) v14 v18 z_163) [(.int v18), (.int v14), (.int (0 : Int32))])) rfl (by rw [hml]; rfl) (argsL := [(.int (0 : Int32)), (.int v14), (.int v18)]) (rest := []) (lenOf pd__40III_41_91C rfl) rfl (by show 2 * 0 + _ ≤ _; exact Nat.le_of_eq rfl) (hb hby at_125) (fun _ _ => ⟨rfl, rfl, (by decide : 1 + 1 ≤ _), (by decide : 2 + 0 ≤ _)⟩)
      dsimp only [Pt.U, Pt.locs, Pt.cells, Pt.slots] at X167 l167 y167 z167 st167 hQ167
      subst l167 y167 z167
      obtain ⟨z_167, kz_167, rfl, N167q, K167, V_z_c167, gz_167, gn_167⟩ := hQ167
      have N167 := Fr.app N163 N167q
      have R := CHr.keep K167 all0 C.1
      have C := C.trans R
      have hk := Nat.le_trans hk K167.1
      have V_z_c163 := V_z_c163.keep K167 nin0
      have ne_z_163_z_167 : z_163 ≠ z_167 := Nat.ne_of_lt (Nat.lt_of_lt_of_le lt167_z_163 gz_167)
      have g_z_167 := gn_167
      have O := O.keep K167 all0
      obtain ⟨T168, h168, X168, e168, E168, A168, D168, -, st168⟩ := newO X167 hx hZ hown (hw _ (List.mem_of_getElem? (i := 5) rfl)) (hw _ (List.mem_of_getElem? (i := 6) rfl)) (hw _ (List.mem_of_getElem? (i := 7) rfl)) rfl (g := (mkF m 130 (own_F8 i1 i2 i3 i4 i5 i6 v3 v7 (2 : Int32) (0 : Int32) v14 v18 z_163 z_167) [])) rfl (hb hby at_130) (by decide) (by decide)
      obtain ⟨b168, gq168⟩ : ∃ z, z = Array.size T167.heap := ⟨_, rfl⟩
      rw [← gq168] at A168 D168 st168
      have ne_z_163_b168 : z_163 ≠ b168 := Nat.ne_of_lt (Nat.lt_of_lt_of_le V_z_c163.lt (Nat.le_of_eq gq168.symm))
      have ne_z_167_b168 : z_167 ≠ b168 := Nat.ne_of_lt (Nat.lt_of_lt_of_le V_z_c167.lt (Nat.le_of_eq gq168.symm))
      have g_b168 : n0 ≤ b168 := Nat.le_trans (O.1 ▸ O.2.1) (Nat.le_of_eq gq168.symm)
      have sf_b168 := own_safeN C.1 E168 (Nat.le_of_eq gq168.symm)
      have R := CHr.ext E168 C.1
      have C := C.trans R
      have hk := Nat.le_trans hk E168.1
      have V_z_c163 := V_z_c163.ext E168
      have V_z_c167 := V_z_c167.ext E168
      have O := O.ext E168
      have F_value_b168 : Fld Z h168 b168 "java/lang/String" "value" "[B" .null := D168 (Or.inr (hw _ (List.mem_of_getElem? (i := 20) rfl))) (ty := (.array .byte)) (by decide)
      have F_coder_b168 : Fld Z h168 b168 "java/lang/String" "coder" "B" (.int (0 : Int32)) := D168 (Or.inr (hw _ (List.mem_of_getElem? (i := 21) rfl))) (ty := .byte) (by decide)
      have hp_b168 := own_hp2 bc_163 bd_163
      have h9_b168 : 0 < ([c1_163, d1_163] : List Int32).length ∧ ([c1_163, d1_163] : List Int32).length ≤ 2 := ⟨Nat.le_of_ble_eq_true rfl, Nat.le_of_ble_eq_true rfl⟩
      obtain ⟨_, _, ⟨T169, L169, k169, n169⟩, -, X169, ⟨Lc169, hQ169, l169, y169, z169⟩, st169⟩ := X168.specialBack hx (y := (⟨"java/lang/String", "<init>", "([C)V"⟩ : MethodName)) rfl hown (mvT hZ (hw _ (List.mem_of_getElem? (i := 8) rfl))) (mvT hZ (hw _ (List.mem_of_getElem? (i := 9) rfl))) (mvT hZ (hw _ (List.mem_of_getElem? (i := 10) rfl))) (by decide) (StrChars.Road.backV (W := 1) hZ (own_wNew hw) (kI := 4) (hw _ (List.mem_of_getElem? (i := 6) rfl)) (cs := ([c1_163, d1_163] : List Int32)) (bs := (([c1_163, d1_163] : List Int32).map (fun c => c.toInt8.toInt32))) (n := ([c1_163, d1_163] : List Int32).length) g_b168 (O.1 ▸ O.2.1) A168 F_value_b168 F_coder_b168 V_z_c163 (SC.ext O.2) hzc rfl rfl h9_b168.1 (Nat.le_trans h9_b168.2 (by decide)) hp_b168 rfl (by decide) (by decide)) (g := (mkF m 136 (own_F8 i1 i2 i3 i4 i5 i6 v3 v7 (2 : Int32) (0 : Int32) v14 v18 z_163 z_167) [(.ref z_163), (.ref b168), (.ref b168)])) rfl (by rw [hml]; rfl) (Steps.refl _) (a := b168) (argsL := [(.ref z_163)]) (rest := [(.ref b168)]) (lenOf pd__40_91C_41V rfl) rfl (by show 2 * 0 + _ ≤ _; exact Nat.le_of_eq rfl) (hb hby at_136) (fun _ _ => ⟨rfl, e168, (by decide : 3 + 1 ≤ _), Nat.le_trans (Nat.add_le_add_left h9_b168.2 6) (by decide)⟩)
      dsimp only [Pt.U, Pt.locs, Pt.cells, Pt.slots] at X169 l169 y169 z169 st169 hQ169
      subst l169 y169 z169
      have X169 := X169.more (Nat.le_refl _) (Nat.add_le_add_left h9_b168.2 6)
      obtain ⟨rfl, N169q, K169, Ex169, Fc169, t169, kb169, gn169, gz169, nx169, Fv169, Av169⟩ := hQ169
      have N169 := Fr.app N167 N169q
      have ne_z_163_t169 : z_163 ≠ t169 := Nat.ne_of_lt (Nat.lt_of_lt_of_le V_z_c163.lt gz169)
      have ne_z_167_t169 : z_167 ≠ t169 := Nat.ne_of_lt (Nat.lt_of_lt_of_le V_z_c167.lt gz169)
      have ne_b168_t169 : b168 ≠ t169 := Nat.ne_of_lt (Nat.lt_of_lt_of_le A168.lt gz169)
      have R := CHr.keep K169 (allS sf_b168 all0) C.1
      have sf_b168 := R.safe A168.lt sf_b168
      have C := C.trans R
      have hk := Nat.le_trans hk K169.1
      have V_z_c163 := V_z_c163.keep K169 (ninS ne_z_163_b168 nin0)
      have V_z_c167 := V_z_c167.keep K169 (ninS ne_z_167_b168 nin0)
      have A168 := A168.keep K169
      have g_t169 := gn169
      have O := O.keep K169 (allS g_b168 all0)
      obtain ⟨T170, h170, X170, e170, E170, A170, D170, -, st170⟩ := newO X169 hx hZ hown (hw _ (List.mem_of_getElem? (i := 5) rfl)) (hw _ (List.mem_of_getElem? (i := 6) rfl)) (hw _ (List.mem_of_getElem? (i := 7) rfl)) rfl (g := (mkF m 141 (own_F9 i1 i2 i3 i4 i5 i6 v3 v7 (2 : Int32) (0 : Int32) v14 v18 z_163 z_167 b168) [])) rfl (hb hby at_141) (by decide) (by decide)
      obtain ⟨b170, gq170⟩ : ∃ z, z = Array.size T169.heap := ⟨_, rfl⟩
      rw [← gq170] at A170 D170 st170
      have ne_z_163_b170 : z_163 ≠ b170 := Nat.ne_of_lt (Nat.lt_of_lt_of_le V_z_c163.lt (Nat.le_of_eq gq170.symm))
      have ne_z_167_b170 : z_167 ≠ b170 := Nat.ne_of_lt (Nat.lt_of_lt_of_le V_z_c167.lt (Nat.le_of_eq gq170.symm))
      have ne_b168_b170 : b168 ≠ b170 := Nat.ne_of_lt (Nat.lt_of_lt_of_le Ex169.lt (Nat.le_of_eq gq170.symm))
      have ne_t169_b170 : t169 ≠ b170 := Nat.ne_of_lt (Nat.lt_of_lt_of_le Av169.lt (Nat.le_of_eq gq170.symm))
      have g_b170 : n0 ≤ b170 := Nat.le_trans (O.1 ▸ O.2.1) (Nat.le_of_eq gq170.symm)
      have sf_b170 := own_safeN C.1 E170 (Nat.le_of_eq gq170.symm)
      have R := CHr.ext E170 C.1
      have sf_b168 := R.safe Ex169.lt sf_b168
      have C := C.trans R
      have hk := Nat.le_trans hk E170.1
      have V_z_c163 := V_z_c163.ext E170
      have V_z_c167 := V_z_c167.ext E170
      have Ex169 := Ex169.ext E170
      have Fc169 := Fc169.ext E170
      have Fv169 := Fv169.ext E170
      have Av169 := Av169.ext E170
      have O := O.ext E170
      have F_value_b170 : Fld Z h170 b170 "java/lang/String" "value" "[B" .null := D170 (Or.inr (hw _ (List.mem_of_getElem? (i := 20) rfl))) (ty := (.array .byte)) (by decide)
      have F_coder_b170 : Fld Z h170 b170 "java/lang/String" "coder" "B" (.int (0 : Int32)) := D170 (Or.inr (hw _ (List.mem_of_getElem? (i := 21) rfl))) (ty := .byte) (by decide)
      obtain ⟨_, _, ⟨T171, L171, k171, n171⟩, -, X171, sn171, gr171, ⟨Lc171, hQ171, l171, y171, z171, R171⟩, st171⟩ := X170.specialBackS hx (y := (⟨"java/lang/String", "<init>", "([C)V"⟩ : MethodName)) rfl hown (mvT hZ (hw _ (List.mem_of_getElem? (i := 8) rfl))) (mvT hZ (hw _ (List.mem_of_getElem? (i := 9) rfl))) (mvT hZ (hw _ (List.mem_of_getElem? (i := 10) rfl))) (by decide) (backOfSH (W := 1) (rm2_e l Z a0 hw [] b170 z_167 kz_167 h170 n0 O A170 F_value_b170 F_coder_b170 V_z_c167 g_b170) hZ (hw _ (List.mem_of_getElem? (i := 10) rfl)) (hw _ (List.mem_of_getElem? (i := 7) rfl)) (by decide) (by decide) hEL C.1) (g := (mkF m 147 (own_F9 i1 i2 i3 i4 i5 i6 v3 v7 (2 : Int32) (0 : Int32) v14 v18 z_163 z_167 b168) [(.ref z_167), (.ref b170), (.ref b170)])) rfl (by rw [hml]; rfl) (Steps.refl _) (a := b170) (argsL := [(.ref z_167)]) (rest := [(.ref b170)]) (lenOf pd__40_91C_41V rfl) rfl (by show 2 * 0 + _ ≤ _; exact Nat.le_of_eq rfl) (hb hby at_147) (fun _ _ => ⟨rfl, e170, (by decide : 5 + 4 ≤ _), (by decide : 12 + 8 ≤ _)⟩)
      dsimp only [Pt.U, Pt.locs, Pt.cells, Pt.slots] at X171 l171 y171 z171 st171 hQ171 sn171 gr171 R171
      subst l171 y171 z171
      obtain ⟨X171, hS, hZ, hown⟩ := rebS hS (by rw [e170]; exact hk) X171 sn171 gr171 hZ hown
      obtain ⟨t1_171, kb_171, rfl, N171q, K171, F_v_a_c171, F_c_a_c171, V_t_c171⟩ := hQ171
      have N171 := Fr.app N169 N171q
      have R := R171
      have sf_b168 := R.safe Ex169.lt sf_b168
      have sf_b170 := R.safe A170.lt sf_b170
      have C := C.trans R
      have hk : T171.heap.size ≤ T171.heap.size := Nat.le_refl _
      have V_z_c163 := V_z_c163.keep K171 (ninS ne_z_163_b170 nin0)
      have V_z_c167 := V_z_c167.keep K171 (ninS ne_z_167_b170 nin0)
      have Ex169 := Ex169.keep K171
      have Fc169 := Fc169.keep K171 (ninS ne_b168_b170 nin0)
      have Fv169 := Fv169.keep K171 (ninS ne_b168_b170 nin0)
      have Av169 := Av169.keep K171 (ninS ne_t169_b170 nin0)
      have A170 := A170.keep K171
      have O := O.keep K171 (allS g_b170 all0)
      have w172 : ∀ t, Steps p.tables e below (T171.setTop (mkF m 203 (own_F11 i1 i2 i3 i4 i5 i6 v3 v7 (2 : Int32) (0 : Int32) v14 v18 z_163 z_167 b168 b170 (0 : Int32)) [(.int v3), (.int i1)])) t → Steps p.tables e below (s₁.setTop (entryFrame m #[(.int i1), (.int i2), (.int i3), (.int i4), (.int i5), (.int i6)] maxLocals)) t := fun t k => by
        refine w164 t ?_
        refine XS.iload X163.here hx rfl (hb hby at_119) rfl ?_
        show Steps p.tables e below (T163.setTop (mkF m 121 (own_F7 i1 i2 i3 i4 i5 i6 v3 v7 (2 : Int32) (0 : Int32) v14 v18 z_163) [(.int (0 : Int32))])) _
        refine XS.iload X163.here hx rfl (hb hby at_121) rfl ?_
        show Steps p.tables e below (T163.setTop (mkF m 123 (own_F7 i1 i2 i3 i4 i5 i6 v3 v7 (2 : Int32) (0 : Int32) v14 v18 z_163) [(.int v14), (.int (0 : Int32))])) _
        refine XS.iload X163.here hx rfl (hb hby at_123) rfl ?_
        show Steps p.tables e below (T163.setTop (mkF m 125 (own_F7 i1 i2 i3 i4 i5 i6 v3 v7 (2 : Int32) (0 : Int32) v14 v18 z_163) [(.int v18), (.int v14), (.int (0 : Int32))])) _
        refine st167 _ ?_
        show Steps p.tables e below (T167.setTop (mkF m 128 (own_F7 i1 i2 i3 i4 i5 i6 v3 v7 (2 : Int32) (0 : Int32) v14 v18 z_163) [(.ref z_167)])) _
        refine XS.astore X167.here hx rfl (hb hby at_128) rfl rfl (l' := (own_F8 i1 i2 i3 i4 i5 i6 v3 v7 (2 : Int32) (0 : Int32) v14 v18 z_163 z_167)) rfl ?_
        show Steps p.tables e below (T167.setTop (mkF m 130 (own_F8 i1 i2 i3 i4 i5 i6 v3 v7 (2 : Int32) (0 : Int32) v14 v18 z_163 z_167) [])) _
        refine st168 _ ?_
        show Steps p.tables e below (T168.setTop (mkF m 133 (own_F8 i1 i2 i3 i4 i5 i6 v3 v7 (2 : Int32) (0 : Int32) v14 v18 z_163 z_167) [(.ref b168)])) _
        refine XS.dup X168.here hx rfl (hb hby at_133) rfl rfl ?_
        show Steps p.tables e below (T168.setTop (mkF m 134 (own_F8 i1 i2 i3 i4 i5 i6 v3 v7 (2 : Int32) (0 : Int32) v14 v18 z_163 z_167) [(.ref b168), (.ref b168)])) _
        refine XS.aload X168.here hx rfl (hb hby at_134) rfl rfl ?_
        show Steps p.tables e below (T168.setTop (mkF m 136 (own_F8 i1 i2 i3 i4 i5 i6 v3 v7 (2 : Int32) (0 : Int32) v14 v18 z_163 z_167) [(.ref z_163), (.ref b168), (.ref b168)])) _
        refine st169.trans ?_
        show Steps p.tables e below (T169.setTop (mkF m 139 (own_F8 i1 i2 i3 i4 i5 i6 v3 v7 (2 : Int32) (0 : Int32) v14 v18 z_163 z_167) [(.ref b168)])) _
        refine XS.astore X169.here hx rfl (hb hby at_139) rfl rfl (l' := (own_F9 i1 i2 i3 i4 i5 i6 v3 v7 (2 : Int32) (0 : Int32) v14 v18 z_163 z_167 b168)) rfl ?_
        show Steps p.tables e below (T169.setTop (mkF m 141 (own_F9 i1 i2 i3 i4 i5 i6 v3 v7 (2 : Int32) (0 : Int32) v14 v18 z_163 z_167 b168) [])) _
        refine st170 _ ?_
        show Steps p.tables e below (T170.setTop (mkF m 144 (own_F9 i1 i2 i3 i4 i5 i6 v3 v7 (2 : Int32) (0 : Int32) v14 v18 z_163 z_167 b168) [(.ref b170)])) _
        refine XS.dup X170.here hx rfl (hb hby at_144) rfl rfl ?_
        show Steps p.tables e below (T170.setTop (mkF m 145 (own_F9 i1 i2 i3 i4 i5 i6 v3 v7 (2 : Int32) (0 : Int32) v14 v18 z_163 z_167 b168) [(.ref b170), (.ref b170)])) _
        refine XS.aload X170.here hx rfl (hb hby at_145) rfl rfl ?_
        show Steps p.tables e below (T170.setTop (mkF m 147 (own_F9 i1 i2 i3 i4 i5 i6 v3 v7 (2 : Int32) (0 : Int32) v14 v18 z_163 z_167 b168) [(.ref z_167), (.ref b170), (.ref b170)])) _
        refine st171.trans ?_
        show Steps p.tables e below (T171.setTop (mkF m 150 (own_F9 i1 i2 i3 i4 i5 i6 v3 v7 (2 : Int32) (0 : Int32) v14 v18 z_163 z_167 b168) [(.ref b170)])) _
        refine XS.astore X171.here hx rfl (hb hby at_150) rfl rfl (l' := (own_F10 i1 i2 i3 i4 i5 i6 v3 v7 (2 : Int32) (0 : Int32) v14 v18 z_163 z_167 b168 b170)) rfl ?_
        show Steps p.tables e below (T171.setTop (mkF m 152 (own_F10 i1 i2 i3 i4 i5 i6 v3 v7 (2 : Int32) (0 : Int32) v14 v18 z_163 z_167 b168 b170) [])) _
        refine XS.iload X171.here hx rfl (hb hby at_152) rfl ?_
        show Steps p.tables e below (T171.setTop (mkF m 154 (own_F10 i1 i2 i3 i4 i5 i6 v3 v7 (2 : Int32) (0 : Int32) v14 v18 z_163 z_167 b168 b170) [(.int (2 : Int32))])) _
        refine XS.iload X171.here hx rfl (hb hby at_154) rfl ?_
        show Steps p.tables e below (T171.setTop (mkF m 156 (own_F10 i1 i2 i3 i4 i5 i6 v3 v7 (2 : Int32) (0 : Int32) v14 v18 z_163 z_167 b168 b170) [(.int (0 : Int32)), (.int (2 : Int32))])) _
        refine XS.icmpYes X171.here hx rfl (pc0 := 156) (pc' := 197) rfl (hb hby at_156) rfl (feq ((by decide) : ¬ ((2 : Int32) = (0 : Int32)))).2 (by decide) (by decide) ?_
        show Steps p.tables e below (T171.setTop (mkF m 197 (own_F10 i1 i2 i3 i4 i5 i6 v3 v7 (2 : Int32) (0 : Int32) v14 v18 z_163 z_167 b168 b170) [])) _
        refine XS.iconst X171.here hx rfl (hb hby at_197) ?_
        show Steps p.tables e below (T171.setTop (mkF m 198 (own_F10 i1 i2 i3 i4 i5 i6 v3 v7 (2 : Int32) (0 : Int32) v14 v18 z_163 z_167 b168 b170) [(.int (0 : Int32))])) _
        refine XS.istore X171.here hx rfl (hb hby at_198) rfl (l' := (own_F11 i1 i2 i3 i4 i5 i6 v3 v7 (2 : Int32) (0 : Int32) v14 v18 z_163 z_167 b168 b170 (0 : Int32))) rfl ?_
        show Steps p.tables e below (T171.setTop (mkF m 200 (own_F11 i1 i2 i3 i4 i5 i6 v3 v7 (2 : Int32) (0 : Int32) v14 v18 z_163 z_167 b168 b170 (0 : Int32)) [])) _
        refine XS.iloadN X171.here hx rfl (hb hby at_200) rfl ?_
        show Steps p.tables e below (T171.setTop (mkF m 201 (own_F11 i1 i2 i3 i4 i5 i6 v3 v7 (2 : Int32) (0 : Int32) v14 v18 z_163 z_167 b168 b170 (0 : Int32)) [(.int i1)])) _
        refine XS.iload X171.here hx rfl (hb hby at_201) rfl ?_
        show Steps p.tables e below (T171.setTop (mkF m 203 (own_F11 i1 i2 i3 i4 i5 i6 v3 v7 (2 : Int32) (0 : Int32) v14 v18 z_163 z_167 b168 b170 (0 : Int32)) [(.int v3), (.int i1)])) _
        exact k
      have w175 : ∀ t, Steps p.tables e below (T171.setTop (mkF m 222 (own_F11 i1 i2 i3 i4 i5 i6 v3 v7 (2 : Int32) (0 : Int32) v14 v18 z_163 z_167 b168 b170 (0 : Int32)) [(.int (0 : Int32))])) t → Steps p.tables e below (s₁.setTop (entryFrame m #[(.int i1), (.int i2), (.int i3), (.int i4), (.int i5), (.int i6)] maxLocals)) t := fun t k => by
        refine w172 t ?_
        show Steps p.tables e below (T171.setTop (mkF m 203 (own_F11 i1 i2 i3 i4 i5 i6 v3 v7 (2 : Int32) (0 : Int32) v14 v18 z_163 z_167 b168 b170 (0 : Int32)) [(.int v3), (.int i1)])) _
        by_cases hm173 : i1 = v3
        · refine XS.icmpNo X171.here hx rfl (hb hby at_203) rfl (teq hm173).2 ?_
          show Steps p.tables e below (T171.setTop (mkF m 206 (own_F11 i1 i2 i3 i4 i5 i6 v3 v7 (2 : Int32) (0 : Int32) v14 v18 z_163 z_167 b168 b170 (0 : Int32)) [])) _
          refine XS.iloadN X171.here hx rfl (hb hby at_206) rfl ?_
          show Steps p.tables e below (T171.setTop (mkF m 207 (own_F11 i1 i2 i3 i4 i5 i6 v3 v7 (2 : Int32) (0 : Int32) v14 v18 z_163 z_167 b168 b170 (0 : Int32)) [(.int i3)])) _
          refine XS.iload X171.here hx rfl (hb hby at_207) rfl ?_
          show Steps p.tables e below (T171.setTop (mkF m 209 (own_F11 i1 i2 i3 i4 i5 i6 v3 v7 (2 : Int32) (0 : Int32) v14 v18 z_163 z_167 b168 b170 (0 : Int32)) [(.int v7), (.int i3)])) _
          by_cases hm174 : i3 = v7
          · refine XS.icmpNo X171.here hx rfl (hb hby at_209) rfl (teq hm174).2 ?_
            show Steps p.tables e below (T171.setTop (mkF m 212 (own_F11 i1 i2 i3 i4 i5 i6 v3 v7 (2 : Int32) (0 : Int32) v14 v18 z_163 z_167 b168 b170 (0 : Int32)) [])) _
            refine XS.iload X171.here hx rfl (hb hby at_212) rfl ?_
            show Steps p.tables e below (T171.setTop (mkF m 214 (own_F11 i1 i2 i3 i4 i5 i6 v3 v7 (2 : Int32) (0 : Int32) v14 v18 z_163 z_167 b168 b170 (0 : Int32)) [(.int (0 : Int32))])) _
            refine XS.ifYes X171.here hx rfl (pc0 := 214) (pc' := 221) rfl (hb hby at_214) rfl ((if0 _ _).trans (teq ((by decide) : (0 : Int32) = (0 : Int32))).1) (by decide) (by decide) ?_
            show Steps p.tables e below (T171.setTop (mkF m 221 (own_F11 i1 i2 i3 i4 i5 i6 v3 v7 (2 : Int32) (0 : Int32) v14 v18 z_163 z_167 b168 b170 (0 : Int32)) [])) _
            refine XS.iconst X171.here hx rfl (hb hby at_221) ?_
            show Steps p.tables e below (T171.setTop (mkF m 222 (own_F11 i1 i2 i3 i4 i5 i6 v3 v7 (2 : Int32) (0 : Int32) v14 v18 z_163 z_167 b168 b170 (0 : Int32)) [(.int (0 : Int32))])) _
            exact k
          · refine XS.icmpYes X171.here hx rfl (pc0 := 209) (pc' := 221) rfl (hb hby at_209) rfl (feq hm174).2 (by decide) (by decide) ?_
            show Steps p.tables e below (T171.setTop (mkF m 221 (own_F11 i1 i2 i3 i4 i5 i6 v3 v7 (2 : Int32) (0 : Int32) v14 v18 z_163 z_167 b168 b170 (0 : Int32)) [])) _
            refine XS.iconst X171.here hx rfl (hb hby at_221) ?_
            show Steps p.tables e below (T171.setTop (mkF m 222 (own_F11 i1 i2 i3 i4 i5 i6 v3 v7 (2 : Int32) (0 : Int32) v14 v18 z_163 z_167 b168 b170 (0 : Int32)) [(.int (0 : Int32))])) _
            exact k
        · refine XS.icmpYes X171.here hx rfl (pc0 := 203) (pc' := 221) rfl (hb hby at_203) rfl (feq hm173).2 (by decide) (by decide) ?_
          show Steps p.tables e below (T171.setTop (mkF m 221 (own_F11 i1 i2 i3 i4 i5 i6 v3 v7 (2 : Int32) (0 : Int32) v14 v18 z_163 z_167 b168 b170 (0 : Int32)) [])) _
          refine XS.iconst X171.here hx rfl (hb hby at_221) ?_
          show Steps p.tables e below (T171.setTop (mkF m 222 (own_F11 i1 i2 i3 i4 i5 i6 v3 v7 (2 : Int32) (0 : Int32) v14 v18 z_163 z_167 b168 b170 (0 : Int32)) [(.int (0 : Int32))])) _
          exact k
      obtain ⟨T176, h176, X176, e176, E176, A176, D176, -, st176⟩ := newO X171 hx hZ hown (hw _ (List.mem_of_getElem? (i := 26) rfl)) (hw _ (List.mem_of_getElem? (i := 27) rfl)) (hw _ (List.mem_of_getElem? (i := 28) rfl)) rfl (g := (mkF m 224 (own_F12 i1 i2 i3 i4 i5 i6 v3 v7 (2 : Int32) (0 : Int32) v14 v18 z_163 z_167 b168 b170 (0 : Int32) (0 : Int32)) [])) rfl (hb hby at_224) (by decide) (by decide)
      obtain ⟨b176, gq176⟩ : ∃ z, z = Array.size T171.heap := ⟨_, rfl⟩
      rw [← gq176] at A176 D176 st176
      have ne_z_163_b176 : z_163 ≠ b176 := Nat.ne_of_lt (Nat.lt_of_lt_of_le V_z_c163.lt (Nat.le_of_eq gq176.symm))
      have ne_z_167_b176 : z_167 ≠ b176 := Nat.ne_of_lt (Nat.lt_of_lt_of_le V_z_c167.lt (Nat.le_of_eq gq176.symm))
      have ne_b168_b176 : b168 ≠ b176 := Nat.ne_of_lt (Nat.lt_of_lt_of_le Ex169.lt (Nat.le_of_eq gq176.symm))
      have ne_t169_b176 : t169 ≠ b176 := Nat.ne_of_lt (Nat.lt_of_lt_of_le Av169.lt (Nat.le_of_eq gq176.symm))
      have ne_b170_b176 : b170 ≠ b176 := Nat.ne_of_lt (Nat.lt_of_lt_of_le A170.lt (Nat.le_of_eq gq176.symm))
      have ne_t1_171_b176 : t1_171 ≠ b176 := Nat.ne_of_lt (Nat.lt_of_lt_of_le V_t_c171.lt (Nat.le_of_eq gq176.symm))
      have g_b176 : n0 ≤ b176 := Nat.le_trans (O.1 ▸ O.2.1) (Nat.le_of_eq gq176.symm)
      have sf_b176 := own_safeN C.1 E176 (Nat.le_of_eq gq176.symm)
      have R := CHr.ext E176 C.1
      have sf_b168 := R.safe Ex169.lt sf_b168
      have sf_b170 := R.safe A170.lt sf_b170
      have C := C.trans R
      have hk := Nat.le_trans hk E176.1
      have V_z_c163 := V_z_c163.ext E176
      have V_z_c167 := V_z_c167.ext E176
      have Ex169 := Ex169.ext E176
      have Fc169 := Fc169.ext E176
      have Fv169 := Fv169.ext E176
      have Av169 := Av169.ext E176
      have A170 := A170.ext E176
      have F_v_a_c171 := F_v_a_c171.ext E176
      have F_c_a_c171 := F_c_a_c171.ext E176
      have V_t_c171 := V_t_c171.ext E176
      have O := O.ext E176
      have F_id_b176 : Fld Z h176 b176 "com/example/whirligig/whirligig/DownloadInfoIndication$Unreadable" "id" "I" (.int (0 : Int32)) := D176 (Or.inr (hw _ (List.mem_of_getElem? (i := 39) rfl))) (ty := .int) (by decide)
      have F_version_b176 : Fld Z h176 b176 "com/example/whirligig/whirligig/DownloadInfoIndication$Unreadable" "version" "I" (.int (0 : Int32)) := D176 (Or.inr (hw _ (List.mem_of_getElem? (i := 41) rfl))) (ty := .int) (by decide)
      have F_reason_b176 : Fld Z h176 b176 "com/example/whirligig/whirligig/DownloadInfoIndication$Unreadable" "reason" "Ljava/lang/String;" .null := D176 (Or.inr (hw _ (List.mem_of_getElem? (i := 43) rfl))) (ty := (.object "java/lang/String")) (by decide)
      obtain ⟨_, _, ⟨T177, L177, k177, n177⟩, -, X177, ⟨Lc177, hQ177, l177, y177, z177⟩, st177⟩ := X176.specialBack hx (y := (⟨"com/example/whirligig/whirligig/DownloadInfoIndication$Unreadable", "<init>", "(IILjava/lang/String;)V"⟩ : MethodName)) rfl hown (mvT hZ (hw _ (List.mem_of_getElem? (i := 29) rfl))) (mvT hZ (hw _ (List.mem_of_getElem? (i := 30) rfl))) (mvT hZ (hw _ (List.mem_of_getElem? (i := 31) rfl))) (by decide) (backOf (W := 1) (rm5 l Z a0 hw [] b176 i1 i3 b168 h176 n0 O A176 F_id_b176 F_version_b176 F_reason_b176 g_b176) hZ (hw _ (List.mem_of_getElem? (i := 31) rfl)) (hw _ (List.mem_of_getElem? (i := 28) rfl)) (by decide) (by decide)) (g := (mkF m 232 (own_F12 i1 i2 i3 i4 i5 i6 v3 v7 (2 : Int32) (0 : Int32) v14 v18 z_163 z_167 b168 b170 (0 : Int32) (0 : Int32)) [(.ref b168), (.int i3), (.int i1), (.ref b176), (.ref b176)])) rfl (by rw [hml]; rfl) (Steps.refl _) (a := b176) (argsL := [(.int i1), (.int i3), (.ref b168)]) (rest := [(.ref b176)]) (lenOf pd__40IILjava_47lang_47String_59_41V rfl) rfl (by show 2 * 0 + _ ≤ _; exact Nat.le_of_eq rfl) (hb hby at_232) (fun _ _ => ⟨rfl, e176, (by decide : 10 + 0 ≤ _), (by decide : 23 + 0 ≤ _)⟩)
      dsimp only [Pt.U, Pt.locs, Pt.cells, Pt.slots] at X177 l177 y177 z177 st177 hQ177
      subst l177 y177 z177
      obtain ⟨rfl, N177q, K177, F_i_a_c177, F_w_a_c177, F_r_a_c177⟩ := hQ177
      have N177 := Fr.app N171 N177q
      have R := CHr.keep K177 (allS sf_b176 all0) C.1
      have sf_b168 := R.safe Ex169.lt sf_b168
      have sf_b170 := R.safe A170.lt sf_b170
      have sf_b176 := R.safe A176.lt sf_b176
      have C := C.trans R
      have hk := Nat.le_trans hk K177.1
      have V_z_c163 := V_z_c163.keep K177 (ninS ne_z_163_b176 nin0)
      have V_z_c167 := V_z_c167.keep K177 (ninS ne_z_167_b176 nin0)
      have Ex169 := Ex169.keep K177
      have Fc169 := Fc169.keep K177 (ninS ne_b168_b176 nin0)
      have Fv169 := Fv169.keep K177 (ninS ne_b168_b176 nin0)
      have Av169 := Av169.keep K177 (ninS ne_t169_b176 nin0)
      have A170 := A170.keep K177
      have F_v_a_c171 := F_v_a_c171.keep K177 (ninS ne_b170_b176 nin0)
      have F_c_a_c171 := F_c_a_c171.keep K177 (ninS ne_b170_b176 nin0)
      have V_t_c171 := V_t_c171.keep K177 (ninS ne_t1_171_b176 nin0)
      have A176 := A176.keep K177
      have O := O.keep K177 (allS g_b176 all0)
      obtain ⟨T178, h178, X178, e178, E178, A178, D178, -, st178⟩ := newO X177 hx hZ hown (hw _ (List.mem_of_getElem? (i := 26) rfl)) (hw _ (List.mem_of_getElem? (i := 27) rfl)) (hw _ (List.mem_of_getElem? (i := 28) rfl)) rfl (g := (mkF m 237 (own_F13 i1 i2 i3 i4 i5 i6 v3 v7 (2 : Int32) (0 : Int32) v14 v18 z_163 z_167 b168 b170 (0 : Int32) (0 : Int32) b176) [])) rfl (hb hby at_237) (by decide) (by decide)
      obtain ⟨b178, gq178⟩ : ∃ z, z = Array.size T177.heap := ⟨_, rfl⟩
      rw [← gq178] at A178 D178 st178
      have ne_z_163_b178 : z_163 ≠ b178 := Nat.ne_of_lt (Nat.lt_of_lt_of_le V_z_c163.lt (Nat.le_of_eq gq178.symm))
      have ne_z_167_b178 : z_167 ≠ b178 := Nat.ne_of_lt (Nat.lt_of_lt_of_le V_z_c167.lt (Nat.le_of_eq gq178.symm))
      have ne_b168_b178 : b168 ≠ b178 := Nat.ne_of_lt (Nat.lt_of_lt_of_le Ex169.lt (Nat.le_of_eq gq178.symm))
      have ne_t169_b178 : t169 ≠ b178 := Nat.ne_of_lt (Nat.lt_of_lt_of_le Av169.lt (Nat.le_of_eq gq178.symm))
      have ne_b170_b178 : b170 ≠ b178 := Nat.ne_of_lt (Nat.lt_of_lt_of_le A170.lt (Nat.le_of_eq gq178.symm))
      have ne_t1_171_b178 : t1_171 ≠ b178 := Nat.ne_of_lt (Nat.lt_of_lt_of_le V_t_c171.lt (Nat.le_of_eq gq178.symm))
      have ne_b176_b178 : b176 ≠ b178 := Nat.ne_of_lt (Nat.lt_of_lt_of_le A176.lt (Nat.le_of_eq gq178.symm))
      have g_b178 : n0 ≤ b178 := Nat.le_trans (O.1 ▸ O.2.1) (Nat.le_of_eq gq178.symm)
      have sf_b178 := own_safeN C.1 E178 (Nat.le_of_eq gq178.symm)
      have R := CHr.ext E178 C.1
      have sf_b168 := R.safe Ex169.lt sf_b168
      have sf_b170 := R.safe A170.lt sf_b170
      have sf_b176 := R.safe A176.lt sf_b176
      have C := C.trans R
      have hk := Nat.le_trans hk E178.1
      have V_z_c163 := V_z_c163.ext E178
      have V_z_c167 := V_z_c167.ext E178
      have Ex169 := Ex169.ext E178
      have Fc169 := Fc169.ext E178
      have Fv169 := Fv169.ext E178
      have Av169 := Av169.ext E178
      have A170 := A170.ext E178
      have F_v_a_c171 := F_v_a_c171.ext E178
      have F_c_a_c171 := F_c_a_c171.ext E178
      have V_t_c171 := V_t_c171.ext E178
      have A176 := A176.ext E178
      have F_i_a_c177 := F_i_a_c177.ext E178
      have F_w_a_c177 := F_w_a_c177.ext E178
      have F_r_a_c177 := F_r_a_c177.ext E178
      have O := O.ext E178
      have F_id_b178 : Fld Z h178 b178 "com/example/whirligig/whirligig/DownloadInfoIndication$Unreadable" "id" "I" (.int (0 : Int32)) := D178 (Or.inr (hw _ (List.mem_of_getElem? (i := 39) rfl))) (ty := .int) (by decide)
      have F_version_b178 : Fld Z h178 b178 "com/example/whirligig/whirligig/DownloadInfoIndication$Unreadable" "version" "I" (.int (0 : Int32)) := D178 (Or.inr (hw _ (List.mem_of_getElem? (i := 41) rfl))) (ty := .int) (by decide)
      have F_reason_b178 : Fld Z h178 b178 "com/example/whirligig/whirligig/DownloadInfoIndication$Unreadable" "reason" "Ljava/lang/String;" .null := D178 (Or.inr (hw _ (List.mem_of_getElem? (i := 43) rfl))) (ty := (.object "java/lang/String")) (by decide)
      obtain ⟨_, _, ⟨T179, L179, k179, n179⟩, -, X179, ⟨Lc179, hQ179, l179, y179, z179⟩, st179⟩ := X178.specialBack hx (y := (⟨"com/example/whirligig/whirligig/DownloadInfoIndication$Unreadable", "<init>", "(IILjava/lang/String;)V"⟩ : MethodName)) rfl hown (mvT hZ (hw _ (List.mem_of_getElem? (i := 29) rfl))) (mvT hZ (hw _ (List.mem_of_getElem? (i := 30) rfl))) (mvT hZ (hw _ (List.mem_of_getElem? (i := 31) rfl))) (by decide) (backOf (W := 1) (rm5 l Z a0 hw [] b178 v3 v7 b170 h178 n0 O A178 F_id_b178 F_version_b178 F_reason_b178 g_b178) hZ (hw _ (List.mem_of_getElem? (i := 31) rfl)) (hw _ (List.mem_of_getElem? (i := 28) rfl)) (by decide) (by decide)) (g := (mkF m 247 (own_F13 i1 i2 i3 i4 i5 i6 v3 v7 (2 : Int32) (0 : Int32) v14 v18 z_163 z_167 b168 b170 (0 : Int32) (0 : Int32) b176) [(.ref b170), (.int v7), (.int v3), (.ref b178), (.ref b178)])) rfl (by rw [hml]; rfl) (Steps.refl _) (a := b178) (argsL := [(.int v3), (.int v7), (.ref b170)]) (rest := [(.ref b178)]) (lenOf pd__40IILjava_47lang_47String_59_41V rfl) rfl (by show 2 * 0 + _ ≤ _; exact Nat.le_of_eq rfl) (hb hby at_247) (fun _ _ => ⟨rfl, e178, (by decide : 11 + 0 ≤ _), (by decide : 26 + 0 ≤ _)⟩)
      dsimp only [Pt.U, Pt.locs, Pt.cells, Pt.slots] at X179 l179 y179 z179 st179 hQ179
      subst l179 y179 z179
      obtain ⟨rfl, N179q, K179, F_i_a_c179, F_w_a_c179, F_r_a_c179⟩ := hQ179
      have N179 := Fr.app N177 N179q
      have R := CHr.keep K179 (allS sf_b178 all0) C.1
      have sf_b168 := R.safe Ex169.lt sf_b168
      have sf_b170 := R.safe A170.lt sf_b170
      have sf_b176 := R.safe A176.lt sf_b176
      have sf_b178 := R.safe A178.lt sf_b178
      have C := C.trans R
      have hk := Nat.le_trans hk K179.1
      have V_z_c163 := V_z_c163.keep K179 (ninS ne_z_163_b178 nin0)
      have V_z_c167 := V_z_c167.keep K179 (ninS ne_z_167_b178 nin0)
      have Ex169 := Ex169.keep K179
      have Fc169 := Fc169.keep K179 (ninS ne_b168_b178 nin0)
      have Fv169 := Fv169.keep K179 (ninS ne_b168_b178 nin0)
      have Av169 := Av169.keep K179 (ninS ne_t169_b178 nin0)
      have A170 := A170.keep K179
      have F_v_a_c171 := F_v_a_c171.keep K179 (ninS ne_b170_b178 nin0)
      have F_c_a_c171 := F_c_a_c171.keep K179 (ninS ne_b170_b178 nin0)
      have V_t_c171 := V_t_c171.keep K179 (ninS ne_t1_171_b178 nin0)
      have A176 := A176.keep K179
      have F_i_a_c177 := F_i_a_c177.keep K179 (ninS ne_b176_b178 nin0)
      have F_w_a_c177 := F_w_a_c177.keep K179 (ninS ne_b176_b178 nin0)
      have F_r_a_c177 := F_r_a_c177.keep K179 (ninS ne_b176_b178 nin0)
      have A178 := A178.keep K179
      have O := O.keep K179 (allS g_b178 all0)
      obtain ⟨cq180, kq180, q180a, q180b, q180c⟩ := isOf hZ rfl A176
      obtain ⟨_, _, ⟨T180, L180, k180, n180⟩, -, X180, ⟨Lc180, hQ180, l180, y180, z180⟩, st180⟩ := X179.virtualBack hx (y := (⟨"com/example/whirligig/whirligig/DownloadInfoIndication$Unreadable", "equals", "(Ljava/lang/Object;)Z"⟩ : MethodName)) (z := (⟨"com/example/whirligig/whirligig/DownloadInfoIndication$Unreadable", "equals", "(Ljava/lang/Object;)Z"⟩ : MethodName)) hown (mvT hZ (hw _ (List.mem_of_getElem? (i := 44) rfl))) (mvT hZ (hw _ (List.mem_of_getElem? (i := 45) rfl))) (notFace_of_selects (args := #[]) (mvT hZ (hw _ (List.mem_of_getElem? (i := 47) rfl)))) (mvT hZ (hw _ (List.mem_of_getElem? (i := 47) rfl))) (mvT hZ (hw _ (List.mem_of_getElem? (i := 46) rfl))) (by decide) (backOf (W := 0) (rm7 l Z a0 hw [] b176 b178 i1 v3 i3 v7 b168 b170 t169 t1_171 kb169 kb_171 ([c1_163, d1_163] : List Int32) ([] : List Int32) zc T179.heap n0 O A178 F_i_a_c177 F_i_a_c179 F_w_a_c177 F_w_a_c179 F_r_a_c177 F_r_a_c179 Ex169 Fv169 Fc169 Av169 A170 F_v_a_c171 F_c_a_c171 V_t_c171 hp_b168 (Nat.le_trans h9_b168.2 (by decide)) own_hp0 (Nat.zero_le _) SC hzc) hZ (hw _ (List.mem_of_getElem? (i := 48) rfl)) (hw _ (List.mem_of_getElem? (i := 28) rfl)) (by decide) (by decide)) q180a q180c (g := (mkF m 264 (own_F16 i1 i2 i3 i4 i5 i6 v3 v7 (2 : Int32) (0 : Int32) v14 v18 z_163 z_167 b168 b170 (0 : Int32) (0 : Int32) b176 b178 b178 b176) [(.ref b178), (.ref b176)])) rfl (by rw [hml]; rfl) (Steps.refl _) (argsL := [(.ref b178)]) (rest := []) (lenOf pd__40Ljava_47lang_47Object_59_41Z rfl) rfl (by show 2 * 0 + _ ≤ _; exact Nat.le_of_eq rfl) (hb hby at_264) (fun _ _ => ⟨rfl, rfl, (by decide : 11 + 0 ≤ _), (by decide : 26 + 0 ≤ _)⟩)
      dsimp only [Pt.U, Pt.locs, Pt.cells, Pt.slots] at X180 l180 y180 z180 st180 hQ180
      subst l180 y180 z180
      obtain ⟨rfl, N180q, eh180⟩ := hQ180
      have N180 := Fr.app N179 N180q
      obtain ⟨cq181, kq181, q181a, q181b, q181c⟩ := isOf hZ eh180 A178
      obtain ⟨_, _, ⟨T181, L181, k181, n181⟩, -, X181, ⟨Lc181, hQ181, l181, y181, z181⟩, st181⟩ := X180.virtualBack hx (y := (⟨"com/example/whirligig/whirligig/DownloadInfoIndication$Unreadable", "equals", "(Ljava/lang/Object;)Z"⟩ : MethodName)) (z := (⟨"com/example/whirligig/whirligig/DownloadInfoIndication$Unreadable", "equals", "(Ljava/lang/Object;)Z"⟩ : MethodName)) hown (mvT hZ (hw _ (List.mem_of_getElem? (i := 44) rfl))) (mvT hZ (hw _ (List.mem_of_getElem? (i := 45) rfl))) (notFace_of_selects (args := #[]) (mvT hZ (hw _ (List.mem_of_getElem? (i := 47) rfl)))) (mvT hZ (hw _ (List.mem_of_getElem? (i := 47) rfl))) (mvT hZ (hw _ (List.mem_of_getElem? (i := 46) rfl))) (by decide) (backOf (W := 0) (rm7 l Z a0 hw [] b178 b176 v3 i1 v7 i3 b170 b168 t1_171 t169 kb_171 kb169 ([] : List Int32) ([c1_163, d1_163] : List Int32) zc T179.heap n0 O A176 F_i_a_c179 F_i_a_c177 F_w_a_c179 F_w_a_c177 F_r_a_c179 F_r_a_c177 A170 F_v_a_c171 F_c_a_c171 V_t_c171 Ex169 Fv169 Fc169 Av169 own_hp0 (Nat.zero_le _) hp_b168 (Nat.le_trans h9_b168.2 (by decide)) SC hzc) hZ (hw _ (List.mem_of_getElem? (i := 48) rfl)) (hw _ (List.mem_of_getElem? (i := 28) rfl)) (by decide) (by decide)) q181a q181c (g := (mkF m 276 (own_F16 i1 i2 i3 i4 i5 i6 v3 v7 (2 : Int32) (0 : Int32) v14 v18 z_163 z_167 b168 b170 (0 : Int32) (0 : Int32) b176 b178 b178 b176) [(.ref b176), (.ref b178)])) rfl (by rw [hml]; rfl) (Steps.refl _) (argsL := [(.ref b176)]) (rest := []) (lenOf pd__40Ljava_47lang_47Object_59_41Z rfl) rfl (by show 2 * 0 + _ ≤ _; exact Nat.le_of_eq rfl) (hb hby at_276) (fun _ _ => ⟨rfl, eh180, (by decide : 11 + 0 ≤ _), (by decide : 26 + 0 ≤ _)⟩)
      dsimp only [Pt.U, Pt.locs, Pt.cells, Pt.slots] at X181 l181 y181 z181 st181 hQ181
      subst l181 y181 z181
      obtain ⟨rfl, N181q, eh181⟩ := hQ181
      have N181 := Fr.app N180 N181q
      obtain ⟨cq182, kq182, q182a, q182b, q182c⟩ := isOf hZ eh181 A176
      obtain ⟨_, _, ⟨T182, L182, k182, n182⟩, -, X182, ⟨Lc182, hQ182, l182, y182, z182⟩, st182⟩ := X181.virtualBack hx (y := (⟨"com/example/whirligig/whirligig/DownloadInfoIndication$Unreadable", "equals", "(Ljava/lang/Object;)Z"⟩ : MethodName)) (z := (⟨"com/example/whirligig/whirligig/DownloadInfoIndication$Unreadable", "equals", "(Ljava/lang/Object;)Z"⟩ : MethodName)) hown (mvT hZ (hw _ (List.mem_of_getElem? (i := 44) rfl))) (mvT hZ (hw _ (List.mem_of_getElem? (i := 45) rfl))) (notFace_of_selects (args := #[]) (mvT hZ (hw _ (List.mem_of_getElem? (i := 47) rfl)))) (mvT hZ (hw _ (List.mem_of_getElem? (i := 47) rfl))) (mvT hZ (hw _ (List.mem_of_getElem? (i := 46) rfl))) (by decide) (backOf (W := 0) (rm7 l Z a0 hw [] b176 b176 i1 i1 i3 i3 b168 b168 t169 t169 kb169 kb169 ([c1_163, d1_163] : List Int32) ([c1_163, d1_163] : List Int32) zc T179.heap n0 O A176 F_i_a_c177 F_i_a_c177 F_w_a_c177 F_w_a_c177 F_r_a_c177 F_r_a_c177 Ex169 Fv169 Fc169 Av169 Ex169 Fv169 Fc169 Av169 hp_b168 (Nat.le_trans h9_b168.2 (by decide)) hp_b168 (Nat.le_trans h9_b168.2 (by decide)) SC hzc) hZ (hw _ (List.mem_of_getElem? (i := 48) rfl)) (hw _ (List.mem_of_getElem? (i := 28) rfl)) (by decide) (by decide)) q182a q182c (g := (mkF m 288 (own_F16 i1 i2 i3 i4 i5 i6 v3 v7 (2 : Int32) (0 : Int32) v14 v18 z_163 z_167 b168 b170 (0 : Int32) (0 : Int32) b176 b178 b178 b176) [(.ref b176), (.ref b176)])) rfl (by rw [hml]; rfl) (Steps.refl _) (argsL := [(.ref b176)]) (rest := []) (lenOf pd__40Ljava_47lang_47Object_59_41Z rfl) rfl (by show 2 * 0 + _ ≤ _; exact Nat.le_of_eq rfl) (hb hby at_288) (fun _ _ => ⟨rfl, eh181, (by decide : 11 + 0 ≤ _), (by decide : 26 + 0 ≤ _)⟩)
      dsimp only [Pt.U, Pt.locs, Pt.cells, Pt.slots] at X182 l182 y182 z182 st182 hQ182
      subst l182 y182 z182
      obtain ⟨rfl, N182q, eh182⟩ := hQ182
      have N182 := Fr.app N181 N182q
      obtain ⟨cq183, kq183, q183a, q183b, q183c⟩ := isOf hZ eh182 A176
      obtain ⟨_, _, ⟨T183, L183, k183, n183⟩, -, X183, ⟨Lc183, hQ183, l183, y183, z183⟩, st183⟩ := X182.virtualBack hx (y := (⟨"com/example/whirligig/whirligig/DownloadInfoIndication$Unreadable", "equals", "(Ljava/lang/Object;)Z"⟩ : MethodName)) (z := (⟨"com/example/whirligig/whirligig/DownloadInfoIndication$Unreadable", "equals", "(Ljava/lang/Object;)Z"⟩ : MethodName)) hown (mvT hZ (hw _ (List.mem_of_getElem? (i := 44) rfl))) (mvT hZ (hw _ (List.mem_of_getElem? (i := 45) rfl))) (notFace_of_selects (args := #[]) (mvT hZ (hw _ (List.mem_of_getElem? (i := 47) rfl)))) (mvT hZ (hw _ (List.mem_of_getElem? (i := 47) rfl))) (mvT hZ (hw _ (List.mem_of_getElem? (i := 46) rfl))) (by decide) (backOf (W := 0) (rm7_n l Z a0 hw [] b176 T179.heap n0 O ) hZ (hw _ (List.mem_of_getElem? (i := 48) rfl)) (hw _ (List.mem_of_getElem? (i := 28) rfl)) (by decide) (by decide)) q183a q183c (g := (mkF m 297 (own_F16 i1 i2 i3 i4 i5 i6 v3 v7 (2 : Int32) (0 : Int32) v14 v18 z_163 z_167 b168 b170 (0 : Int32) (0 : Int32) b176 b178 b178 b176) [.null, (.ref b176)])) rfl (by rw [hml]; rfl) (Steps.refl _) (argsL := [.null]) (rest := []) (lenOf pd__40Ljava_47lang_47Object_59_41Z rfl) rfl (by show 2 * 0 + _ ≤ _; exact Nat.le_of_eq rfl) (hb hby at_297) (fun _ _ => ⟨rfl, eh182, (by decide : 11 + 0 ≤ _), (by decide : 26 + 0 ≤ _)⟩)
      dsimp only [Pt.U, Pt.locs, Pt.cells, Pt.slots] at X183 l183 y183 z183 st183 hQ183
      subst l183 y183 z183
      obtain ⟨rfl, N183q, eh183⟩ := hQ183
      have N183 := Fr.app N182 N183q
      obtain ⟨cq184, kq184, q184a, q184b, q184c⟩ := isOf hZ eh183 A176
      obtain ⟨_, _, ⟨T184, L184, k184, n184⟩, -, X184, ⟨Lc184, hQ184, l184, y184, z184⟩, st184⟩ := X183.virtualBack hx (y := (⟨"com/example/whirligig/whirligig/DownloadInfoIndication$Unreadable", "equals", "(Ljava/lang/Object;)Z"⟩ : MethodName)) (z := (⟨"com/example/whirligig/whirligig/DownloadInfoIndication$Unreadable", "equals", "(Ljava/lang/Object;)Z"⟩ : MethodName)) hown (mvT hZ (hw _ (List.mem_of_getElem? (i := 44) rfl))) (mvT hZ (hw _ (List.mem_of_getElem? (i := 45) rfl))) (notFace_of_selects (args := #[]) (mvT hZ (hw _ (List.mem_of_getElem? (i := 47) rfl)))) (mvT hZ (hw _ (List.mem_of_getElem? (i := 47) rfl))) (mvT hZ (hw _ (List.mem_of_getElem? (i := 46) rfl))) (by decide) (backOf (W := 0) (rm7_S l Z a0 hw [] b176 b168 T179.heap n0 O Ex169) hZ (hw _ (List.mem_of_getElem? (i := 48) rfl)) (hw _ (List.mem_of_getElem? (i := 28) rfl)) (by decide) (by decide)) q184a q184c (g := (mkF m 307 (own_F16 i1 i2 i3 i4 i5 i6 v3 v7 (2 : Int32) (0 : Int32) v14 v18 z_163 z_167 b168 b170 (0 : Int32) (0 : Int32) b176 b178 b178 b176) [(.ref b168), (.ref b176)])) rfl (by rw [hml]; rfl) (Steps.refl _) (argsL := [(.ref b168)]) (rest := []) (lenOf pd__40Ljava_47lang_47Object_59_41Z rfl) rfl (by show 2 * 0 + _ ≤ _; exact Nat.le_of_eq rfl) (hb hby at_307) (fun _ _ => ⟨rfl, eh183, (by decide : 11 + 0 ≤ _), (by decide : 26 + 0 ≤ _)⟩)
      dsimp only [Pt.U, Pt.locs, Pt.cells, Pt.slots] at X184 l184 y184 z184 st184 hQ184
      subst l184 y184 z184
      obtain ⟨rfl, N184q, eh184⟩ := hQ184
      have N184 := Fr.app N183 N184q
      obtain ⟨_, _, ⟨T185, L185, k185, n185⟩, -, X185, ⟨Lc185, hQ185, l185, y185, z185⟩, st185⟩ := Jvm.LawKit.callS X184 hx (y := (⟨"java/lang/Integer", "valueOf", "(I)Ljava/lang/Integer;"⟩ : MethodName)) hown (mvT hZ (hw _ (List.mem_of_getElem? (i := 64) rfl))) (mvT hZ (hw _ (List.mem_of_getElem? (i := 65) rfl))) (mvT hZ (hw _ (List.mem_of_getElem? (i := 66) rfl))) (mvT hZ (hw _ (List.mem_of_getElem? (i := 67) rfl))) (by decide) (backOf (W := 1) (rm10 l Z a0 hw [] i1 cl_s_cacheI s_cacheI T179.heap n0 O S_s_cacheI S_high BI) hZ (hw _ (List.mem_of_getElem? (i := 67) rfl)) (hw _ (List.mem_of_getElem? (i := 66) rfl)) (by decide) (by decide)) (g := (mkF m 316 (own_F16 i1 i2 i3 i4 i5 i6 v3 v7 (2 : Int32) (0 : Int32) v14 v18 z_163 z_167 b168 b170 (0 : Int32) (0 : Int32) b176 b178 b178 b176) [(.int i1), (.ref b176)])) rfl (by rw [hml]; rfl) (argsL := [(.int i1)]) (rest := [(.ref b176)]) (lenOf pd__40I_41Ljava_47lang_47Integer_59 rfl) rfl (by show 2 * 0 + _ ≤ _; exact Nat.le_of_eq rfl) (hb hby at_316) (fun _ _ => ⟨rfl, eh184, (by decide : 11 + 1 ≤ _), (by decide : 26 + 1 ≤ _)⟩)
      dsimp only [Pt.U, Pt.locs, Pt.cells, Pt.slots] at X185 l185 y185 z185 st185 hQ185
      subst l185 y185 z185
      obtain ⟨z_185, rfl, N185q, K185, E_z_c185⟩ := hQ185
      have N185 := Fr.app N184 N185q
      have R := CHr.keep K185 all0 C.1
      have sf_b168 := R.safe Ex169.lt sf_b168
      have sf_b170 := R.safe A170.lt sf_b170
      have sf_b176 := R.safe A176.lt sf_b176
      have sf_b178 := R.safe A178.lt sf_b178
      have C := C.trans R
      have hk := Nat.le_trans hk K185.1
      have V_z_c163 := V_z_c163.keep K185 nin0
      have V_z_c167 := V_z_c167.keep K185 nin0
      have Ex169 := Ex169.keep K185
      have Fc169 := Fc169.keep K185 nin0
      have Fv169 := Fv169.keep K185 nin0
      have Av169 := Av169.keep K185 nin0
      have A170 := A170.keep K185
      have F_v_a_c171 := F_v_a_c171.keep K185 nin0
      have F_c_a_c171 := F_c_a_c171.keep K185 nin0
      have V_t_c171 := V_t_c171.keep K185 nin0
      have A176 := A176.keep K185
      have F_i_a_c177 := F_i_a_c177.keep K185 nin0
      have F_w_a_c177 := F_w_a_c177.keep K185 nin0
      have F_r_a_c177 := F_r_a_c177.keep K185 nin0
      have A178 := A178.keep K185
      have F_i_a_c179 := F_i_a_c179.keep K185 nin0
      have F_w_a_c179 := F_w_a_c179.keep K185 nin0
      have F_r_a_c179 := F_r_a_c179.keep K185 nin0
      have O := O.keep K185 all0
      obtain ⟨cq186, kq186, q186a, q186b, q186c⟩ := isOf hZ rfl A176
      obtain ⟨_, _, ⟨T186, L186, k186, n186⟩, -, X186, ⟨Lc186, hQ186, l186, y186, z186⟩, st186⟩ := X185.virtualBack hx (y := (⟨"com/example/whirligig/whirligig/DownloadInfoIndication$Unreadable", "equals", "(Ljava/lang/Object;)Z"⟩ : MethodName)) (z := (⟨"com/example/whirligig/whirligig/DownloadInfoIndication$Unreadable", "equals", "(Ljava/lang/Object;)Z"⟩ : MethodName)) hown (mvT hZ (hw _ (List.mem_of_getElem? (i := 44) rfl))) (mvT hZ (hw _ (List.mem_of_getElem? (i := 45) rfl))) (notFace_of_selects (args := #[]) (mvT hZ (hw _ (List.mem_of_getElem? (i := 47) rfl)))) (mvT hZ (hw _ (List.mem_of_getElem? (i := 47) rfl))) (mvT hZ (hw _ (List.mem_of_getElem? (i := 46) rfl))) (by decide) (backOf (W := 0) (rm7_I l Z a0 hw [] b176 z_185 T185.heap n0 O E_z_c185) hZ (hw _ (List.mem_of_getElem? (i := 48) rfl)) (hw _ (List.mem_of_getElem? (i := 28) rfl)) (by decide) (by decide)) q186a q186c (g := (mkF m 319 (own_F16 i1 i2 i3 i4 i5 i6 v3 v7 (2 : Int32) (0 : Int32) v14 v18 z_163 z_167 b168 b170 (0 : Int32) (0 : Int32) b176 b178 b178 b176) [(.ref z_185), (.ref b176)])) rfl (by rw [hml]; rfl) (Steps.refl _) (argsL := [(.ref z_185)]) (rest := []) (lenOf pd__40Ljava_47lang_47Object_59_41Z rfl) rfl (by show 2 * 0 + _ ≤ _; exact Nat.le_of_eq rfl) (hb hby at_319) (fun _ _ => ⟨rfl, rfl, (by decide : 12 + 0 ≤ _), (by decide : 27 + 0 ≤ _)⟩)
      dsimp only [Pt.U, Pt.locs, Pt.cells, Pt.slots] at X186 l186 y186 z186 st186 hQ186
      subst l186 y186 z186
      obtain ⟨rfl, N186q, eh186⟩ := hQ186
      have N186 := Fr.app N185 N186q
      have w187 : ∀ t, Steps p.tables e below (T186.setTop (mkF m 330 (own_F16 i1 i2 i3 i4 i5 i6 v3 v7 (2 : Int32) (0 : Int32) v14 v18 z_163 z_167 b168 b170 (0 : Int32) (0 : Int32) b176 b178 b178 b176) [(.int (1 : Int32))])) t → Steps p.tables e below (s₁.setTop (entryFrame m #[(.int i1), (.int i2), (.int i3), (.int i4), (.int i5), (.int i6)] maxLocals)) t := fun t k => by
        refine w175 t ?_
        refine XS.istore X171.here hx rfl (hb hby at_222) rfl (l' := (own_F12 i1 i2 i3 i4 i5 i6 v3 v7 (2 : Int32) (0 : Int32) v14 v18 z_163 z_167 b168 b170 (0 : Int32) (0 : Int32))) rfl ?_
        show Steps p.tables e below (T171.setTop (mkF m 224 (own_F12 i1 i2 i3 i4 i5 i6 v3 v7 (2 : Int32) (0 : Int32) v14 v18 z_163 z_167 b168 b170 (0 : Int32) (0 : Int32)) [])) _
        refine st176 _ ?_
        show Steps p.tables e below (T176.setTop (mkF m 227 (own_F12 i1 i2 i3 i4 i5 i6 v3 v7 (2 : Int32) (0 : Int32) v14 v18 z_163 z_167 b168 b170 (0 : Int32) (0 : Int32)) [(.ref b176)])) _
        refine XS.dup X176.here hx rfl (hb hby at_227) rfl rfl ?_
        show Steps p.tables e below (T176.setTop (mkF m 228 (own_F12 i1 i2 i3 i4 i5 i6 v3 v7 (2 : Int32) (0 : Int32) v14 v18 z_163 z_167 b168 b170 (0 : Int32) (0 : Int32)) [(.ref b176), (.ref b176)])) _
        refine XS.iloadN X176.here hx rfl (hb hby at_228) rfl ?_
        show Steps p.tables e below (T176.setTop (mkF m 229 (own_F12 i1 i2 i3 i4 i5 i6 v3 v7 (2 : Int32) (0 : Int32) v14 v18 z_163 z_167 b168 b170 (0 : Int32) (0 : Int32)) [(.int i1), (.ref b176), (.ref b176)])) _
        refine XS.iloadN X176.here hx rfl (hb hby at_229) rfl ?_
        show Steps p.tables e below (T176.setTop (mkF m 230 (own_F12 i1 i2 i3 i4 i5 i6 v3 v7 (2 : Int32) (0 : Int32) v14 v18 z_163 z_167 b168 b170 (0 : Int32) (0 : Int32)) [(.int i3), (.int i1), (.ref b176), (.ref b176)])) _
        refine XS.aload X176.here hx rfl (hb hby at_230) rfl rfl ?_
        show Steps p.tables e below (T176.setTop (mkF m 232 (own_F12 i1 i2 i3 i4 i5 i6 v3 v7 (2 : Int32) (0 : Int32) v14 v18 z_163 z_167 b168 b170 (0 : Int32) (0 : Int32)) [(.ref b168), (.int i3), (.int i1), (.ref b176), (.ref b176)])) _
        refine st177.trans ?_
        show Steps p.tables e below (T177.setTop (mkF m 235 (own_F12 i1 i2 i3 i4 i5 i6 v3 v7 (2 : Int32) (0 : Int32) v14 v18 z_163 z_167 b168 b170 (0 : Int32) (0 : Int32)) [(.ref b176)])) _
        refine XS.astore X177.here hx rfl (hb hby at_235) rfl rfl (l' := (own_F13 i1 i2 i3 i4 i5 i6 v3 v7 (2 : Int32) (0 : Int32) v14 v18 z_163 z_167 b168 b170 (0 : Int32) (0 : Int32) b176)) rfl ?_
        show Steps p.tables e below (T177.setTop (mkF m 237 (own_F13 i1 i2 i3 i4 i5 i6 v3 v7 (2 : Int32) (0 : Int32) v14 v18 z_163 z_167 b168 b170 (0 : Int32) (0 : Int32) b176) [])) _
        refine st178 _ ?_
        show Steps p.tables e below (T178.setTop (mkF m 240 (own_F13 i1 i2 i3 i4 i5 i6 v3 v7 (2 : Int32) (0 : Int32) v14 v18 z_163 z_167 b168 b170 (0 : Int32) (0 : Int32) b176) [(.ref b178)])) _
        refine XS.dup X178.here hx rfl (hb hby at_240) rfl rfl ?_
        show Steps p.tables e below (T178.setTop (mkF m 241 (own_F13 i1 i2 i3 i4 i5 i6 v3 v7 (2 : Int32) (0 : Int32) v14 v18 z_163 z_167 b168 b170 (0 : Int32) (0 : Int32) b176) [(.ref b178), (.ref b178)])) _
        refine XS.iload X178.here hx rfl (hb hby at_241) rfl ?_
        show Steps p.tables e below (T178.setTop (mkF m 243 (own_F13 i1 i2 i3 i4 i5 i6 v3 v7 (2 : Int32) (0 : Int32) v14 v18 z_163 z_167 b168 b170 (0 : Int32) (0 : Int32) b176) [(.int v3), (.ref b178), (.ref b178)])) _
        refine XS.iload X178.here hx rfl (hb hby at_243) rfl ?_
        show Steps p.tables e below (T178.setTop (mkF m 245 (own_F13 i1 i2 i3 i4 i5 i6 v3 v7 (2 : Int32) (0 : Int32) v14 v18 z_163 z_167 b168 b170 (0 : Int32) (0 : Int32) b176) [(.int v7), (.int v3), (.ref b178), (.ref b178)])) _
        refine XS.aload X178.here hx rfl (hb hby at_245) rfl rfl ?_
        show Steps p.tables e below (T178.setTop (mkF m 247 (own_F13 i1 i2 i3 i4 i5 i6 v3 v7 (2 : Int32) (0 : Int32) v14 v18 z_163 z_167 b168 b170 (0 : Int32) (0 : Int32) b176) [(.ref b170), (.int v7), (.int v3), (.ref b178), (.ref b178)])) _
        refine st179.trans ?_
        show Steps p.tables e below (T179.setTop (mkF m 250 (own_F13 i1 i2 i3 i4 i5 i6 v3 v7 (2 : Int32) (0 : Int32) v14 v18 z_163 z_167 b168 b170 (0 : Int32) (0 : Int32) b176) [(.ref b178)])) _
        refine XS.astore X179.here hx rfl (hb hby at_250) rfl rfl (l' := (own_F14 i1 i2 i3 i4 i5 i6 v3 v7 (2 : Int32) (0 : Int32) v14 v18 z_163 z_167 b168 b170 (0 : Int32) (0 : Int32) b176 b178)) rfl ?_
        show Steps p.tables e below (T179.setTop (mkF m 252 (own_F14 i1 i2 i3 i4 i5 i6 v3 v7 (2 : Int32) (0 : Int32) v14 v18 z_163 z_167 b168 b170 (0 : Int32) (0 : Int32) b176 b178) [])) _
        refine XS.aload X179.here hx rfl (hb hby at_252) rfl rfl ?_
        show Steps p.tables e below (T179.setTop (mkF m 254 (own_F14 i1 i2 i3 i4 i5 i6 v3 v7 (2 : Int32) (0 : Int32) v14 v18 z_163 z_167 b168 b170 (0 : Int32) (0 : Int32) b176 b178) [(.ref b178)])) _
        refine XS.astore X179.here hx rfl (hb hby at_254) rfl rfl (l' := (own_F15 i1 i2 i3 i4 i5 i6 v3 v7 (2 : Int32) (0 : Int32) v14 v18 z_163 z_167 b168 b170 (0 : Int32) (0 : Int32) b176 b178 b178)) rfl ?_
        show Steps p.tables e below (T179.setTop (mkF m 256 (own_F15 i1 i2 i3 i4 i5 i6 v3 v7 (2 : Int32) (0 : Int32) v14 v18 z_163 z_167 b168 b170 (0 : Int32) (0 : Int32) b176 b178 b178) [])) _
        refine XS.aload X179.here hx rfl (hb hby at_256) rfl rfl ?_
        show Steps p.tables e below (T179.setTop (mkF m 258 (own_F15 i1 i2 i3 i4 i5 i6 v3 v7 (2 : Int32) (0 : Int32) v14 v18 z_163 z_167 b168 b170 (0 : Int32) (0 : Int32) b176 b178 b178) [(.ref b176)])) _
        refine XS.astore X179.here hx rfl (hb hby at_258) rfl rfl (l' := (own_F16 i1 i2 i3 i4 i5 i6 v3 v7 (2 : Int32) (0 : Int32) v14 v18 z_163 z_167 b168 b170 (0 : Int32) (0 : Int32) b176 b178 b178 b176)) rfl ?_
        show Steps p.tables e below (T179.setTop (mkF m 260 (own_F16 i1 i2 i3 i4 i5 i6 v3 v7 (2 : Int32) (0 : Int32) v14 v18 z_163 z_167 b168 b170 (0 : Int32) (0 : Int32) b176 b178 b178 b176) [])) _
        refine XS.aload X179.here hx rfl (hb hby at_260) rfl rfl ?_
        show Steps p.tables e below (T179.setTop (mkF m 262 (own_F16 i1 i2 i3 i4 i5 i6 v3 v7 (2 : Int32) (0 : Int32) v14 v18 z_163 z_167 b168 b170 (0 : Int32) (0 : Int32) b176 b178 b178 b176) [(.ref b176)])) _
        refine XS.aload X179.here hx rfl (hb hby at_262) rfl rfl ?_
        show Steps p.tables e below (T179.setTop (mkF m 264 (own_F16 i1 i2 i3 i4 i5 i6 v3 v7 (2 : Int32) (0 : Int32) v14 v18 z_163 z_167 b168 b170 (0 : Int32) (0 : Int32) b176 b178 b178 b176) [(.ref b178), (.ref b176)])) _
        refine st180.trans ?_
        show Steps p.tables e below (T180.setTop (mkF m 267 (own_F16 i1 i2 i3 i4 i5 i6 v3 v7 (2 : Int32) (0 : Int32) v14 v18 z_163 z_167 b168 b170 (0 : Int32) (0 : Int32) b176 b178 b178 b176) [(.int (own_e i1 v3 i3 v7 ([c1_163, d1_163] : List Int32) ([] : List Int32)))])) _
        refine XS.iload X180.here hx rfl (hb hby at_267) rfl ?_
        show Steps p.tables e below (T180.setTop (mkF m 269 (own_F16 i1 i2 i3 i4 i5 i6 v3 v7 (2 : Int32) (0 : Int32) v14 v18 z_163 z_167 b168 b170 (0 : Int32) (0 : Int32) b176 b178 b178 b176) [(.int (0 : Int32)), (.int (own_e i1 v3 i3 v7 ([c1_163, d1_163] : List Int32) ([] : List Int32)))])) _
        refine XS.icmpNo X180.here hx rfl (hb hby at_269) rfl (teq (own_e0 _ _ _ _ (fun e => nomatch e) : (own_e i1 v3 i3 v7 ([c1_163, d1_163] : List Int32) ([] : List Int32)) = (0 : Int32))).2 ?_
        show Steps p.tables e below (T180.setTop (mkF m 272 (own_F16 i1 i2 i3 i4 i5 i6 v3 v7 (2 : Int32) (0 : Int32) v14 v18 z_163 z_167 b168 b170 (0 : Int32) (0 : Int32) b176 b178 b178 b176) [])) _
        refine XS.aload X180.here hx rfl (hb hby at_272) rfl rfl ?_
        show Steps p.tables e below (T180.setTop (mkF m 274 (own_F16 i1 i2 i3 i4 i5 i6 v3 v7 (2 : Int32) (0 : Int32) v14 v18 z_163 z_167 b168 b170 (0 : Int32) (0 : Int32) b176 b178 b178 b176) [(.ref b178)])) _
        refine XS.aload X180.here hx rfl (hb hby at_274) rfl rfl ?_
        show Steps p.tables e below (T180.setTop (mkF m 276 (own_F16 i1 i2 i3 i4 i5 i6 v3 v7 (2 : Int32) (0 : Int32) v14 v18 z_163 z_167 b168 b170 (0 : Int32) (0 : Int32) b176 b178 b178 b176) [(.ref b176), (.ref b178)])) _
        refine st181.trans ?_
        show Steps p.tables e below (T181.setTop (mkF m 279 (own_F16 i1 i2 i3 i4 i5 i6 v3 v7 (2 : Int32) (0 : Int32) v14 v18 z_163 z_167 b168 b170 (0 : Int32) (0 : Int32) b176 b178 b178 b176) [(.int (own_e v3 i1 v7 i3 ([] : List Int32) ([c1_163, d1_163] : List Int32)))])) _
        refine XS.iload X181.here hx rfl (hb hby at_279) rfl ?_
        show Steps p.tables e below (T181.setTop (mkF m 281 (own_F16 i1 i2 i3 i4 i5 i6 v3 v7 (2 : Int32) (0 : Int32) v14 v18 z_163 z_167 b168 b170 (0 : Int32) (0 : Int32) b176 b178 b178 b176) [(.int (0 : Int32)), (.int (own_e v3 i1 v7 i3 ([] : List Int32) ([c1_163, d1_163] : List Int32)))])) _
        refine XS.icmpNo X181.here hx rfl (hb hby at_281) rfl (teq ((own_sym _ _ _ _ _ _).trans (own_e0 _ _ _ _ (fun e => nomatch e)) : (own_e v3 i1 v7 i3 ([] : List Int32) ([c1_163, d1_163] : List Int32)) = (0 : Int32))).2 ?_
        show Steps p.tables e below (T181.setTop (mkF m 284 (own_F16 i1 i2 i3 i4 i5 i6 v3 v7 (2 : Int32) (0 : Int32) v14 v18 z_163 z_167 b168 b170 (0 : Int32) (0 : Int32) b176 b178 b178 b176) [])) _
        refine XS.aload X181.here hx rfl (hb hby at_284) rfl rfl ?_
        show Steps p.tables e below (T181.setTop (mkF m 286 (own_F16 i1 i2 i3 i4 i5 i6 v3 v7 (2 : Int32) (0 : Int32) v14 v18 z_163 z_167 b168 b170 (0 : Int32) (0 : Int32) b176 b178 b178 b176) [(.ref b176)])) _
        refine XS.aload X181.here hx rfl (hb hby at_286) rfl rfl ?_
        show Steps p.tables e below (T181.setTop (mkF m 288 (own_F16 i1 i2 i3 i4 i5 i6 v3 v7 (2 : Int32) (0 : Int32) v14 v18 z_163 z_167 b168 b170 (0 : Int32) (0 : Int32) b176 b178 b178 b176) [(.ref b176), (.ref b176)])) _
        refine st182.trans ?_
        show Steps p.tables e below (T182.setTop (mkF m 291 (own_F16 i1 i2 i3 i4 i5 i6 v3 v7 (2 : Int32) (0 : Int32) v14 v18 z_163 z_167 b168 b170 (0 : Int32) (0 : Int32) b176 b178 b178 b176) [(.int (own_e i1 i1 i3 i3 ([c1_163, d1_163] : List Int32) ([c1_163, d1_163] : List Int32)))])) _
        refine XS.ifNo X182.here hx rfl (hb hby at_291) rfl ((if0 _ _).trans (feq (own_rfl _ _ _ : ¬ ((own_e i1 i1 i3 i3 ([c1_163, d1_163] : List Int32) ([c1_163, d1_163] : List Int32)) = (0 : Int32)))).1) ?_
        show Steps p.tables e below (T182.setTop (mkF m 294 (own_F16 i1 i2 i3 i4 i5 i6 v3 v7 (2 : Int32) (0 : Int32) v14 v18 z_163 z_167 b168 b170 (0 : Int32) (0 : Int32) b176 b178 b178 b176) [])) _
        refine XS.aload X182.here hx rfl (hb hby at_294) rfl rfl ?_
        show Steps p.tables e below (T182.setTop (mkF m 296 (own_F16 i1 i2 i3 i4 i5 i6 v3 v7 (2 : Int32) (0 : Int32) v14 v18 z_163 z_167 b168 b170 (0 : Int32) (0 : Int32) b176 b178 b178 b176) [(.ref b176)])) _
        refine XS.aconstNull X182.here hx rfl (hb hby at_296) ?_
        show Steps p.tables e below (T182.setTop (mkF m 297 (own_F16 i1 i2 i3 i4 i5 i6 v3 v7 (2 : Int32) (0 : Int32) v14 v18 z_163 z_167 b168 b170 (0 : Int32) (0 : Int32) b176 b178 b178 b176) [.null, (.ref b176)])) _
        refine st183.trans ?_
        show Steps p.tables e below (T183.setTop (mkF m 300 (own_F16 i1 i2 i3 i4 i5 i6 v3 v7 (2 : Int32) (0 : Int32) v14 v18 z_163 z_167 b168 b170 (0 : Int32) (0 : Int32) b176 b178 b178 b176) [(.int (0 : Int32))])) _
        refine XS.ifNo X183.here hx rfl (hb hby at_300) rfl ((if0 _ _).trans (teq (rfl : (0 : Int32) = (0 : Int32))).2) ?_
        show Steps p.tables e below (T183.setTop (mkF m 303 (own_F16 i1 i2 i3 i4 i5 i6 v3 v7 (2 : Int32) (0 : Int32) v14 v18 z_163 z_167 b168 b170 (0 : Int32) (0 : Int32) b176 b178 b178 b176) [])) _
        refine XS.aload X183.here hx rfl (hb hby at_303) rfl rfl ?_
        show Steps p.tables e below (T183.setTop (mkF m 305 (own_F16 i1 i2 i3 i4 i5 i6 v3 v7 (2 : Int32) (0 : Int32) v14 v18 z_163 z_167 b168 b170 (0 : Int32) (0 : Int32) b176 b178 b178 b176) [(.ref b176)])) _
        refine XS.aload X183.here hx rfl (hb hby at_305) rfl rfl ?_
        show Steps p.tables e below (T183.setTop (mkF m 307 (own_F16 i1 i2 i3 i4 i5 i6 v3 v7 (2 : Int32) (0 : Int32) v14 v18 z_163 z_167 b168 b170 (0 : Int32) (0 : Int32) b176 b178 b178 b176) [(.ref b168), (.ref b176)])) _
        refine st184.trans ?_
        show Steps p.tables e below (T184.setTop (mkF m 310 (own_F16 i1 i2 i3 i4 i5 i6 v3 v7 (2 : Int32) (0 : Int32) v14 v18 z_163 z_167 b168 b170 (0 : Int32) (0 : Int32) b176 b178 b178 b176) [(.int (0 : Int32))])) _
        refine XS.ifNo X184.here hx rfl (hb hby at_310) rfl ((if0 _ _).trans (teq (rfl : (0 : Int32) = (0 : Int32))).2) ?_
        show Steps p.tables e below (T184.setTop (mkF m 313 (own_F16 i1 i2 i3 i4 i5 i6 v3 v7 (2 : Int32) (0 : Int32) v14 v18 z_163 z_167 b168 b170 (0 : Int32) (0 : Int32) b176 b178 b178 b176) [])) _
        refine XS.aload X184.here hx rfl (hb hby at_313) rfl rfl ?_
        show Steps p.tables e below (T184.setTop (mkF m 315 (own_F16 i1 i2 i3 i4 i5 i6 v3 v7 (2 : Int32) (0 : Int32) v14 v18 z_163 z_167 b168 b170 (0 : Int32) (0 : Int32) b176 b178 b178 b176) [(.ref b176)])) _
        refine XS.iloadN X184.here hx rfl (hb hby at_315) rfl ?_
        show Steps p.tables e below (T184.setTop (mkF m 316 (own_F16 i1 i2 i3 i4 i5 i6 v3 v7 (2 : Int32) (0 : Int32) v14 v18 z_163 z_167 b168 b170 (0 : Int32) (0 : Int32) b176 b178 b178 b176) [(.int i1), (.ref b176)])) _
        refine st185 _ ?_
        show Steps p.tables e below (T185.setTop (mkF m 319 (own_F16 i1 i2 i3 i4 i5 i6 v3 v7 (2 : Int32) (0 : Int32) v14 v18 z_163 z_167 b168 b170 (0 : Int32) (0 : Int32) b176 b178 b178 b176) [(.ref z_185), (.ref b176)])) _
        refine st186.trans ?_
        show Steps p.tables e below (T186.setTop (mkF m 322 (own_F16 i1 i2 i3 i4 i5 i6 v3 v7 (2 : Int32) (0 : Int32) v14 v18 z_163 z_167 b168 b170 (0 : Int32) (0 : Int32) b176 b178 b178 b176) [(.int (0 : Int32))])) _
        refine XS.ifNo X186.here hx rfl (hb hby at_322) rfl ((if0 _ _).trans (teq (rfl : (0 : Int32) = (0 : Int32))).2) ?_
        show Steps p.tables e below (T186.setTop (mkF m 325 (own_F16 i1 i2 i3 i4 i5 i6 v3 v7 (2 : Int32) (0 : Int32) v14 v18 z_163 z_167 b168 b170 (0 : Int32) (0 : Int32) b176 b178 b178 b176) [])) _
        refine XS.iconst X186.here hx rfl (hb hby at_325) ?_
        show Steps p.tables e below (T186.setTop (mkF m 326 (own_F16 i1 i2 i3 i4 i5 i6 v3 v7 (2 : Int32) (0 : Int32) v14 v18 z_163 z_167 b168 b170 (0 : Int32) (0 : Int32) b176 b178 b178 b176) [(.int (1 : Int32))])) _
        refine XS.goto X186.here hx rfl (pc0 := 326) (pc' := 330) rfl (hb hby at_326) (by decide) (by decide) ?_
        show Steps p.tables e below (T186.setTop (mkF m 330 (own_F16 i1 i2 i3 i4 i5 i6 v3 v7 (2 : Int32) (0 : Int32) v14 v18 z_163 z_167 b168 b170 (0 : Int32) (0 : Int32) b176 b178 b178 b176) [(.int (1 : Int32))])) _
        exact k
      obtain ⟨fs, hr, hrun, hended, hE⟩ := Stand.leaveW (s := s) (vm₁ := T171.vm) X186 hS (by rw [eh186]; exact hk) (v := some (.int (1 : Int32))) (fun h => by rw [Bd.returns] at h; cases h)
      refine ⟨_, _, w187 _ ?_, hrun, hended, _, _, rfl, ?_, ?_, own_mono hE (by decide) (by decide)⟩
      · exact retN X186 hx (t := .boolean) Bd.returns (by simp) (hb hby at_330) hr
      · show Q0 Z i1 i2 i3 i4 i5 i6 cl_s_cacheI zc s_cacheI h0 n0 _ T186.heap _
        rw [eh186]
        exact ⟨rfl, N186⟩
      · rw [hh]; show CHr Z consts_1 s.vm h0 T186.vm T186.heap; rw [eh186]; exact C.trans (CHv.at X186 hZ hEL C.1)
    · rw [hk166] at w164
      have lt188_z_163 := V_z_c163.lt
      obtain ⟨_, _, ⟨T188, L188, k188, n188⟩, -, X188, ⟨Lc188, hQ188, l188, y188, z188⟩, st188⟩ := Jvm.LawKit.callS X163 hx (y := (⟨"com/example/whirligig/whirligig/UnreadableEqualsPinLaw", "chars", "(III)[C"⟩ : MethodName)) hown (mvT hZ (hw _ (List.mem_of_getElem? (i := 0) rfl))) (mvT hZ (hw _ (List.mem_of_getElem? (i := 1) rfl))) (mvT hZ (hw _ (List.mem_of_getElem? (i := 2) rfl))) (mvT hZ (hw _ (List.mem_of_getElem? (i := 3) rfl))) (by decide) (backOf (W := 0) (rm1_1 l Z a0 hw [] v14 v18 T163.heap n0 O ) hZ (hw _ (List.mem_of_getElem? (i := 3) rfl)) (hw _ (List.mem_of_getElem? (i := 2) rfl)) (by decide) (by decide)) (g := (mkF m 125 (own_F7 i1 i2 i3 i4 i5 i6 v3 v7 (2 : Int32) (1 : Int32) v14 v18 z_163) [(.int v18), (.int v14), (.int (1 : Int32))])) rfl (by rw [hml]; rfl) (argsL := [(.int (1 : Int32)), (.int v14), (.int v18)]) (rest := []) (lenOf pd__40III_41_91C rfl) rfl (by show 2 * 0 + _ ≤ _; exact Nat.le_of_eq rfl) (hb hby at_125) (fun _ _ => ⟨rfl, rfl, (by decide : 1 + 1 ≤ _), (by decide : 2 + 1 ≤ _)⟩)
      dsimp only [Pt.U, Pt.locs, Pt.cells, Pt.slots] at X188 l188 y188 z188 st188 hQ188
      subst l188 y188 z188
      obtain ⟨z_188, kz_188, c1_188, rfl, N188q, K188, V_z_c188, gz_188, gn_188, bc_188⟩ := hQ188
      have N188 := Fr.app N163 N188q
      have R := CHr.keep K188 all0 C.1
      have C := C.trans R
      have hk := Nat.le_trans hk K188.1
      have V_z_c163 := V_z_c163.keep K188 nin0
      have ne_z_163_z_188 : z_163 ≠ z_188 := Nat.ne_of_lt (Nat.lt_of_lt_of_le lt188_z_163 gz_188)
      have g_z_188 := gn_188
      have O := O.keep K188 all0
      obtain ⟨T189, h189, X189, e189, E189, A189, D189, -, st189⟩ := newO X188 hx hZ hown (hw _ (List.mem_of_getElem? (i := 5) rfl)) (hw _ (List.mem_of_getElem? (i := 6) rfl)) (hw _ (List.mem_of_getElem? (i := 7) rfl)) rfl (g := (mkF m 130 (own_F8 i1 i2 i3 i4 i5 i6 v3 v7 (2 : Int32) (1 : Int32) v14 v18 z_163 z_188) [])) rfl (hb hby at_130) (by decide) (by decide)
      obtain ⟨b189, gq189⟩ : ∃ z, z = Array.size T188.heap := ⟨_, rfl⟩
      rw [← gq189] at A189 D189 st189
      have ne_z_163_b189 : z_163 ≠ b189 := Nat.ne_of_lt (Nat.lt_of_lt_of_le V_z_c163.lt (Nat.le_of_eq gq189.symm))
      have ne_z_188_b189 : z_188 ≠ b189 := Nat.ne_of_lt (Nat.lt_of_lt_of_le V_z_c188.lt (Nat.le_of_eq gq189.symm))
      have g_b189 : n0 ≤ b189 := Nat.le_trans (O.1 ▸ O.2.1) (Nat.le_of_eq gq189.symm)
      have sf_b189 := own_safeN C.1 E189 (Nat.le_of_eq gq189.symm)
      have R := CHr.ext E189 C.1
      have C := C.trans R
      have hk := Nat.le_trans hk E189.1
      have V_z_c163 := V_z_c163.ext E189
      have V_z_c188 := V_z_c188.ext E189
      have O := O.ext E189
      have F_value_b189 : Fld Z h189 b189 "java/lang/String" "value" "[B" .null := D189 (Or.inr (hw _ (List.mem_of_getElem? (i := 20) rfl))) (ty := (.array .byte)) (by decide)
      have F_coder_b189 : Fld Z h189 b189 "java/lang/String" "coder" "B" (.int (0 : Int32)) := D189 (Or.inr (hw _ (List.mem_of_getElem? (i := 21) rfl))) (ty := .byte) (by decide)
      have hp_b189 := own_hp2 bc_163 bd_163
      have h9_b189 : 0 < ([c1_163, d1_163] : List Int32).length ∧ ([c1_163, d1_163] : List Int32).length ≤ 2 := ⟨Nat.le_of_ble_eq_true rfl, Nat.le_of_ble_eq_true rfl⟩
      obtain ⟨_, _, ⟨T190, L190, k190, n190⟩, -, X190, ⟨Lc190, hQ190, l190, y190, z190⟩, st190⟩ := X189.specialBack hx (y := (⟨"java/lang/String", "<init>", "([C)V"⟩ : MethodName)) rfl hown (mvT hZ (hw _ (List.mem_of_getElem? (i := 8) rfl))) (mvT hZ (hw _ (List.mem_of_getElem? (i := 9) rfl))) (mvT hZ (hw _ (List.mem_of_getElem? (i := 10) rfl))) (by decide) (StrChars.Road.backV (W := 1) hZ (own_wNew hw) (kI := 4) (hw _ (List.mem_of_getElem? (i := 6) rfl)) (cs := ([c1_163, d1_163] : List Int32)) (bs := (([c1_163, d1_163] : List Int32).map (fun c => c.toInt8.toInt32))) (n := ([c1_163, d1_163] : List Int32).length) g_b189 (O.1 ▸ O.2.1) A189 F_value_b189 F_coder_b189 V_z_c163 (SC.ext O.2) hzc rfl rfl h9_b189.1 (Nat.le_trans h9_b189.2 (by decide)) hp_b189 rfl (by decide) (by decide)) (g := (mkF m 136 (own_F8 i1 i2 i3 i4 i5 i6 v3 v7 (2 : Int32) (1 : Int32) v14 v18 z_163 z_188) [(.ref z_163), (.ref b189), (.ref b189)])) rfl (by rw [hml]; rfl) (Steps.refl _) (a := b189) (argsL := [(.ref z_163)]) (rest := [(.ref b189)]) (lenOf pd__40_91C_41V rfl) rfl (by show 2 * 0 + _ ≤ _; exact Nat.le_of_eq rfl) (hb hby at_136) (fun _ _ => ⟨rfl, e189, (by decide : 3 + 1 ≤ _), Nat.le_trans (Nat.add_le_add_left h9_b189.2 7) (by decide)⟩)
      dsimp only [Pt.U, Pt.locs, Pt.cells, Pt.slots] at X190 l190 y190 z190 st190 hQ190
      subst l190 y190 z190
      have X190 := X190.more (Nat.le_refl _) (Nat.add_le_add_left h9_b189.2 7)
      obtain ⟨rfl, N190q, K190, Ex190, Fc190, t190, kb190, gn190, gz190, nx190, Fv190, Av190⟩ := hQ190
      have N190 := Fr.app N188 N190q
      have ne_z_163_t190 : z_163 ≠ t190 := Nat.ne_of_lt (Nat.lt_of_lt_of_le V_z_c163.lt gz190)
      have ne_z_188_t190 : z_188 ≠ t190 := Nat.ne_of_lt (Nat.lt_of_lt_of_le V_z_c188.lt gz190)
      have ne_b189_t190 : b189 ≠ t190 := Nat.ne_of_lt (Nat.lt_of_lt_of_le A189.lt gz190)
      have R := CHr.keep K190 (allS sf_b189 all0) C.1
      have sf_b189 := R.safe A189.lt sf_b189
      have C := C.trans R
      have hk := Nat.le_trans hk K190.1
      have V_z_c163 := V_z_c163.keep K190 (ninS ne_z_163_b189 nin0)
      have V_z_c188 := V_z_c188.keep K190 (ninS ne_z_188_b189 nin0)
      have A189 := A189.keep K190
      have g_t190 := gn190
      have O := O.keep K190 (allS g_b189 all0)
      obtain ⟨T191, h191, X191, e191, E191, A191, D191, -, st191⟩ := newO X190 hx hZ hown (hw _ (List.mem_of_getElem? (i := 5) rfl)) (hw _ (List.mem_of_getElem? (i := 6) rfl)) (hw _ (List.mem_of_getElem? (i := 7) rfl)) rfl (g := (mkF m 141 (own_F9 i1 i2 i3 i4 i5 i6 v3 v7 (2 : Int32) (1 : Int32) v14 v18 z_163 z_188 b189) [])) rfl (hb hby at_141) (by decide) (by decide)
      obtain ⟨b191, gq191⟩ : ∃ z, z = Array.size T190.heap := ⟨_, rfl⟩
      rw [← gq191] at A191 D191 st191
      have ne_z_163_b191 : z_163 ≠ b191 := Nat.ne_of_lt (Nat.lt_of_lt_of_le V_z_c163.lt (Nat.le_of_eq gq191.symm))
      have ne_z_188_b191 : z_188 ≠ b191 := Nat.ne_of_lt (Nat.lt_of_lt_of_le V_z_c188.lt (Nat.le_of_eq gq191.symm))
      have ne_b189_b191 : b189 ≠ b191 := Nat.ne_of_lt (Nat.lt_of_lt_of_le Ex190.lt (Nat.le_of_eq gq191.symm))
      have ne_t190_b191 : t190 ≠ b191 := Nat.ne_of_lt (Nat.lt_of_lt_of_le Av190.lt (Nat.le_of_eq gq191.symm))
      have g_b191 : n0 ≤ b191 := Nat.le_trans (O.1 ▸ O.2.1) (Nat.le_of_eq gq191.symm)
      have sf_b191 := own_safeN C.1 E191 (Nat.le_of_eq gq191.symm)
      have R := CHr.ext E191 C.1
      have sf_b189 := R.safe Ex190.lt sf_b189
      have C := C.trans R
      have hk := Nat.le_trans hk E191.1
      have V_z_c163 := V_z_c163.ext E191
      have V_z_c188 := V_z_c188.ext E191
      have Ex190 := Ex190.ext E191
      have Fc190 := Fc190.ext E191
      have Fv190 := Fv190.ext E191
      have Av190 := Av190.ext E191
      have O := O.ext E191
      have F_value_b191 : Fld Z h191 b191 "java/lang/String" "value" "[B" .null := D191 (Or.inr (hw _ (List.mem_of_getElem? (i := 20) rfl))) (ty := (.array .byte)) (by decide)
      have F_coder_b191 : Fld Z h191 b191 "java/lang/String" "coder" "B" (.int (0 : Int32)) := D191 (Or.inr (hw _ (List.mem_of_getElem? (i := 21) rfl))) (ty := .byte) (by decide)
      have hp_b191 := own_hp1 bc_188
      have h9_b191 : 0 < ([c1_188] : List Int32).length ∧ ([c1_188] : List Int32).length ≤ 2 := ⟨Nat.le_of_ble_eq_true rfl, Nat.le_of_ble_eq_true rfl⟩
      obtain ⟨_, _, ⟨T192, L192, k192, n192⟩, -, X192, ⟨Lc192, hQ192, l192, y192, z192⟩, st192⟩ := X191.specialBack hx (y := (⟨"java/lang/String", "<init>", "([C)V"⟩ : MethodName)) rfl hown (mvT hZ (hw _ (List.mem_of_getElem? (i := 8) rfl))) (mvT hZ (hw _ (List.mem_of_getElem? (i := 9) rfl))) (mvT hZ (hw _ (List.mem_of_getElem? (i := 10) rfl))) (by decide) (StrChars.Road.backV (W := 1) hZ (own_wNew hw) (kI := 4) (hw _ (List.mem_of_getElem? (i := 6) rfl)) (cs := ([c1_188] : List Int32)) (bs := (([c1_188] : List Int32).map (fun c => c.toInt8.toInt32))) (n := ([c1_188] : List Int32).length) g_b191 (O.1 ▸ O.2.1) A191 F_value_b191 F_coder_b191 V_z_c188 (SC.ext O.2) hzc rfl rfl h9_b191.1 (Nat.le_trans h9_b191.2 (by decide)) hp_b191 rfl (by decide) (by decide)) (g := (mkF m 147 (own_F9 i1 i2 i3 i4 i5 i6 v3 v7 (2 : Int32) (1 : Int32) v14 v18 z_163 z_188 b189) [(.ref z_188), (.ref b191), (.ref b191)])) rfl (by rw [hml]; rfl) (Steps.refl _) (a := b191) (argsL := [(.ref z_188)]) (rest := [(.ref b191)]) (lenOf pd__40_91C_41V rfl) rfl (by show 2 * 0 + _ ≤ _; exact Nat.le_of_eq rfl) (hb hby at_147) (fun _ _ => ⟨rfl, e191, (by decide : 5 + 1 ≤ _), Nat.le_trans (Nat.add_le_add_left h9_b191.2 13) (by decide)⟩)
      dsimp only [Pt.U, Pt.locs, Pt.cells, Pt.slots] at X192 l192 y192 z192 st192 hQ192
      subst l192 y192 z192
      have X192 := X192.more (Nat.le_refl _) (Nat.add_le_add_left h9_b191.2 13)
      obtain ⟨rfl, N192q, K192, Ex192, Fc192, t192, kb192, gn192, gz192, nx192, Fv192, Av192⟩ := hQ192
      have N192 := Fr.app N190 N192q
      have ne_z_163_t192 : z_163 ≠ t192 := Nat.ne_of_lt (Nat.lt_of_lt_of_le V_z_c163.lt gz192)
      have ne_z_188_t192 : z_188 ≠ t192 := Nat.ne_of_lt (Nat.lt_of_lt_of_le V_z_c188.lt gz192)
      have ne_b189_t192 : b189 ≠ t192 := Nat.ne_of_lt (Nat.lt_of_lt_of_le Ex190.lt gz192)
      have ne_t190_t192 : t190 ≠ t192 := Nat.ne_of_lt (Nat.lt_of_lt_of_le Av190.lt gz192)
      have ne_b191_t192 : b191 ≠ t192 := Nat.ne_of_lt (Nat.lt_of_lt_of_le A191.lt gz192)
      have R := CHr.keep K192 (allS sf_b191 all0) C.1
      have sf_b189 := R.safe Ex190.lt sf_b189
      have sf_b191 := R.safe A191.lt sf_b191
      have C := C.trans R
      have hk := Nat.le_trans hk K192.1
      have V_z_c163 := V_z_c163.keep K192 (ninS ne_z_163_b191 nin0)
      have V_z_c188 := V_z_c188.keep K192 (ninS ne_z_188_b191 nin0)
      have Ex190 := Ex190.keep K192
      have Fc190 := Fc190.keep K192 (ninS ne_b189_b191 nin0)
      have Fv190 := Fv190.keep K192 (ninS ne_b189_b191 nin0)
      have Av190 := Av190.keep K192 (ninS ne_t190_b191 nin0)
      have A191 := A191.keep K192
      have g_t192 := gn192
      have O := O.keep K192 (allS g_b191 all0)
      have w193 : ∀ t, Steps p.tables e below (T192.setTop (mkF m 203 (own_F11 i1 i2 i3 i4 i5 i6 v3 v7 (2 : Int32) (1 : Int32) v14 v18 z_163 z_188 b189 b191 (0 : Int32)) [(.int v3), (.int i1)])) t → Steps p.tables e below (s₁.setTop (entryFrame m #[(.int i1), (.int i2), (.int i3), (.int i4), (.int i5), (.int i6)] maxLocals)) t := fun t k => by
        refine w164 t ?_
        refine XS.iload X163.here hx rfl (hb hby at_119) rfl ?_
        show Steps p.tables e below (T163.setTop (mkF m 121 (own_F7 i1 i2 i3 i4 i5 i6 v3 v7 (2 : Int32) (1 : Int32) v14 v18 z_163) [(.int (1 : Int32))])) _
        refine XS.iload X163.here hx rfl (hb hby at_121) rfl ?_
        show Steps p.tables e below (T163.setTop (mkF m 123 (own_F7 i1 i2 i3 i4 i5 i6 v3 v7 (2 : Int32) (1 : Int32) v14 v18 z_163) [(.int v14), (.int (1 : Int32))])) _
        refine XS.iload X163.here hx rfl (hb hby at_123) rfl ?_
        show Steps p.tables e below (T163.setTop (mkF m 125 (own_F7 i1 i2 i3 i4 i5 i6 v3 v7 (2 : Int32) (1 : Int32) v14 v18 z_163) [(.int v18), (.int v14), (.int (1 : Int32))])) _
        refine st188 _ ?_
        show Steps p.tables e below (T188.setTop (mkF m 128 (own_F7 i1 i2 i3 i4 i5 i6 v3 v7 (2 : Int32) (1 : Int32) v14 v18 z_163) [(.ref z_188)])) _
        refine XS.astore X188.here hx rfl (hb hby at_128) rfl rfl (l' := (own_F8 i1 i2 i3 i4 i5 i6 v3 v7 (2 : Int32) (1 : Int32) v14 v18 z_163 z_188)) rfl ?_
        show Steps p.tables e below (T188.setTop (mkF m 130 (own_F8 i1 i2 i3 i4 i5 i6 v3 v7 (2 : Int32) (1 : Int32) v14 v18 z_163 z_188) [])) _
        refine st189 _ ?_
        show Steps p.tables e below (T189.setTop (mkF m 133 (own_F8 i1 i2 i3 i4 i5 i6 v3 v7 (2 : Int32) (1 : Int32) v14 v18 z_163 z_188) [(.ref b189)])) _
        refine XS.dup X189.here hx rfl (hb hby at_133) rfl rfl ?_
        show Steps p.tables e below (T189.setTop (mkF m 134 (own_F8 i1 i2 i3 i4 i5 i6 v3 v7 (2 : Int32) (1 : Int32) v14 v18 z_163 z_188) [(.ref b189), (.ref b189)])) _
        refine XS.aload X189.here hx rfl (hb hby at_134) rfl rfl ?_
        show Steps p.tables e below (T189.setTop (mkF m 136 (own_F8 i1 i2 i3 i4 i5 i6 v3 v7 (2 : Int32) (1 : Int32) v14 v18 z_163 z_188) [(.ref z_163), (.ref b189), (.ref b189)])) _
        refine st190.trans ?_
        show Steps p.tables e below (T190.setTop (mkF m 139 (own_F8 i1 i2 i3 i4 i5 i6 v3 v7 (2 : Int32) (1 : Int32) v14 v18 z_163 z_188) [(.ref b189)])) _
        refine XS.astore X190.here hx rfl (hb hby at_139) rfl rfl (l' := (own_F9 i1 i2 i3 i4 i5 i6 v3 v7 (2 : Int32) (1 : Int32) v14 v18 z_163 z_188 b189)) rfl ?_
        show Steps p.tables e below (T190.setTop (mkF m 141 (own_F9 i1 i2 i3 i4 i5 i6 v3 v7 (2 : Int32) (1 : Int32) v14 v18 z_163 z_188 b189) [])) _
        refine st191 _ ?_
        show Steps p.tables e below (T191.setTop (mkF m 144 (own_F9 i1 i2 i3 i4 i5 i6 v3 v7 (2 : Int32) (1 : Int32) v14 v18 z_163 z_188 b189) [(.ref b191)])) _
        refine XS.dup X191.here hx rfl (hb hby at_144) rfl rfl ?_
        show Steps p.tables e below (T191.setTop (mkF m 145 (own_F9 i1 i2 i3 i4 i5 i6 v3 v7 (2 : Int32) (1 : Int32) v14 v18 z_163 z_188 b189) [(.ref b191), (.ref b191)])) _
        refine XS.aload X191.here hx rfl (hb hby at_145) rfl rfl ?_
        show Steps p.tables e below (T191.setTop (mkF m 147 (own_F9 i1 i2 i3 i4 i5 i6 v3 v7 (2 : Int32) (1 : Int32) v14 v18 z_163 z_188 b189) [(.ref z_188), (.ref b191), (.ref b191)])) _
        refine st192.trans ?_
        show Steps p.tables e below (T192.setTop (mkF m 150 (own_F9 i1 i2 i3 i4 i5 i6 v3 v7 (2 : Int32) (1 : Int32) v14 v18 z_163 z_188 b189) [(.ref b191)])) _
        refine XS.astore X192.here hx rfl (hb hby at_150) rfl rfl (l' := (own_F10 i1 i2 i3 i4 i5 i6 v3 v7 (2 : Int32) (1 : Int32) v14 v18 z_163 z_188 b189 b191)) rfl ?_
        show Steps p.tables e below (T192.setTop (mkF m 152 (own_F10 i1 i2 i3 i4 i5 i6 v3 v7 (2 : Int32) (1 : Int32) v14 v18 z_163 z_188 b189 b191) [])) _
        refine XS.iload X192.here hx rfl (hb hby at_152) rfl ?_
        show Steps p.tables e below (T192.setTop (mkF m 154 (own_F10 i1 i2 i3 i4 i5 i6 v3 v7 (2 : Int32) (1 : Int32) v14 v18 z_163 z_188 b189 b191) [(.int (2 : Int32))])) _
        refine XS.iload X192.here hx rfl (hb hby at_154) rfl ?_
        show Steps p.tables e below (T192.setTop (mkF m 156 (own_F10 i1 i2 i3 i4 i5 i6 v3 v7 (2 : Int32) (1 : Int32) v14 v18 z_163 z_188 b189 b191) [(.int (1 : Int32)), (.int (2 : Int32))])) _
        refine XS.icmpYes X192.here hx rfl (pc0 := 156) (pc' := 197) rfl (hb hby at_156) rfl (feq ((by decide) : ¬ ((2 : Int32) = (1 : Int32)))).2 (by decide) (by decide) ?_
        show Steps p.tables e below (T192.setTop (mkF m 197 (own_F10 i1 i2 i3 i4 i5 i6 v3 v7 (2 : Int32) (1 : Int32) v14 v18 z_163 z_188 b189 b191) [])) _
        refine XS.iconst X192.here hx rfl (hb hby at_197) ?_
        show Steps p.tables e below (T192.setTop (mkF m 198 (own_F10 i1 i2 i3 i4 i5 i6 v3 v7 (2 : Int32) (1 : Int32) v14 v18 z_163 z_188 b189 b191) [(.int (0 : Int32))])) _
        refine XS.istore X192.here hx rfl (hb hby at_198) rfl (l' := (own_F11 i1 i2 i3 i4 i5 i6 v3 v7 (2 : Int32) (1 : Int32) v14 v18 z_163 z_188 b189 b191 (0 : Int32))) rfl ?_
        show Steps p.tables e below (T192.setTop (mkF m 200 (own_F11 i1 i2 i3 i4 i5 i6 v3 v7 (2 : Int32) (1 : Int32) v14 v18 z_163 z_188 b189 b191 (0 : Int32)) [])) _
        refine XS.iloadN X192.here hx rfl (hb hby at_200) rfl ?_
        show Steps p.tables e below (T192.setTop (mkF m 201 (own_F11 i1 i2 i3 i4 i5 i6 v3 v7 (2 : Int32) (1 : Int32) v14 v18 z_163 z_188 b189 b191 (0 : Int32)) [(.int i1)])) _
        refine XS.iload X192.here hx rfl (hb hby at_201) rfl ?_
        show Steps p.tables e below (T192.setTop (mkF m 203 (own_F11 i1 i2 i3 i4 i5 i6 v3 v7 (2 : Int32) (1 : Int32) v14 v18 z_163 z_188 b189 b191 (0 : Int32)) [(.int v3), (.int i1)])) _
        exact k
      have w196 : ∀ t, Steps p.tables e below (T192.setTop (mkF m 222 (own_F11 i1 i2 i3 i4 i5 i6 v3 v7 (2 : Int32) (1 : Int32) v14 v18 z_163 z_188 b189 b191 (0 : Int32)) [(.int (0 : Int32))])) t → Steps p.tables e below (s₁.setTop (entryFrame m #[(.int i1), (.int i2), (.int i3), (.int i4), (.int i5), (.int i6)] maxLocals)) t := fun t k => by
        refine w193 t ?_
        show Steps p.tables e below (T192.setTop (mkF m 203 (own_F11 i1 i2 i3 i4 i5 i6 v3 v7 (2 : Int32) (1 : Int32) v14 v18 z_163 z_188 b189 b191 (0 : Int32)) [(.int v3), (.int i1)])) _
        by_cases hm194 : i1 = v3
        · refine XS.icmpNo X192.here hx rfl (hb hby at_203) rfl (teq hm194).2 ?_
          show Steps p.tables e below (T192.setTop (mkF m 206 (own_F11 i1 i2 i3 i4 i5 i6 v3 v7 (2 : Int32) (1 : Int32) v14 v18 z_163 z_188 b189 b191 (0 : Int32)) [])) _
          refine XS.iloadN X192.here hx rfl (hb hby at_206) rfl ?_
          show Steps p.tables e below (T192.setTop (mkF m 207 (own_F11 i1 i2 i3 i4 i5 i6 v3 v7 (2 : Int32) (1 : Int32) v14 v18 z_163 z_188 b189 b191 (0 : Int32)) [(.int i3)])) _
          refine XS.iload X192.here hx rfl (hb hby at_207) rfl ?_
          show Steps p.tables e below (T192.setTop (mkF m 209 (own_F11 i1 i2 i3 i4 i5 i6 v3 v7 (2 : Int32) (1 : Int32) v14 v18 z_163 z_188 b189 b191 (0 : Int32)) [(.int v7), (.int i3)])) _
          by_cases hm195 : i3 = v7
          · refine XS.icmpNo X192.here hx rfl (hb hby at_209) rfl (teq hm195).2 ?_
            show Steps p.tables e below (T192.setTop (mkF m 212 (own_F11 i1 i2 i3 i4 i5 i6 v3 v7 (2 : Int32) (1 : Int32) v14 v18 z_163 z_188 b189 b191 (0 : Int32)) [])) _
            refine XS.iload X192.here hx rfl (hb hby at_212) rfl ?_
            show Steps p.tables e below (T192.setTop (mkF m 214 (own_F11 i1 i2 i3 i4 i5 i6 v3 v7 (2 : Int32) (1 : Int32) v14 v18 z_163 z_188 b189 b191 (0 : Int32)) [(.int (0 : Int32))])) _
            refine XS.ifYes X192.here hx rfl (pc0 := 214) (pc' := 221) rfl (hb hby at_214) rfl ((if0 _ _).trans (teq ((by decide) : (0 : Int32) = (0 : Int32))).1) (by decide) (by decide) ?_
            show Steps p.tables e below (T192.setTop (mkF m 221 (own_F11 i1 i2 i3 i4 i5 i6 v3 v7 (2 : Int32) (1 : Int32) v14 v18 z_163 z_188 b189 b191 (0 : Int32)) [])) _
            refine XS.iconst X192.here hx rfl (hb hby at_221) ?_
            show Steps p.tables e below (T192.setTop (mkF m 222 (own_F11 i1 i2 i3 i4 i5 i6 v3 v7 (2 : Int32) (1 : Int32) v14 v18 z_163 z_188 b189 b191 (0 : Int32)) [(.int (0 : Int32))])) _
            exact k
          · refine XS.icmpYes X192.here hx rfl (pc0 := 209) (pc' := 221) rfl (hb hby at_209) rfl (feq hm195).2 (by decide) (by decide) ?_
            show Steps p.tables e below (T192.setTop (mkF m 221 (own_F11 i1 i2 i3 i4 i5 i6 v3 v7 (2 : Int32) (1 : Int32) v14 v18 z_163 z_188 b189 b191 (0 : Int32)) [])) _
            refine XS.iconst X192.here hx rfl (hb hby at_221) ?_
            show Steps p.tables e below (T192.setTop (mkF m 222 (own_F11 i1 i2 i3 i4 i5 i6 v3 v7 (2 : Int32) (1 : Int32) v14 v18 z_163 z_188 b189 b191 (0 : Int32)) [(.int (0 : Int32))])) _
            exact k
        · refine XS.icmpYes X192.here hx rfl (pc0 := 203) (pc' := 221) rfl (hb hby at_203) rfl (feq hm194).2 (by decide) (by decide) ?_
          show Steps p.tables e below (T192.setTop (mkF m 221 (own_F11 i1 i2 i3 i4 i5 i6 v3 v7 (2 : Int32) (1 : Int32) v14 v18 z_163 z_188 b189 b191 (0 : Int32)) [])) _
          refine XS.iconst X192.here hx rfl (hb hby at_221) ?_
          show Steps p.tables e below (T192.setTop (mkF m 222 (own_F11 i1 i2 i3 i4 i5 i6 v3 v7 (2 : Int32) (1 : Int32) v14 v18 z_163 z_188 b189 b191 (0 : Int32)) [(.int (0 : Int32))])) _
          exact k
      obtain ⟨T197, h197, X197, e197, E197, A197, D197, -, st197⟩ := newO X192 hx hZ hown (hw _ (List.mem_of_getElem? (i := 26) rfl)) (hw _ (List.mem_of_getElem? (i := 27) rfl)) (hw _ (List.mem_of_getElem? (i := 28) rfl)) rfl (g := (mkF m 224 (own_F12 i1 i2 i3 i4 i5 i6 v3 v7 (2 : Int32) (1 : Int32) v14 v18 z_163 z_188 b189 b191 (0 : Int32) (0 : Int32)) [])) rfl (hb hby at_224) (by decide) (by decide)
      obtain ⟨b197, gq197⟩ : ∃ z, z = Array.size T192.heap := ⟨_, rfl⟩
      rw [← gq197] at A197 D197 st197
      have ne_z_163_b197 : z_163 ≠ b197 := Nat.ne_of_lt (Nat.lt_of_lt_of_le V_z_c163.lt (Nat.le_of_eq gq197.symm))
      have ne_z_188_b197 : z_188 ≠ b197 := Nat.ne_of_lt (Nat.lt_of_lt_of_le V_z_c188.lt (Nat.le_of_eq gq197.symm))
      have ne_b189_b197 : b189 ≠ b197 := Nat.ne_of_lt (Nat.lt_of_lt_of_le Ex190.lt (Nat.le_of_eq gq197.symm))
      have ne_t190_b197 : t190 ≠ b197 := Nat.ne_of_lt (Nat.lt_of_lt_of_le Av190.lt (Nat.le_of_eq gq197.symm))
      have ne_b191_b197 : b191 ≠ b197 := Nat.ne_of_lt (Nat.lt_of_lt_of_le Ex192.lt (Nat.le_of_eq gq197.symm))
      have ne_t192_b197 : t192 ≠ b197 := Nat.ne_of_lt (Nat.lt_of_lt_of_le Av192.lt (Nat.le_of_eq gq197.symm))
      have g_b197 : n0 ≤ b197 := Nat.le_trans (O.1 ▸ O.2.1) (Nat.le_of_eq gq197.symm)
      have sf_b197 := own_safeN C.1 E197 (Nat.le_of_eq gq197.symm)
      have R := CHr.ext E197 C.1
      have sf_b189 := R.safe Ex190.lt sf_b189
      have sf_b191 := R.safe Ex192.lt sf_b191
      have C := C.trans R
      have hk := Nat.le_trans hk E197.1
      have V_z_c163 := V_z_c163.ext E197
      have V_z_c188 := V_z_c188.ext E197
      have Ex190 := Ex190.ext E197
      have Fc190 := Fc190.ext E197
      have Fv190 := Fv190.ext E197
      have Av190 := Av190.ext E197
      have Ex192 := Ex192.ext E197
      have Fc192 := Fc192.ext E197
      have Fv192 := Fv192.ext E197
      have Av192 := Av192.ext E197
      have O := O.ext E197
      have F_id_b197 : Fld Z h197 b197 "com/example/whirligig/whirligig/DownloadInfoIndication$Unreadable" "id" "I" (.int (0 : Int32)) := D197 (Or.inr (hw _ (List.mem_of_getElem? (i := 39) rfl))) (ty := .int) (by decide)
      have F_version_b197 : Fld Z h197 b197 "com/example/whirligig/whirligig/DownloadInfoIndication$Unreadable" "version" "I" (.int (0 : Int32)) := D197 (Or.inr (hw _ (List.mem_of_getElem? (i := 41) rfl))) (ty := .int) (by decide)
      have F_reason_b197 : Fld Z h197 b197 "com/example/whirligig/whirligig/DownloadInfoIndication$Unreadable" "reason" "Ljava/lang/String;" .null := D197 (Or.inr (hw _ (List.mem_of_getElem? (i := 43) rfl))) (ty := (.object "java/lang/String")) (by decide)
      obtain ⟨_, _, ⟨T198, L198, k198, n198⟩, -, X198, ⟨Lc198, hQ198, l198, y198, z198⟩, st198⟩ := X197.specialBack hx (y := (⟨"com/example/whirligig/whirligig/DownloadInfoIndication$Unreadable", "<init>", "(IILjava/lang/String;)V"⟩ : MethodName)) rfl hown (mvT hZ (hw _ (List.mem_of_getElem? (i := 29) rfl))) (mvT hZ (hw _ (List.mem_of_getElem? (i := 30) rfl))) (mvT hZ (hw _ (List.mem_of_getElem? (i := 31) rfl))) (by decide) (backOf (W := 1) (rm5 l Z a0 hw [] b197 i1 i3 b189 h197 n0 O A197 F_id_b197 F_version_b197 F_reason_b197 g_b197) hZ (hw _ (List.mem_of_getElem? (i := 31) rfl)) (hw _ (List.mem_of_getElem? (i := 28) rfl)) (by decide) (by decide)) (g := (mkF m 232 (own_F12 i1 i2 i3 i4 i5 i6 v3 v7 (2 : Int32) (1 : Int32) v14 v18 z_163 z_188 b189 b191 (0 : Int32) (0 : Int32)) [(.ref b189), (.int i3), (.int i1), (.ref b197), (.ref b197)])) rfl (by rw [hml]; rfl) (Steps.refl _) (a := b197) (argsL := [(.int i1), (.int i3), (.ref b189)]) (rest := [(.ref b197)]) (lenOf pd__40IILjava_47lang_47String_59_41V rfl) rfl (by show 2 * 0 + _ ≤ _; exact Nat.le_of_eq rfl) (hb hby at_232) (fun _ _ => ⟨rfl, e197, (by decide : 7 + 0 ≤ _), (by decide : 18 + 0 ≤ _)⟩)
      dsimp only [Pt.U, Pt.locs, Pt.cells, Pt.slots] at X198 l198 y198 z198 st198 hQ198
      subst l198 y198 z198
      obtain ⟨rfl, N198q, K198, F_i_a_c198, F_w_a_c198, F_r_a_c198⟩ := hQ198
      have N198 := Fr.app N192 N198q
      have R := CHr.keep K198 (allS sf_b197 all0) C.1
      have sf_b189 := R.safe Ex190.lt sf_b189
      have sf_b191 := R.safe Ex192.lt sf_b191
      have sf_b197 := R.safe A197.lt sf_b197
      have C := C.trans R
      have hk := Nat.le_trans hk K198.1
      have V_z_c163 := V_z_c163.keep K198 (ninS ne_z_163_b197 nin0)
      have V_z_c188 := V_z_c188.keep K198 (ninS ne_z_188_b197 nin0)
      have Ex190 := Ex190.keep K198
      have Fc190 := Fc190.keep K198 (ninS ne_b189_b197 nin0)
      have Fv190 := Fv190.keep K198 (ninS ne_b189_b197 nin0)
      have Av190 := Av190.keep K198 (ninS ne_t190_b197 nin0)
      have Ex192 := Ex192.keep K198
      have Fc192 := Fc192.keep K198 (ninS ne_b191_b197 nin0)
      have Fv192 := Fv192.keep K198 (ninS ne_b191_b197 nin0)
      have Av192 := Av192.keep K198 (ninS ne_t192_b197 nin0)
      have A197 := A197.keep K198
      have O := O.keep K198 (allS g_b197 all0)
      obtain ⟨T199, h199, X199, e199, E199, A199, D199, -, st199⟩ := newO X198 hx hZ hown (hw _ (List.mem_of_getElem? (i := 26) rfl)) (hw _ (List.mem_of_getElem? (i := 27) rfl)) (hw _ (List.mem_of_getElem? (i := 28) rfl)) rfl (g := (mkF m 237 (own_F13 i1 i2 i3 i4 i5 i6 v3 v7 (2 : Int32) (1 : Int32) v14 v18 z_163 z_188 b189 b191 (0 : Int32) (0 : Int32) b197) [])) rfl (hb hby at_237) (by decide) (by decide)
      obtain ⟨b199, gq199⟩ : ∃ z, z = Array.size T198.heap := ⟨_, rfl⟩
      rw [← gq199] at A199 D199 st199
      have ne_z_163_b199 : z_163 ≠ b199 := Nat.ne_of_lt (Nat.lt_of_lt_of_le V_z_c163.lt (Nat.le_of_eq gq199.symm))
      have ne_z_188_b199 : z_188 ≠ b199 := Nat.ne_of_lt (Nat.lt_of_lt_of_le V_z_c188.lt (Nat.le_of_eq gq199.symm))
      have ne_b189_b199 : b189 ≠ b199 := Nat.ne_of_lt (Nat.lt_of_lt_of_le Ex190.lt (Nat.le_of_eq gq199.symm))
      have ne_t190_b199 : t190 ≠ b199 := Nat.ne_of_lt (Nat.lt_of_lt_of_le Av190.lt (Nat.le_of_eq gq199.symm))
      have ne_b191_b199 : b191 ≠ b199 := Nat.ne_of_lt (Nat.lt_of_lt_of_le Ex192.lt (Nat.le_of_eq gq199.symm))
      have ne_t192_b199 : t192 ≠ b199 := Nat.ne_of_lt (Nat.lt_of_lt_of_le Av192.lt (Nat.le_of_eq gq199.symm))
      have ne_b197_b199 : b197 ≠ b199 := Nat.ne_of_lt (Nat.lt_of_lt_of_le A197.lt (Nat.le_of_eq gq199.symm))
      have g_b199 : n0 ≤ b199 := Nat.le_trans (O.1 ▸ O.2.1) (Nat.le_of_eq gq199.symm)
      have sf_b199 := own_safeN C.1 E199 (Nat.le_of_eq gq199.symm)
      have R := CHr.ext E199 C.1
      have sf_b189 := R.safe Ex190.lt sf_b189
      have sf_b191 := R.safe Ex192.lt sf_b191
      have sf_b197 := R.safe A197.lt sf_b197
      have C := C.trans R
      have hk := Nat.le_trans hk E199.1
      have V_z_c163 := V_z_c163.ext E199
      have V_z_c188 := V_z_c188.ext E199
      have Ex190 := Ex190.ext E199
      have Fc190 := Fc190.ext E199
      have Fv190 := Fv190.ext E199
      have Av190 := Av190.ext E199
      have Ex192 := Ex192.ext E199
      have Fc192 := Fc192.ext E199
      have Fv192 := Fv192.ext E199
      have Av192 := Av192.ext E199
      have A197 := A197.ext E199
      have F_i_a_c198 := F_i_a_c198.ext E199
      have F_w_a_c198 := F_w_a_c198.ext E199
      have F_r_a_c198 := F_r_a_c198.ext E199
      have O := O.ext E199
      have F_id_b199 : Fld Z h199 b199 "com/example/whirligig/whirligig/DownloadInfoIndication$Unreadable" "id" "I" (.int (0 : Int32)) := D199 (Or.inr (hw _ (List.mem_of_getElem? (i := 39) rfl))) (ty := .int) (by decide)
      have F_version_b199 : Fld Z h199 b199 "com/example/whirligig/whirligig/DownloadInfoIndication$Unreadable" "version" "I" (.int (0 : Int32)) := D199 (Or.inr (hw _ (List.mem_of_getElem? (i := 41) rfl))) (ty := .int) (by decide)
      have F_reason_b199 : Fld Z h199 b199 "com/example/whirligig/whirligig/DownloadInfoIndication$Unreadable" "reason" "Ljava/lang/String;" .null := D199 (Or.inr (hw _ (List.mem_of_getElem? (i := 43) rfl))) (ty := (.object "java/lang/String")) (by decide)
      obtain ⟨_, _, ⟨T200, L200, k200, n200⟩, -, X200, ⟨Lc200, hQ200, l200, y200, z200⟩, st200⟩ := X199.specialBack hx (y := (⟨"com/example/whirligig/whirligig/DownloadInfoIndication$Unreadable", "<init>", "(IILjava/lang/String;)V"⟩ : MethodName)) rfl hown (mvT hZ (hw _ (List.mem_of_getElem? (i := 29) rfl))) (mvT hZ (hw _ (List.mem_of_getElem? (i := 30) rfl))) (mvT hZ (hw _ (List.mem_of_getElem? (i := 31) rfl))) (by decide) (backOf (W := 1) (rm5 l Z a0 hw [] b199 v3 v7 b191 h199 n0 O A199 F_id_b199 F_version_b199 F_reason_b199 g_b199) hZ (hw _ (List.mem_of_getElem? (i := 31) rfl)) (hw _ (List.mem_of_getElem? (i := 28) rfl)) (by decide) (by decide)) (g := (mkF m 247 (own_F13 i1 i2 i3 i4 i5 i6 v3 v7 (2 : Int32) (1 : Int32) v14 v18 z_163 z_188 b189 b191 (0 : Int32) (0 : Int32) b197) [(.ref b191), (.int v7), (.int v3), (.ref b199), (.ref b199)])) rfl (by rw [hml]; rfl) (Steps.refl _) (a := b199) (argsL := [(.int v3), (.int v7), (.ref b191)]) (rest := [(.ref b199)]) (lenOf pd__40IILjava_47lang_47String_59_41V rfl) rfl (by show 2 * 0 + _ ≤ _; exact Nat.le_of_eq rfl) (hb hby at_247) (fun _ _ => ⟨rfl, e199, (by decide : 8 + 0 ≤ _), (by decide : 21 + 0 ≤ _)⟩)
      dsimp only [Pt.U, Pt.locs, Pt.cells, Pt.slots] at X200 l200 y200 z200 st200 hQ200
      subst l200 y200 z200
      obtain ⟨rfl, N200q, K200, F_i_a_c200, F_w_a_c200, F_r_a_c200⟩ := hQ200
      have N200 := Fr.app N198 N200q
      have R := CHr.keep K200 (allS sf_b199 all0) C.1
      have sf_b189 := R.safe Ex190.lt sf_b189
      have sf_b191 := R.safe Ex192.lt sf_b191
      have sf_b197 := R.safe A197.lt sf_b197
      have sf_b199 := R.safe A199.lt sf_b199
      have C := C.trans R
      have hk := Nat.le_trans hk K200.1
      have V_z_c163 := V_z_c163.keep K200 (ninS ne_z_163_b199 nin0)
      have V_z_c188 := V_z_c188.keep K200 (ninS ne_z_188_b199 nin0)
      have Ex190 := Ex190.keep K200
      have Fc190 := Fc190.keep K200 (ninS ne_b189_b199 nin0)
      have Fv190 := Fv190.keep K200 (ninS ne_b189_b199 nin0)
      have Av190 := Av190.keep K200 (ninS ne_t190_b199 nin0)
      have Ex192 := Ex192.keep K200
      have Fc192 := Fc192.keep K200 (ninS ne_b191_b199 nin0)
      have Fv192 := Fv192.keep K200 (ninS ne_b191_b199 nin0)
      have Av192 := Av192.keep K200 (ninS ne_t192_b199 nin0)
      have A197 := A197.keep K200
      have F_i_a_c198 := F_i_a_c198.keep K200 (ninS ne_b197_b199 nin0)
      have F_w_a_c198 := F_w_a_c198.keep K200 (ninS ne_b197_b199 nin0)
      have F_r_a_c198 := F_r_a_c198.keep K200 (ninS ne_b197_b199 nin0)
      have A199 := A199.keep K200
      have O := O.keep K200 (allS g_b199 all0)
      obtain ⟨cq201, kq201, q201a, q201b, q201c⟩ := isOf hZ rfl A197
      obtain ⟨_, _, ⟨T201, L201, k201, n201⟩, -, X201, ⟨Lc201, hQ201, l201, y201, z201⟩, st201⟩ := X200.virtualBack hx (y := (⟨"com/example/whirligig/whirligig/DownloadInfoIndication$Unreadable", "equals", "(Ljava/lang/Object;)Z"⟩ : MethodName)) (z := (⟨"com/example/whirligig/whirligig/DownloadInfoIndication$Unreadable", "equals", "(Ljava/lang/Object;)Z"⟩ : MethodName)) hown (mvT hZ (hw _ (List.mem_of_getElem? (i := 44) rfl))) (mvT hZ (hw _ (List.mem_of_getElem? (i := 45) rfl))) (notFace_of_selects (args := #[]) (mvT hZ (hw _ (List.mem_of_getElem? (i := 47) rfl)))) (mvT hZ (hw _ (List.mem_of_getElem? (i := 47) rfl))) (mvT hZ (hw _ (List.mem_of_getElem? (i := 46) rfl))) (by decide) (backOf (W := 0) (rm7 l Z a0 hw [] b197 b199 i1 v3 i3 v7 b189 b191 t190 t192 kb190 kb192 ([c1_163, d1_163] : List Int32) ([c1_188] : List Int32) zc T200.heap n0 O A199 F_i_a_c198 F_i_a_c200 F_w_a_c198 F_w_a_c200 F_r_a_c198 F_r_a_c200 Ex190 Fv190 Fc190 Av190 Ex192 Fv192 Fc192 Av192 hp_b189 (Nat.le_trans h9_b189.2 (by decide)) hp_b191 (Nat.le_trans h9_b191.2 (by decide)) SC hzc) hZ (hw _ (List.mem_of_getElem? (i := 48) rfl)) (hw _ (List.mem_of_getElem? (i := 28) rfl)) (by decide) (by decide)) q201a q201c (g := (mkF m 264 (own_F16 i1 i2 i3 i4 i5 i6 v3 v7 (2 : Int32) (1 : Int32) v14 v18 z_163 z_188 b189 b191 (0 : Int32) (0 : Int32) b197 b199 b199 b197) [(.ref b199), (.ref b197)])) rfl (by rw [hml]; rfl) (Steps.refl _) (argsL := [(.ref b199)]) (rest := []) (lenOf pd__40Ljava_47lang_47Object_59_41Z rfl) rfl (by show 2 * 0 + _ ≤ _; exact Nat.le_of_eq rfl) (hb hby at_264) (fun _ _ => ⟨rfl, rfl, (by decide : 8 + 0 ≤ _), (by decide : 21 + 0 ≤ _)⟩)
      dsimp only [Pt.U, Pt.locs, Pt.cells, Pt.slots] at X201 l201 y201 z201 st201 hQ201
      subst l201 y201 z201
      obtain ⟨rfl, N201q, eh201⟩ := hQ201
      have N201 := Fr.app N200 N201q
      obtain ⟨cq202, kq202, q202a, q202b, q202c⟩ := isOf hZ eh201 A199
      obtain ⟨_, _, ⟨T202, L202, k202, n202⟩, -, X202, ⟨Lc202, hQ202, l202, y202, z202⟩, st202⟩ := X201.virtualBack hx (y := (⟨"com/example/whirligig/whirligig/DownloadInfoIndication$Unreadable", "equals", "(Ljava/lang/Object;)Z"⟩ : MethodName)) (z := (⟨"com/example/whirligig/whirligig/DownloadInfoIndication$Unreadable", "equals", "(Ljava/lang/Object;)Z"⟩ : MethodName)) hown (mvT hZ (hw _ (List.mem_of_getElem? (i := 44) rfl))) (mvT hZ (hw _ (List.mem_of_getElem? (i := 45) rfl))) (notFace_of_selects (args := #[]) (mvT hZ (hw _ (List.mem_of_getElem? (i := 47) rfl)))) (mvT hZ (hw _ (List.mem_of_getElem? (i := 47) rfl))) (mvT hZ (hw _ (List.mem_of_getElem? (i := 46) rfl))) (by decide) (backOf (W := 0) (rm7 l Z a0 hw [] b199 b197 v3 i1 v7 i3 b191 b189 t192 t190 kb192 kb190 ([c1_188] : List Int32) ([c1_163, d1_163] : List Int32) zc T200.heap n0 O A197 F_i_a_c200 F_i_a_c198 F_w_a_c200 F_w_a_c198 F_r_a_c200 F_r_a_c198 Ex192 Fv192 Fc192 Av192 Ex190 Fv190 Fc190 Av190 hp_b191 (Nat.le_trans h9_b191.2 (by decide)) hp_b189 (Nat.le_trans h9_b189.2 (by decide)) SC hzc) hZ (hw _ (List.mem_of_getElem? (i := 48) rfl)) (hw _ (List.mem_of_getElem? (i := 28) rfl)) (by decide) (by decide)) q202a q202c (g := (mkF m 276 (own_F16 i1 i2 i3 i4 i5 i6 v3 v7 (2 : Int32) (1 : Int32) v14 v18 z_163 z_188 b189 b191 (0 : Int32) (0 : Int32) b197 b199 b199 b197) [(.ref b197), (.ref b199)])) rfl (by rw [hml]; rfl) (Steps.refl _) (argsL := [(.ref b197)]) (rest := []) (lenOf pd__40Ljava_47lang_47Object_59_41Z rfl) rfl (by show 2 * 0 + _ ≤ _; exact Nat.le_of_eq rfl) (hb hby at_276) (fun _ _ => ⟨rfl, eh201, (by decide : 8 + 0 ≤ _), (by decide : 21 + 0 ≤ _)⟩)
      dsimp only [Pt.U, Pt.locs, Pt.cells, Pt.slots] at X202 l202 y202 z202 st202 hQ202
      subst l202 y202 z202
      obtain ⟨rfl, N202q, eh202⟩ := hQ202
      have N202 := Fr.app N201 N202q
      obtain ⟨cq203, kq203, q203a, q203b, q203c⟩ := isOf hZ eh202 A197
      obtain ⟨_, _, ⟨T203, L203, k203, n203⟩, -, X203, ⟨Lc203, hQ203, l203, y203, z203⟩, st203⟩ := X202.virtualBack hx (y := (⟨"com/example/whirligig/whirligig/DownloadInfoIndication$Unreadable", "equals", "(Ljava/lang/Object;)Z"⟩ : MethodName)) (z := (⟨"com/example/whirligig/whirligig/DownloadInfoIndication$Unreadable", "equals", "(Ljava/lang/Object;)Z"⟩ : MethodName)) hown (mvT hZ (hw _ (List.mem_of_getElem? (i := 44) rfl))) (mvT hZ (hw _ (List.mem_of_getElem? (i := 45) rfl))) (notFace_of_selects (args := #[]) (mvT hZ (hw _ (List.mem_of_getElem? (i := 47) rfl)))) (mvT hZ (hw _ (List.mem_of_getElem? (i := 47) rfl))) (mvT hZ (hw _ (List.mem_of_getElem? (i := 46) rfl))) (by decide) (backOf (W := 0) (rm7 l Z a0 hw [] b197 b197 i1 i1 i3 i3 b189 b189 t190 t190 kb190 kb190 ([c1_163, d1_163] : List Int32) ([c1_163, d1_163] : List Int32) zc T200.heap n0 O A197 F_i_a_c198 F_i_a_c198 F_w_a_c198 F_w_a_c198 F_r_a_c198 F_r_a_c198 Ex190 Fv190 Fc190 Av190 Ex190 Fv190 Fc190 Av190 hp_b189 (Nat.le_trans h9_b189.2 (by decide)) hp_b189 (Nat.le_trans h9_b189.2 (by decide)) SC hzc) hZ (hw _ (List.mem_of_getElem? (i := 48) rfl)) (hw _ (List.mem_of_getElem? (i := 28) rfl)) (by decide) (by decide)) q203a q203c (g := (mkF m 288 (own_F16 i1 i2 i3 i4 i5 i6 v3 v7 (2 : Int32) (1 : Int32) v14 v18 z_163 z_188 b189 b191 (0 : Int32) (0 : Int32) b197 b199 b199 b197) [(.ref b197), (.ref b197)])) rfl (by rw [hml]; rfl) (Steps.refl _) (argsL := [(.ref b197)]) (rest := []) (lenOf pd__40Ljava_47lang_47Object_59_41Z rfl) rfl (by show 2 * 0 + _ ≤ _; exact Nat.le_of_eq rfl) (hb hby at_288) (fun _ _ => ⟨rfl, eh202, (by decide : 8 + 0 ≤ _), (by decide : 21 + 0 ≤ _)⟩)
      dsimp only [Pt.U, Pt.locs, Pt.cells, Pt.slots] at X203 l203 y203 z203 st203 hQ203
      subst l203 y203 z203
      obtain ⟨rfl, N203q, eh203⟩ := hQ203
      have N203 := Fr.app N202 N203q
      obtain ⟨cq204, kq204, q204a, q204b, q204c⟩ := isOf hZ eh203 A197
      obtain ⟨_, _, ⟨T204, L204, k204, n204⟩, -, X204, ⟨Lc204, hQ204, l204, y204, z204⟩, st204⟩ := X203.virtualBack hx (y := (⟨"com/example/whirligig/whirligig/DownloadInfoIndication$Unreadable", "equals", "(Ljava/lang/Object;)Z"⟩ : MethodName)) (z := (⟨"com/example/whirligig/whirligig/DownloadInfoIndication$Unreadable", "equals", "(Ljava/lang/Object;)Z"⟩ : MethodName)) hown (mvT hZ (hw _ (List.mem_of_getElem? (i := 44) rfl))) (mvT hZ (hw _ (List.mem_of_getElem? (i := 45) rfl))) (notFace_of_selects (args := #[]) (mvT hZ (hw _ (List.mem_of_getElem? (i := 47) rfl)))) (mvT hZ (hw _ (List.mem_of_getElem? (i := 47) rfl))) (mvT hZ (hw _ (List.mem_of_getElem? (i := 46) rfl))) (by decide) (backOf (W := 0) (rm7_n l Z a0 hw [] b197 T200.heap n0 O ) hZ (hw _ (List.mem_of_getElem? (i := 48) rfl)) (hw _ (List.mem_of_getElem? (i := 28) rfl)) (by decide) (by decide)) q204a q204c (g := (mkF m 297 (own_F16 i1 i2 i3 i4 i5 i6 v3 v7 (2 : Int32) (1 : Int32) v14 v18 z_163 z_188 b189 b191 (0 : Int32) (0 : Int32) b197 b199 b199 b197) [.null, (.ref b197)])) rfl (by rw [hml]; rfl) (Steps.refl _) (argsL := [.null]) (rest := []) (lenOf pd__40Ljava_47lang_47Object_59_41Z rfl) rfl (by show 2 * 0 + _ ≤ _; exact Nat.le_of_eq rfl) (hb hby at_297) (fun _ _ => ⟨rfl, eh203, (by decide : 8 + 0 ≤ _), (by decide : 21 + 0 ≤ _)⟩)
      dsimp only [Pt.U, Pt.locs, Pt.cells, Pt.slots] at X204 l204 y204 z204 st204 hQ204
      subst l204 y204 z204
      obtain ⟨rfl, N204q, eh204⟩ := hQ204
      have N204 := Fr.app N203 N204q
      obtain ⟨cq205, kq205, q205a, q205b, q205c⟩ := isOf hZ eh204 A197
      obtain ⟨_, _, ⟨T205, L205, k205, n205⟩, -, X205, ⟨Lc205, hQ205, l205, y205, z205⟩, st205⟩ := X204.virtualBack hx (y := (⟨"com/example/whirligig/whirligig/DownloadInfoIndication$Unreadable", "equals", "(Ljava/lang/Object;)Z"⟩ : MethodName)) (z := (⟨"com/example/whirligig/whirligig/DownloadInfoIndication$Unreadable", "equals", "(Ljava/lang/Object;)Z"⟩ : MethodName)) hown (mvT hZ (hw _ (List.mem_of_getElem? (i := 44) rfl))) (mvT hZ (hw _ (List.mem_of_getElem? (i := 45) rfl))) (notFace_of_selects (args := #[]) (mvT hZ (hw _ (List.mem_of_getElem? (i := 47) rfl)))) (mvT hZ (hw _ (List.mem_of_getElem? (i := 47) rfl))) (mvT hZ (hw _ (List.mem_of_getElem? (i := 46) rfl))) (by decide) (backOf (W := 0) (rm7_S l Z a0 hw [] b197 b189 T200.heap n0 O Ex190) hZ (hw _ (List.mem_of_getElem? (i := 48) rfl)) (hw _ (List.mem_of_getElem? (i := 28) rfl)) (by decide) (by decide)) q205a q205c (g := (mkF m 307 (own_F16 i1 i2 i3 i4 i5 i6 v3 v7 (2 : Int32) (1 : Int32) v14 v18 z_163 z_188 b189 b191 (0 : Int32) (0 : Int32) b197 b199 b199 b197) [(.ref b189), (.ref b197)])) rfl (by rw [hml]; rfl) (Steps.refl _) (argsL := [(.ref b189)]) (rest := []) (lenOf pd__40Ljava_47lang_47Object_59_41Z rfl) rfl (by show 2 * 0 + _ ≤ _; exact Nat.le_of_eq rfl) (hb hby at_307) (fun _ _ => ⟨rfl, eh204, (by decide : 8 + 0 ≤ _), (by decide : 21 + 0 ≤ _)⟩)
      dsimp only [Pt.U, Pt.locs, Pt.cells, Pt.slots] at X205 l205 y205 z205 st205 hQ205
      subst l205 y205 z205
      obtain ⟨rfl, N205q, eh205⟩ := hQ205
      have N205 := Fr.app N204 N205q
      obtain ⟨_, _, ⟨T206, L206, k206, n206⟩, -, X206, ⟨Lc206, hQ206, l206, y206, z206⟩, st206⟩ := Jvm.LawKit.callS X205 hx (y := (⟨"java/lang/Integer", "valueOf", "(I)Ljava/lang/Integer;"⟩ : MethodName)) hown (mvT hZ (hw _ (List.mem_of_getElem? (i := 64) rfl))) (mvT hZ (hw _ (List.mem_of_getElem? (i := 65) rfl))) (mvT hZ (hw _ (List.mem_of_getElem? (i := 66) rfl))) (mvT hZ (hw _ (List.mem_of_getElem? (i := 67) rfl))) (by decide) (backOf (W := 1) (rm10 l Z a0 hw [] i1 cl_s_cacheI s_cacheI T200.heap n0 O S_s_cacheI S_high BI) hZ (hw _ (List.mem_of_getElem? (i := 67) rfl)) (hw _ (List.mem_of_getElem? (i := 66) rfl)) (by decide) (by decide)) (g := (mkF m 316 (own_F16 i1 i2 i3 i4 i5 i6 v3 v7 (2 : Int32) (1 : Int32) v14 v18 z_163 z_188 b189 b191 (0 : Int32) (0 : Int32) b197 b199 b199 b197) [(.int i1), (.ref b197)])) rfl (by rw [hml]; rfl) (argsL := [(.int i1)]) (rest := [(.ref b197)]) (lenOf pd__40I_41Ljava_47lang_47Integer_59 rfl) rfl (by show 2 * 0 + _ ≤ _; exact Nat.le_of_eq rfl) (hb hby at_316) (fun _ _ => ⟨rfl, eh205, (by decide : 8 + 1 ≤ _), (by decide : 21 + 1 ≤ _)⟩)
      dsimp only [Pt.U, Pt.locs, Pt.cells, Pt.slots] at X206 l206 y206 z206 st206 hQ206
      subst l206 y206 z206
      obtain ⟨z_206, rfl, N206q, K206, E_z_c206⟩ := hQ206
      have N206 := Fr.app N205 N206q
      have R := CHr.keep K206 all0 C.1
      have sf_b189 := R.safe Ex190.lt sf_b189
      have sf_b191 := R.safe Ex192.lt sf_b191
      have sf_b197 := R.safe A197.lt sf_b197
      have sf_b199 := R.safe A199.lt sf_b199
      have C := C.trans R
      have hk := Nat.le_trans hk K206.1
      have V_z_c163 := V_z_c163.keep K206 nin0
      have V_z_c188 := V_z_c188.keep K206 nin0
      have Ex190 := Ex190.keep K206
      have Fc190 := Fc190.keep K206 nin0
      have Fv190 := Fv190.keep K206 nin0
      have Av190 := Av190.keep K206 nin0
      have Ex192 := Ex192.keep K206
      have Fc192 := Fc192.keep K206 nin0
      have Fv192 := Fv192.keep K206 nin0
      have Av192 := Av192.keep K206 nin0
      have A197 := A197.keep K206
      have F_i_a_c198 := F_i_a_c198.keep K206 nin0
      have F_w_a_c198 := F_w_a_c198.keep K206 nin0
      have F_r_a_c198 := F_r_a_c198.keep K206 nin0
      have A199 := A199.keep K206
      have F_i_a_c200 := F_i_a_c200.keep K206 nin0
      have F_w_a_c200 := F_w_a_c200.keep K206 nin0
      have F_r_a_c200 := F_r_a_c200.keep K206 nin0
      have O := O.keep K206 all0
      obtain ⟨cq207, kq207, q207a, q207b, q207c⟩ := isOf hZ rfl A197
      obtain ⟨_, _, ⟨T207, L207, k207, n207⟩, -, X207, ⟨Lc207, hQ207, l207, y207, z207⟩, st207⟩ := X206.virtualBack hx (y := (⟨"com/example/whirligig/whirligig/DownloadInfoIndication$Unreadable", "equals", "(Ljava/lang/Object;)Z"⟩ : MethodName)) (z := (⟨"com/example/whirligig/whirligig/DownloadInfoIndication$Unreadable", "equals", "(Ljava/lang/Object;)Z"⟩ : MethodName)) hown (mvT hZ (hw _ (List.mem_of_getElem? (i := 44) rfl))) (mvT hZ (hw _ (List.mem_of_getElem? (i := 45) rfl))) (notFace_of_selects (args := #[]) (mvT hZ (hw _ (List.mem_of_getElem? (i := 47) rfl)))) (mvT hZ (hw _ (List.mem_of_getElem? (i := 47) rfl))) (mvT hZ (hw _ (List.mem_of_getElem? (i := 46) rfl))) (by decide) (backOf (W := 0) (rm7_I l Z a0 hw [] b197 z_206 T206.heap n0 O E_z_c206) hZ (hw _ (List.mem_of_getElem? (i := 48) rfl)) (hw _ (List.mem_of_getElem? (i := 28) rfl)) (by decide) (by decide)) q207a q207c (g := (mkF m 319 (own_F16 i1 i2 i3 i4 i5 i6 v3 v7 (2 : Int32) (1 : Int32) v14 v18 z_163 z_188 b189 b191 (0 : Int32) (0 : Int32) b197 b199 b199 b197) [(.ref z_206), (.ref b197)])) rfl (by rw [hml]; rfl) (Steps.refl _) (argsL := [(.ref z_206)]) (rest := []) (lenOf pd__40Ljava_47lang_47Object_59_41Z rfl) rfl (by show 2 * 0 + _ ≤ _; exact Nat.le_of_eq rfl) (hb hby at_319) (fun _ _ => ⟨rfl, rfl, (by decide : 9 + 0 ≤ _), (by decide : 22 + 0 ≤ _)⟩)
      dsimp only [Pt.U, Pt.locs, Pt.cells, Pt.slots] at X207 l207 y207 z207 st207 hQ207
      subst l207 y207 z207
      obtain ⟨rfl, N207q, eh207⟩ := hQ207
      have N207 := Fr.app N206 N207q
      have w208 : ∀ t, Steps p.tables e below (T207.setTop (mkF m 330 (own_F16 i1 i2 i3 i4 i5 i6 v3 v7 (2 : Int32) (1 : Int32) v14 v18 z_163 z_188 b189 b191 (0 : Int32) (0 : Int32) b197 b199 b199 b197) [(.int (1 : Int32))])) t → Steps p.tables e below (s₁.setTop (entryFrame m #[(.int i1), (.int i2), (.int i3), (.int i4), (.int i5), (.int i6)] maxLocals)) t := fun t k => by
        refine w196 t ?_
        refine XS.istore X192.here hx rfl (hb hby at_222) rfl (l' := (own_F12 i1 i2 i3 i4 i5 i6 v3 v7 (2 : Int32) (1 : Int32) v14 v18 z_163 z_188 b189 b191 (0 : Int32) (0 : Int32))) rfl ?_
        show Steps p.tables e below (T192.setTop (mkF m 224 (own_F12 i1 i2 i3 i4 i5 i6 v3 v7 (2 : Int32) (1 : Int32) v14 v18 z_163 z_188 b189 b191 (0 : Int32) (0 : Int32)) [])) _
        refine st197 _ ?_
        show Steps p.tables e below (T197.setTop (mkF m 227 (own_F12 i1 i2 i3 i4 i5 i6 v3 v7 (2 : Int32) (1 : Int32) v14 v18 z_163 z_188 b189 b191 (0 : Int32) (0 : Int32)) [(.ref b197)])) _
        refine XS.dup X197.here hx rfl (hb hby at_227) rfl rfl ?_
        show Steps p.tables e below (T197.setTop (mkF m 228 (own_F12 i1 i2 i3 i4 i5 i6 v3 v7 (2 : Int32) (1 : Int32) v14 v18 z_163 z_188 b189 b191 (0 : Int32) (0 : Int32)) [(.ref b197), (.ref b197)])) _
        refine XS.iloadN X197.here hx rfl (hb hby at_228) rfl ?_
        show Steps p.tables e below (T197.setTop (mkF m 229 (own_F12 i1 i2 i3 i4 i5 i6 v3 v7 (2 : Int32) (1 : Int32) v14 v18 z_163 z_188 b189 b191 (0 : Int32) (0 : Int32)) [(.int i1), (.ref b197), (.ref b197)])) _
        refine XS.iloadN X197.here hx rfl (hb hby at_229) rfl ?_
        show Steps p.tables e below (T197.setTop (mkF m 230 (own_F12 i1 i2 i3 i4 i5 i6 v3 v7 (2 : Int32) (1 : Int32) v14 v18 z_163 z_188 b189 b191 (0 : Int32) (0 : Int32)) [(.int i3), (.int i1), (.ref b197), (.ref b197)])) _
        refine XS.aload X197.here hx rfl (hb hby at_230) rfl rfl ?_
        show Steps p.tables e below (T197.setTop (mkF m 232 (own_F12 i1 i2 i3 i4 i5 i6 v3 v7 (2 : Int32) (1 : Int32) v14 v18 z_163 z_188 b189 b191 (0 : Int32) (0 : Int32)) [(.ref b189), (.int i3), (.int i1), (.ref b197), (.ref b197)])) _
        refine st198.trans ?_
        show Steps p.tables e below (T198.setTop (mkF m 235 (own_F12 i1 i2 i3 i4 i5 i6 v3 v7 (2 : Int32) (1 : Int32) v14 v18 z_163 z_188 b189 b191 (0 : Int32) (0 : Int32)) [(.ref b197)])) _
        refine XS.astore X198.here hx rfl (hb hby at_235) rfl rfl (l' := (own_F13 i1 i2 i3 i4 i5 i6 v3 v7 (2 : Int32) (1 : Int32) v14 v18 z_163 z_188 b189 b191 (0 : Int32) (0 : Int32) b197)) rfl ?_
        show Steps p.tables e below (T198.setTop (mkF m 237 (own_F13 i1 i2 i3 i4 i5 i6 v3 v7 (2 : Int32) (1 : Int32) v14 v18 z_163 z_188 b189 b191 (0 : Int32) (0 : Int32) b197) [])) _
        refine st199 _ ?_
        show Steps p.tables e below (T199.setTop (mkF m 240 (own_F13 i1 i2 i3 i4 i5 i6 v3 v7 (2 : Int32) (1 : Int32) v14 v18 z_163 z_188 b189 b191 (0 : Int32) (0 : Int32) b197) [(.ref b199)])) _
        refine XS.dup X199.here hx rfl (hb hby at_240) rfl rfl ?_
        show Steps p.tables e below (T199.setTop (mkF m 241 (own_F13 i1 i2 i3 i4 i5 i6 v3 v7 (2 : Int32) (1 : Int32) v14 v18 z_163 z_188 b189 b191 (0 : Int32) (0 : Int32) b197) [(.ref b199), (.ref b199)])) _
        refine XS.iload X199.here hx rfl (hb hby at_241) rfl ?_
        show Steps p.tables e below (T199.setTop (mkF m 243 (own_F13 i1 i2 i3 i4 i5 i6 v3 v7 (2 : Int32) (1 : Int32) v14 v18 z_163 z_188 b189 b191 (0 : Int32) (0 : Int32) b197) [(.int v3), (.ref b199), (.ref b199)])) _
        refine XS.iload X199.here hx rfl (hb hby at_243) rfl ?_
        show Steps p.tables e below (T199.setTop (mkF m 245 (own_F13 i1 i2 i3 i4 i5 i6 v3 v7 (2 : Int32) (1 : Int32) v14 v18 z_163 z_188 b189 b191 (0 : Int32) (0 : Int32) b197) [(.int v7), (.int v3), (.ref b199), (.ref b199)])) _
        refine XS.aload X199.here hx rfl (hb hby at_245) rfl rfl ?_
        show Steps p.tables e below (T199.setTop (mkF m 247 (own_F13 i1 i2 i3 i4 i5 i6 v3 v7 (2 : Int32) (1 : Int32) v14 v18 z_163 z_188 b189 b191 (0 : Int32) (0 : Int32) b197) [(.ref b191), (.int v7), (.int v3), (.ref b199), (.ref b199)])) _
        refine st200.trans ?_
        show Steps p.tables e below (T200.setTop (mkF m 250 (own_F13 i1 i2 i3 i4 i5 i6 v3 v7 (2 : Int32) (1 : Int32) v14 v18 z_163 z_188 b189 b191 (0 : Int32) (0 : Int32) b197) [(.ref b199)])) _
        refine XS.astore X200.here hx rfl (hb hby at_250) rfl rfl (l' := (own_F14 i1 i2 i3 i4 i5 i6 v3 v7 (2 : Int32) (1 : Int32) v14 v18 z_163 z_188 b189 b191 (0 : Int32) (0 : Int32) b197 b199)) rfl ?_
        show Steps p.tables e below (T200.setTop (mkF m 252 (own_F14 i1 i2 i3 i4 i5 i6 v3 v7 (2 : Int32) (1 : Int32) v14 v18 z_163 z_188 b189 b191 (0 : Int32) (0 : Int32) b197 b199) [])) _
        refine XS.aload X200.here hx rfl (hb hby at_252) rfl rfl ?_
        show Steps p.tables e below (T200.setTop (mkF m 254 (own_F14 i1 i2 i3 i4 i5 i6 v3 v7 (2 : Int32) (1 : Int32) v14 v18 z_163 z_188 b189 b191 (0 : Int32) (0 : Int32) b197 b199) [(.ref b199)])) _
        refine XS.astore X200.here hx rfl (hb hby at_254) rfl rfl (l' := (own_F15 i1 i2 i3 i4 i5 i6 v3 v7 (2 : Int32) (1 : Int32) v14 v18 z_163 z_188 b189 b191 (0 : Int32) (0 : Int32) b197 b199 b199)) rfl ?_
        show Steps p.tables e below (T200.setTop (mkF m 256 (own_F15 i1 i2 i3 i4 i5 i6 v3 v7 (2 : Int32) (1 : Int32) v14 v18 z_163 z_188 b189 b191 (0 : Int32) (0 : Int32) b197 b199 b199) [])) _
        refine XS.aload X200.here hx rfl (hb hby at_256) rfl rfl ?_
        show Steps p.tables e below (T200.setTop (mkF m 258 (own_F15 i1 i2 i3 i4 i5 i6 v3 v7 (2 : Int32) (1 : Int32) v14 v18 z_163 z_188 b189 b191 (0 : Int32) (0 : Int32) b197 b199 b199) [(.ref b197)])) _
        refine XS.astore X200.here hx rfl (hb hby at_258) rfl rfl (l' := (own_F16 i1 i2 i3 i4 i5 i6 v3 v7 (2 : Int32) (1 : Int32) v14 v18 z_163 z_188 b189 b191 (0 : Int32) (0 : Int32) b197 b199 b199 b197)) rfl ?_
        show Steps p.tables e below (T200.setTop (mkF m 260 (own_F16 i1 i2 i3 i4 i5 i6 v3 v7 (2 : Int32) (1 : Int32) v14 v18 z_163 z_188 b189 b191 (0 : Int32) (0 : Int32) b197 b199 b199 b197) [])) _
        refine XS.aload X200.here hx rfl (hb hby at_260) rfl rfl ?_
        show Steps p.tables e below (T200.setTop (mkF m 262 (own_F16 i1 i2 i3 i4 i5 i6 v3 v7 (2 : Int32) (1 : Int32) v14 v18 z_163 z_188 b189 b191 (0 : Int32) (0 : Int32) b197 b199 b199 b197) [(.ref b197)])) _
        refine XS.aload X200.here hx rfl (hb hby at_262) rfl rfl ?_
        show Steps p.tables e below (T200.setTop (mkF m 264 (own_F16 i1 i2 i3 i4 i5 i6 v3 v7 (2 : Int32) (1 : Int32) v14 v18 z_163 z_188 b189 b191 (0 : Int32) (0 : Int32) b197 b199 b199 b197) [(.ref b199), (.ref b197)])) _
        refine st201.trans ?_
        show Steps p.tables e below (T201.setTop (mkF m 267 (own_F16 i1 i2 i3 i4 i5 i6 v3 v7 (2 : Int32) (1 : Int32) v14 v18 z_163 z_188 b189 b191 (0 : Int32) (0 : Int32) b197 b199 b199 b197) [(.int (own_e i1 v3 i3 v7 ([c1_163, d1_163] : List Int32) ([c1_188] : List Int32)))])) _
        refine XS.iload X201.here hx rfl (hb hby at_267) rfl ?_
        show Steps p.tables e below (T201.setTop (mkF m 269 (own_F16 i1 i2 i3 i4 i5 i6 v3 v7 (2 : Int32) (1 : Int32) v14 v18 z_163 z_188 b189 b191 (0 : Int32) (0 : Int32) b197 b199 b199 b197) [(.int (0 : Int32)), (.int (own_e i1 v3 i3 v7 ([c1_163, d1_163] : List Int32) ([c1_188] : List Int32)))])) _
        refine XS.icmpNo X201.here hx rfl (hb hby at_269) rfl (teq (own_e0 _ _ _ _ (fun e => nomatch (List.cons.inj e).2) : (own_e i1 v3 i3 v7 ([c1_163, d1_163] : List Int32) ([c1_188] : List Int32)) = (0 : Int32))).2 ?_
        show Steps p.tables e below (T201.setTop (mkF m 272 (own_F16 i1 i2 i3 i4 i5 i6 v3 v7 (2 : Int32) (1 : Int32) v14 v18 z_163 z_188 b189 b191 (0 : Int32) (0 : Int32) b197 b199 b199 b197) [])) _
        refine XS.aload X201.here hx rfl (hb hby at_272) rfl rfl ?_
        show Steps p.tables e below (T201.setTop (mkF m 274 (own_F16 i1 i2 i3 i4 i5 i6 v3 v7 (2 : Int32) (1 : Int32) v14 v18 z_163 z_188 b189 b191 (0 : Int32) (0 : Int32) b197 b199 b199 b197) [(.ref b199)])) _
        refine XS.aload X201.here hx rfl (hb hby at_274) rfl rfl ?_
        show Steps p.tables e below (T201.setTop (mkF m 276 (own_F16 i1 i2 i3 i4 i5 i6 v3 v7 (2 : Int32) (1 : Int32) v14 v18 z_163 z_188 b189 b191 (0 : Int32) (0 : Int32) b197 b199 b199 b197) [(.ref b197), (.ref b199)])) _
        refine st202.trans ?_
        show Steps p.tables e below (T202.setTop (mkF m 279 (own_F16 i1 i2 i3 i4 i5 i6 v3 v7 (2 : Int32) (1 : Int32) v14 v18 z_163 z_188 b189 b191 (0 : Int32) (0 : Int32) b197 b199 b199 b197) [(.int (own_e v3 i1 v7 i3 ([c1_188] : List Int32) ([c1_163, d1_163] : List Int32)))])) _
        refine XS.iload X202.here hx rfl (hb hby at_279) rfl ?_
        show Steps p.tables e below (T202.setTop (mkF m 281 (own_F16 i1 i2 i3 i4 i5 i6 v3 v7 (2 : Int32) (1 : Int32) v14 v18 z_163 z_188 b189 b191 (0 : Int32) (0 : Int32) b197 b199 b199 b197) [(.int (0 : Int32)), (.int (own_e v3 i1 v7 i3 ([c1_188] : List Int32) ([c1_163, d1_163] : List Int32)))])) _
        refine XS.icmpNo X202.here hx rfl (hb hby at_281) rfl (teq ((own_sym _ _ _ _ _ _).trans (own_e0 _ _ _ _ (fun e => nomatch (List.cons.inj e).2)) : (own_e v3 i1 v7 i3 ([c1_188] : List Int32) ([c1_163, d1_163] : List Int32)) = (0 : Int32))).2 ?_
        show Steps p.tables e below (T202.setTop (mkF m 284 (own_F16 i1 i2 i3 i4 i5 i6 v3 v7 (2 : Int32) (1 : Int32) v14 v18 z_163 z_188 b189 b191 (0 : Int32) (0 : Int32) b197 b199 b199 b197) [])) _
        refine XS.aload X202.here hx rfl (hb hby at_284) rfl rfl ?_
        show Steps p.tables e below (T202.setTop (mkF m 286 (own_F16 i1 i2 i3 i4 i5 i6 v3 v7 (2 : Int32) (1 : Int32) v14 v18 z_163 z_188 b189 b191 (0 : Int32) (0 : Int32) b197 b199 b199 b197) [(.ref b197)])) _
        refine XS.aload X202.here hx rfl (hb hby at_286) rfl rfl ?_
        show Steps p.tables e below (T202.setTop (mkF m 288 (own_F16 i1 i2 i3 i4 i5 i6 v3 v7 (2 : Int32) (1 : Int32) v14 v18 z_163 z_188 b189 b191 (0 : Int32) (0 : Int32) b197 b199 b199 b197) [(.ref b197), (.ref b197)])) _
        refine st203.trans ?_
        show Steps p.tables e below (T203.setTop (mkF m 291 (own_F16 i1 i2 i3 i4 i5 i6 v3 v7 (2 : Int32) (1 : Int32) v14 v18 z_163 z_188 b189 b191 (0 : Int32) (0 : Int32) b197 b199 b199 b197) [(.int (own_e i1 i1 i3 i3 ([c1_163, d1_163] : List Int32) ([c1_163, d1_163] : List Int32)))])) _
        refine XS.ifNo X203.here hx rfl (hb hby at_291) rfl ((if0 _ _).trans (feq (own_rfl _ _ _ : ¬ ((own_e i1 i1 i3 i3 ([c1_163, d1_163] : List Int32) ([c1_163, d1_163] : List Int32)) = (0 : Int32)))).1) ?_
        show Steps p.tables e below (T203.setTop (mkF m 294 (own_F16 i1 i2 i3 i4 i5 i6 v3 v7 (2 : Int32) (1 : Int32) v14 v18 z_163 z_188 b189 b191 (0 : Int32) (0 : Int32) b197 b199 b199 b197) [])) _
        refine XS.aload X203.here hx rfl (hb hby at_294) rfl rfl ?_
        show Steps p.tables e below (T203.setTop (mkF m 296 (own_F16 i1 i2 i3 i4 i5 i6 v3 v7 (2 : Int32) (1 : Int32) v14 v18 z_163 z_188 b189 b191 (0 : Int32) (0 : Int32) b197 b199 b199 b197) [(.ref b197)])) _
        refine XS.aconstNull X203.here hx rfl (hb hby at_296) ?_
        show Steps p.tables e below (T203.setTop (mkF m 297 (own_F16 i1 i2 i3 i4 i5 i6 v3 v7 (2 : Int32) (1 : Int32) v14 v18 z_163 z_188 b189 b191 (0 : Int32) (0 : Int32) b197 b199 b199 b197) [.null, (.ref b197)])) _
        refine st204.trans ?_
        show Steps p.tables e below (T204.setTop (mkF m 300 (own_F16 i1 i2 i3 i4 i5 i6 v3 v7 (2 : Int32) (1 : Int32) v14 v18 z_163 z_188 b189 b191 (0 : Int32) (0 : Int32) b197 b199 b199 b197) [(.int (0 : Int32))])) _
        refine XS.ifNo X204.here hx rfl (hb hby at_300) rfl ((if0 _ _).trans (teq (rfl : (0 : Int32) = (0 : Int32))).2) ?_
        show Steps p.tables e below (T204.setTop (mkF m 303 (own_F16 i1 i2 i3 i4 i5 i6 v3 v7 (2 : Int32) (1 : Int32) v14 v18 z_163 z_188 b189 b191 (0 : Int32) (0 : Int32) b197 b199 b199 b197) [])) _
        refine XS.aload X204.here hx rfl (hb hby at_303) rfl rfl ?_
        show Steps p.tables e below (T204.setTop (mkF m 305 (own_F16 i1 i2 i3 i4 i5 i6 v3 v7 (2 : Int32) (1 : Int32) v14 v18 z_163 z_188 b189 b191 (0 : Int32) (0 : Int32) b197 b199 b199 b197) [(.ref b197)])) _
        refine XS.aload X204.here hx rfl (hb hby at_305) rfl rfl ?_
        show Steps p.tables e below (T204.setTop (mkF m 307 (own_F16 i1 i2 i3 i4 i5 i6 v3 v7 (2 : Int32) (1 : Int32) v14 v18 z_163 z_188 b189 b191 (0 : Int32) (0 : Int32) b197 b199 b199 b197) [(.ref b189), (.ref b197)])) _
        refine st205.trans ?_
        show Steps p.tables e below (T205.setTop (mkF m 310 (own_F16 i1 i2 i3 i4 i5 i6 v3 v7 (2 : Int32) (1 : Int32) v14 v18 z_163 z_188 b189 b191 (0 : Int32) (0 : Int32) b197 b199 b199 b197) [(.int (0 : Int32))])) _
        refine XS.ifNo X205.here hx rfl (hb hby at_310) rfl ((if0 _ _).trans (teq (rfl : (0 : Int32) = (0 : Int32))).2) ?_
        show Steps p.tables e below (T205.setTop (mkF m 313 (own_F16 i1 i2 i3 i4 i5 i6 v3 v7 (2 : Int32) (1 : Int32) v14 v18 z_163 z_188 b189 b191 (0 : Int32) (0 : Int32) b197 b199 b199 b197) [])) _
        refine XS.aload X205.here hx rfl (hb hby at_313) rfl rfl ?_
        show Steps p.tables e below (T205.setTop (mkF m 315 (own_F16 i1 i2 i3 i4 i5 i6 v3 v7 (2 : Int32) (1 : Int32) v14 v18 z_163 z_188 b189 b191 (0 : Int32) (0 : Int32) b197 b199 b199 b197) [(.ref b197)])) _
        refine XS.iloadN X205.here hx rfl (hb hby at_315) rfl ?_
        show Steps p.tables e below (T205.setTop (mkF m 316 (own_F16 i1 i2 i3 i4 i5 i6 v3 v7 (2 : Int32) (1 : Int32) v14 v18 z_163 z_188 b189 b191 (0 : Int32) (0 : Int32) b197 b199 b199 b197) [(.int i1), (.ref b197)])) _
        refine st206 _ ?_
        show Steps p.tables e below (T206.setTop (mkF m 319 (own_F16 i1 i2 i3 i4 i5 i6 v3 v7 (2 : Int32) (1 : Int32) v14 v18 z_163 z_188 b189 b191 (0 : Int32) (0 : Int32) b197 b199 b199 b197) [(.ref z_206), (.ref b197)])) _
        refine st207.trans ?_
        show Steps p.tables e below (T207.setTop (mkF m 322 (own_F16 i1 i2 i3 i4 i5 i6 v3 v7 (2 : Int32) (1 : Int32) v14 v18 z_163 z_188 b189 b191 (0 : Int32) (0 : Int32) b197 b199 b199 b197) [(.int (0 : Int32))])) _
        refine XS.ifNo X207.here hx rfl (hb hby at_322) rfl ((if0 _ _).trans (teq (rfl : (0 : Int32) = (0 : Int32))).2) ?_
        show Steps p.tables e below (T207.setTop (mkF m 325 (own_F16 i1 i2 i3 i4 i5 i6 v3 v7 (2 : Int32) (1 : Int32) v14 v18 z_163 z_188 b189 b191 (0 : Int32) (0 : Int32) b197 b199 b199 b197) [])) _
        refine XS.iconst X207.here hx rfl (hb hby at_325) ?_
        show Steps p.tables e below (T207.setTop (mkF m 326 (own_F16 i1 i2 i3 i4 i5 i6 v3 v7 (2 : Int32) (1 : Int32) v14 v18 z_163 z_188 b189 b191 (0 : Int32) (0 : Int32) b197 b199 b199 b197) [(.int (1 : Int32))])) _
        refine XS.goto X207.here hx rfl (pc0 := 326) (pc' := 330) rfl (hb hby at_326) (by decide) (by decide) ?_
        show Steps p.tables e below (T207.setTop (mkF m 330 (own_F16 i1 i2 i3 i4 i5 i6 v3 v7 (2 : Int32) (1 : Int32) v14 v18 z_163 z_188 b189 b191 (0 : Int32) (0 : Int32) b197 b199 b199 b197) [(.int (1 : Int32))])) _
        exact k
      obtain ⟨fs, hr, hrun, hended, hE⟩ := Stand.leaveW (s := s) (vm₁ := s.vm) X207 hS (by rw [eh207]; exact hk) (v := some (.int (1 : Int32))) (fun h => by rw [Bd.returns] at h; cases h)
      refine ⟨_, _, w208 _ ?_, hrun, hended, _, _, rfl, ?_, ?_, own_mono hE (by decide) (by decide)⟩
      · exact retN X207 hx (t := .boolean) Bd.returns (by simp) (hb hby at_330) hr
      · show Q0 Z i1 i2 i3 i4 i5 i6 cl_s_cacheI zc s_cacheI h0 n0 _ T207.heap _
        rw [eh207]
        exact ⟨rfl, N207⟩
      · rw [hh]; show CHr Z consts_1 s.vm h0 T207.vm T207.heap; rw [eh207]; exact C.trans (CHv.at X207 hZ hEL C.1)
    · rw [hk166] at w164
      have lt209_z_163 := V_z_c163.lt
      obtain ⟨_, _, ⟨T209, L209, k209, n209⟩, -, X209, ⟨Lc209, hQ209, l209, y209, z209⟩, st209⟩ := Jvm.LawKit.callS X163 hx (y := (⟨"com/example/whirligig/whirligig/UnreadableEqualsPinLaw", "chars", "(III)[C"⟩ : MethodName)) hown (mvT hZ (hw _ (List.mem_of_getElem? (i := 0) rfl))) (mvT hZ (hw _ (List.mem_of_getElem? (i := 1) rfl))) (mvT hZ (hw _ (List.mem_of_getElem? (i := 2) rfl))) (mvT hZ (hw _ (List.mem_of_getElem? (i := 3) rfl))) (by decide) (backOf (W := 0) (rm1_2 l Z a0 hw [] v14 v18 T163.heap n0 O ) hZ (hw _ (List.mem_of_getElem? (i := 3) rfl)) (hw _ (List.mem_of_getElem? (i := 2) rfl)) (by decide) (by decide)) (g := (mkF m 125 (own_F7 i1 i2 i3 i4 i5 i6 v3 v7 (2 : Int32) (2 : Int32) v14 v18 z_163) [(.int v18), (.int v14), (.int (2 : Int32))])) rfl (by rw [hml]; rfl) (argsL := [(.int (2 : Int32)), (.int v14), (.int v18)]) (rest := []) (lenOf pd__40III_41_91C rfl) rfl (by show 2 * 0 + _ ≤ _; exact Nat.le_of_eq rfl) (hb hby at_125) (fun _ _ => ⟨rfl, rfl, (by decide : 1 + 1 ≤ _), (by decide : 2 + 2 ≤ _)⟩)
      dsimp only [Pt.U, Pt.locs, Pt.cells, Pt.slots] at X209 l209 y209 z209 st209 hQ209
      subst l209 y209 z209
      obtain ⟨z_209, kz_209, c1_209, d1_209, rfl, N209q, K209, V_z_c209, gz_209, gn_209, bc_209, bd_209⟩ := hQ209
      have N209 := Fr.app N163 N209q
      have R := CHr.keep K209 all0 C.1
      have C := C.trans R
      have hk := Nat.le_trans hk K209.1
      have V_z_c163 := V_z_c163.keep K209 nin0
      have ne_z_163_z_209 : z_163 ≠ z_209 := Nat.ne_of_lt (Nat.lt_of_lt_of_le lt209_z_163 gz_209)
      have g_z_209 := gn_209
      have O := O.keep K209 all0
      obtain ⟨T210, h210, X210, e210, E210, A210, D210, -, st210⟩ := newO X209 hx hZ hown (hw _ (List.mem_of_getElem? (i := 5) rfl)) (hw _ (List.mem_of_getElem? (i := 6) rfl)) (hw _ (List.mem_of_getElem? (i := 7) rfl)) rfl (g := (mkF m 130 (own_F8 i1 i2 i3 i4 i5 i6 v3 v7 (2 : Int32) (2 : Int32) v14 v18 z_163 z_209) [])) rfl (hb hby at_130) (by decide) (by decide)
      obtain ⟨b210, gq210⟩ : ∃ z, z = Array.size T209.heap := ⟨_, rfl⟩
      rw [← gq210] at A210 D210 st210
      have ne_z_163_b210 : z_163 ≠ b210 := Nat.ne_of_lt (Nat.lt_of_lt_of_le V_z_c163.lt (Nat.le_of_eq gq210.symm))
      have ne_z_209_b210 : z_209 ≠ b210 := Nat.ne_of_lt (Nat.lt_of_lt_of_le V_z_c209.lt (Nat.le_of_eq gq210.symm))
      have g_b210 : n0 ≤ b210 := Nat.le_trans (O.1 ▸ O.2.1) (Nat.le_of_eq gq210.symm)
      have sf_b210 := own_safeN C.1 E210 (Nat.le_of_eq gq210.symm)
      have R := CHr.ext E210 C.1
      have C := C.trans R
      have hk := Nat.le_trans hk E210.1
      have V_z_c163 := V_z_c163.ext E210
      have V_z_c209 := V_z_c209.ext E210
      have O := O.ext E210
      have F_value_b210 : Fld Z h210 b210 "java/lang/String" "value" "[B" .null := D210 (Or.inr (hw _ (List.mem_of_getElem? (i := 20) rfl))) (ty := (.array .byte)) (by decide)
      have F_coder_b210 : Fld Z h210 b210 "java/lang/String" "coder" "B" (.int (0 : Int32)) := D210 (Or.inr (hw _ (List.mem_of_getElem? (i := 21) rfl))) (ty := .byte) (by decide)
      have hp_b210 := own_hp2 bc_163 bd_163
      have h9_b210 : 0 < ([c1_163, d1_163] : List Int32).length ∧ ([c1_163, d1_163] : List Int32).length ≤ 2 := ⟨Nat.le_of_ble_eq_true rfl, Nat.le_of_ble_eq_true rfl⟩
      obtain ⟨_, _, ⟨T211, L211, k211, n211⟩, -, X211, ⟨Lc211, hQ211, l211, y211, z211⟩, st211⟩ := X210.specialBack hx (y := (⟨"java/lang/String", "<init>", "([C)V"⟩ : MethodName)) rfl hown (mvT hZ (hw _ (List.mem_of_getElem? (i := 8) rfl))) (mvT hZ (hw _ (List.mem_of_getElem? (i := 9) rfl))) (mvT hZ (hw _ (List.mem_of_getElem? (i := 10) rfl))) (by decide) (StrChars.Road.backV (W := 1) hZ (own_wNew hw) (kI := 4) (hw _ (List.mem_of_getElem? (i := 6) rfl)) (cs := ([c1_163, d1_163] : List Int32)) (bs := (([c1_163, d1_163] : List Int32).map (fun c => c.toInt8.toInt32))) (n := ([c1_163, d1_163] : List Int32).length) g_b210 (O.1 ▸ O.2.1) A210 F_value_b210 F_coder_b210 V_z_c163 (SC.ext O.2) hzc rfl rfl h9_b210.1 (Nat.le_trans h9_b210.2 (by decide)) hp_b210 rfl (by decide) (by decide)) (g := (mkF m 136 (own_F8 i1 i2 i3 i4 i5 i6 v3 v7 (2 : Int32) (2 : Int32) v14 v18 z_163 z_209) [(.ref z_163), (.ref b210), (.ref b210)])) rfl (by rw [hml]; rfl) (Steps.refl _) (a := b210) (argsL := [(.ref z_163)]) (rest := [(.ref b210)]) (lenOf pd__40_91C_41V rfl) rfl (by show 2 * 0 + _ ≤ _; exact Nat.le_of_eq rfl) (hb hby at_136) (fun _ _ => ⟨rfl, e210, (by decide : 3 + 1 ≤ _), Nat.le_trans (Nat.add_le_add_left h9_b210.2 8) (by decide)⟩)
      dsimp only [Pt.U, Pt.locs, Pt.cells, Pt.slots] at X211 l211 y211 z211 st211 hQ211
      subst l211 y211 z211
      have X211 := X211.more (Nat.le_refl _) (Nat.add_le_add_left h9_b210.2 8)
      obtain ⟨rfl, N211q, K211, Ex211, Fc211, t211, kb211, gn211, gz211, nx211, Fv211, Av211⟩ := hQ211
      have N211 := Fr.app N209 N211q
      have ne_z_163_t211 : z_163 ≠ t211 := Nat.ne_of_lt (Nat.lt_of_lt_of_le V_z_c163.lt gz211)
      have ne_z_209_t211 : z_209 ≠ t211 := Nat.ne_of_lt (Nat.lt_of_lt_of_le V_z_c209.lt gz211)
      have ne_b210_t211 : b210 ≠ t211 := Nat.ne_of_lt (Nat.lt_of_lt_of_le A210.lt gz211)
      have R := CHr.keep K211 (allS sf_b210 all0) C.1
      have sf_b210 := R.safe A210.lt sf_b210
      have C := C.trans R
      have hk := Nat.le_trans hk K211.1
      have V_z_c163 := V_z_c163.keep K211 (ninS ne_z_163_b210 nin0)
      have V_z_c209 := V_z_c209.keep K211 (ninS ne_z_209_b210 nin0)
      have A210 := A210.keep K211
      have g_t211 := gn211
      have O := O.keep K211 (allS g_b210 all0)
      obtain ⟨T212, h212, X212, e212, E212, A212, D212, -, st212⟩ := newO X211 hx hZ hown (hw _ (List.mem_of_getElem? (i := 5) rfl)) (hw _ (List.mem_of_getElem? (i := 6) rfl)) (hw _ (List.mem_of_getElem? (i := 7) rfl)) rfl (g := (mkF m 141 (own_F9 i1 i2 i3 i4 i5 i6 v3 v7 (2 : Int32) (2 : Int32) v14 v18 z_163 z_209 b210) [])) rfl (hb hby at_141) (by decide) (by decide)
      obtain ⟨b212, gq212⟩ : ∃ z, z = Array.size T211.heap := ⟨_, rfl⟩
      rw [← gq212] at A212 D212 st212
      have ne_z_163_b212 : z_163 ≠ b212 := Nat.ne_of_lt (Nat.lt_of_lt_of_le V_z_c163.lt (Nat.le_of_eq gq212.symm))
      have ne_z_209_b212 : z_209 ≠ b212 := Nat.ne_of_lt (Nat.lt_of_lt_of_le V_z_c209.lt (Nat.le_of_eq gq212.symm))
      have ne_b210_b212 : b210 ≠ b212 := Nat.ne_of_lt (Nat.lt_of_lt_of_le Ex211.lt (Nat.le_of_eq gq212.symm))
      have ne_t211_b212 : t211 ≠ b212 := Nat.ne_of_lt (Nat.lt_of_lt_of_le Av211.lt (Nat.le_of_eq gq212.symm))
      have g_b212 : n0 ≤ b212 := Nat.le_trans (O.1 ▸ O.2.1) (Nat.le_of_eq gq212.symm)
      have sf_b212 := own_safeN C.1 E212 (Nat.le_of_eq gq212.symm)
      have R := CHr.ext E212 C.1
      have sf_b210 := R.safe Ex211.lt sf_b210
      have C := C.trans R
      have hk := Nat.le_trans hk E212.1
      have V_z_c163 := V_z_c163.ext E212
      have V_z_c209 := V_z_c209.ext E212
      have Ex211 := Ex211.ext E212
      have Fc211 := Fc211.ext E212
      have Fv211 := Fv211.ext E212
      have Av211 := Av211.ext E212
      have O := O.ext E212
      have F_value_b212 : Fld Z h212 b212 "java/lang/String" "value" "[B" .null := D212 (Or.inr (hw _ (List.mem_of_getElem? (i := 20) rfl))) (ty := (.array .byte)) (by decide)
      have F_coder_b212 : Fld Z h212 b212 "java/lang/String" "coder" "B" (.int (0 : Int32)) := D212 (Or.inr (hw _ (List.mem_of_getElem? (i := 21) rfl))) (ty := .byte) (by decide)
      have hp_b212 := own_hp2 bc_209 bd_209
      have h9_b212 : 0 < ([c1_209, d1_209] : List Int32).length ∧ ([c1_209, d1_209] : List Int32).length ≤ 2 := ⟨Nat.le_of_ble_eq_true rfl, Nat.le_of_ble_eq_true rfl⟩
      obtain ⟨_, _, ⟨T213, L213, k213, n213⟩, -, X213, ⟨Lc213, hQ213, l213, y213, z213⟩, st213⟩ := X212.specialBack hx (y := (⟨"java/lang/String", "<init>", "([C)V"⟩ : MethodName)) rfl hown (mvT hZ (hw _ (List.mem_of_getElem? (i := 8) rfl))) (mvT hZ (hw _ (List.mem_of_getElem? (i := 9) rfl))) (mvT hZ (hw _ (List.mem_of_getElem? (i := 10) rfl))) (by decide) (StrChars.Road.backV (W := 1) hZ (own_wNew hw) (kI := 4) (hw _ (List.mem_of_getElem? (i := 6) rfl)) (cs := ([c1_209, d1_209] : List Int32)) (bs := (([c1_209, d1_209] : List Int32).map (fun c => c.toInt8.toInt32))) (n := ([c1_209, d1_209] : List Int32).length) g_b212 (O.1 ▸ O.2.1) A212 F_value_b212 F_coder_b212 V_z_c209 (SC.ext O.2) hzc rfl rfl h9_b212.1 (Nat.le_trans h9_b212.2 (by decide)) hp_b212 rfl (by decide) (by decide)) (g := (mkF m 147 (own_F9 i1 i2 i3 i4 i5 i6 v3 v7 (2 : Int32) (2 : Int32) v14 v18 z_163 z_209 b210) [(.ref z_209), (.ref b212), (.ref b212)])) rfl (by rw [hml]; rfl) (Steps.refl _) (a := b212) (argsL := [(.ref z_209)]) (rest := [(.ref b212)]) (lenOf pd__40_91C_41V rfl) rfl (by show 2 * 0 + _ ≤ _; exact Nat.le_of_eq rfl) (hb hby at_147) (fun _ _ => ⟨rfl, e212, (by decide : 5 + 1 ≤ _), Nat.le_trans (Nat.add_le_add_left h9_b212.2 14) (by decide)⟩)
      dsimp only [Pt.U, Pt.locs, Pt.cells, Pt.slots] at X213 l213 y213 z213 st213 hQ213
      subst l213 y213 z213
      have X213 := X213.more (Nat.le_refl _) (Nat.add_le_add_left h9_b212.2 14)
      obtain ⟨rfl, N213q, K213, Ex213, Fc213, t213, kb213, gn213, gz213, nx213, Fv213, Av213⟩ := hQ213
      have N213 := Fr.app N211 N213q
      have ne_z_163_t213 : z_163 ≠ t213 := Nat.ne_of_lt (Nat.lt_of_lt_of_le V_z_c163.lt gz213)
      have ne_z_209_t213 : z_209 ≠ t213 := Nat.ne_of_lt (Nat.lt_of_lt_of_le V_z_c209.lt gz213)
      have ne_b210_t213 : b210 ≠ t213 := Nat.ne_of_lt (Nat.lt_of_lt_of_le Ex211.lt gz213)
      have ne_t211_t213 : t211 ≠ t213 := Nat.ne_of_lt (Nat.lt_of_lt_of_le Av211.lt gz213)
      have ne_b212_t213 : b212 ≠ t213 := Nat.ne_of_lt (Nat.lt_of_lt_of_le A212.lt gz213)
      have R := CHr.keep K213 (allS sf_b212 all0) C.1
      have sf_b210 := R.safe Ex211.lt sf_b210
      have sf_b212 := R.safe A212.lt sf_b212
      have C := C.trans R
      have hk := Nat.le_trans hk K213.1
      have V_z_c163 := V_z_c163.keep K213 (ninS ne_z_163_b212 nin0)
      have V_z_c209 := V_z_c209.keep K213 (ninS ne_z_209_b212 nin0)
      have Ex211 := Ex211.keep K213
      have Fc211 := Fc211.keep K213 (ninS ne_b210_b212 nin0)
      have Fv211 := Fv211.keep K213 (ninS ne_b210_b212 nin0)
      have Av211 := Av211.keep K213 (ninS ne_t211_b212 nin0)
      have A212 := A212.keep K213
      have g_t213 := gn213
      have O := O.keep K213 (allS g_b212 all0)
      obtain ⟨cl214, Ar214, q214, Z214, N214, H214, G214⟩ := id V_z_c163
      have hin214 : ¬ ((0 : Int32) < 0 ∨ cl214.slots.size ≤ ((0 : Int32)).toNatClampNeg) := inb_of Z214 ⟨by decide, by decide⟩
      have hat214 : cl214.slots[((0 : Int32)).toNatClampNeg]? = some (.int c1_163) := H214.at hin214 rfl
      obtain ⟨cl215, Ar215, q215, Z215, N215, H215, G215⟩ := id V_z_c209
      have hin215 : ¬ ((0 : Int32) < 0 ∨ cl215.slots.size ≤ ((0 : Int32)).toNatClampNeg) := inb_of Z215 ⟨by decide, by decide⟩
      have hat215 : cl215.slots[((0 : Int32)).toNatClampNeg]? = some (.int c1_209) := H215.at hin215 rfl
      have w216 : ∀ t, Steps p.tables e below (T213.setTop (mkF m 173 (own_F10 i1 i2 i3 i4 i5 i6 v3 v7 (2 : Int32) (2 : Int32) v14 v18 z_163 z_209 b210 b212) [(.int c1_209), (.int c1_163)])) t → Steps p.tables e below (s₁.setTop (entryFrame m #[(.int i1), (.int i2), (.int i3), (.int i4), (.int i5), (.int i6)] maxLocals)) t := fun t k => by
        refine w164 t ?_
        refine XS.iload X163.here hx rfl (hb hby at_119) rfl ?_
        show Steps p.tables e below (T163.setTop (mkF m 121 (own_F7 i1 i2 i3 i4 i5 i6 v3 v7 (2 : Int32) (2 : Int32) v14 v18 z_163) [(.int (2 : Int32))])) _
        refine XS.iload X163.here hx rfl (hb hby at_121) rfl ?_
        show Steps p.tables e below (T163.setTop (mkF m 123 (own_F7 i1 i2 i3 i4 i5 i6 v3 v7 (2 : Int32) (2 : Int32) v14 v18 z_163) [(.int v14), (.int (2 : Int32))])) _
        refine XS.iload X163.here hx rfl (hb hby at_123) rfl ?_
        show Steps p.tables e below (T163.setTop (mkF m 125 (own_F7 i1 i2 i3 i4 i5 i6 v3 v7 (2 : Int32) (2 : Int32) v14 v18 z_163) [(.int v18), (.int v14), (.int (2 : Int32))])) _
        refine st209 _ ?_
        show Steps p.tables e below (T209.setTop (mkF m 128 (own_F7 i1 i2 i3 i4 i5 i6 v3 v7 (2 : Int32) (2 : Int32) v14 v18 z_163) [(.ref z_209)])) _
        refine XS.astore X209.here hx rfl (hb hby at_128) rfl rfl (l' := (own_F8 i1 i2 i3 i4 i5 i6 v3 v7 (2 : Int32) (2 : Int32) v14 v18 z_163 z_209)) rfl ?_
        show Steps p.tables e below (T209.setTop (mkF m 130 (own_F8 i1 i2 i3 i4 i5 i6 v3 v7 (2 : Int32) (2 : Int32) v14 v18 z_163 z_209) [])) _
        refine st210 _ ?_
        show Steps p.tables e below (T210.setTop (mkF m 133 (own_F8 i1 i2 i3 i4 i5 i6 v3 v7 (2 : Int32) (2 : Int32) v14 v18 z_163 z_209) [(.ref b210)])) _
        refine XS.dup X210.here hx rfl (hb hby at_133) rfl rfl ?_
        show Steps p.tables e below (T210.setTop (mkF m 134 (own_F8 i1 i2 i3 i4 i5 i6 v3 v7 (2 : Int32) (2 : Int32) v14 v18 z_163 z_209) [(.ref b210), (.ref b210)])) _
        refine XS.aload X210.here hx rfl (hb hby at_134) rfl rfl ?_
        show Steps p.tables e below (T210.setTop (mkF m 136 (own_F8 i1 i2 i3 i4 i5 i6 v3 v7 (2 : Int32) (2 : Int32) v14 v18 z_163 z_209) [(.ref z_163), (.ref b210), (.ref b210)])) _
        refine st211.trans ?_
        show Steps p.tables e below (T211.setTop (mkF m 139 (own_F8 i1 i2 i3 i4 i5 i6 v3 v7 (2 : Int32) (2 : Int32) v14 v18 z_163 z_209) [(.ref b210)])) _
        refine XS.astore X211.here hx rfl (hb hby at_139) rfl rfl (l' := (own_F9 i1 i2 i3 i4 i5 i6 v3 v7 (2 : Int32) (2 : Int32) v14 v18 z_163 z_209 b210)) rfl ?_
        show Steps p.tables e below (T211.setTop (mkF m 141 (own_F9 i1 i2 i3 i4 i5 i6 v3 v7 (2 : Int32) (2 : Int32) v14 v18 z_163 z_209 b210) [])) _
        refine st212 _ ?_
        show Steps p.tables e below (T212.setTop (mkF m 144 (own_F9 i1 i2 i3 i4 i5 i6 v3 v7 (2 : Int32) (2 : Int32) v14 v18 z_163 z_209 b210) [(.ref b212)])) _
        refine XS.dup X212.here hx rfl (hb hby at_144) rfl rfl ?_
        show Steps p.tables e below (T212.setTop (mkF m 145 (own_F9 i1 i2 i3 i4 i5 i6 v3 v7 (2 : Int32) (2 : Int32) v14 v18 z_163 z_209 b210) [(.ref b212), (.ref b212)])) _
        refine XS.aload X212.here hx rfl (hb hby at_145) rfl rfl ?_
        show Steps p.tables e below (T212.setTop (mkF m 147 (own_F9 i1 i2 i3 i4 i5 i6 v3 v7 (2 : Int32) (2 : Int32) v14 v18 z_163 z_209 b210) [(.ref z_209), (.ref b212), (.ref b212)])) _
        refine st213.trans ?_
        show Steps p.tables e below (T213.setTop (mkF m 150 (own_F9 i1 i2 i3 i4 i5 i6 v3 v7 (2 : Int32) (2 : Int32) v14 v18 z_163 z_209 b210) [(.ref b212)])) _
        refine XS.astore X213.here hx rfl (hb hby at_150) rfl rfl (l' := (own_F10 i1 i2 i3 i4 i5 i6 v3 v7 (2 : Int32) (2 : Int32) v14 v18 z_163 z_209 b210 b212)) rfl ?_
        show Steps p.tables e below (T213.setTop (mkF m 152 (own_F10 i1 i2 i3 i4 i5 i6 v3 v7 (2 : Int32) (2 : Int32) v14 v18 z_163 z_209 b210 b212) [])) _
        refine XS.iload X213.here hx rfl (hb hby at_152) rfl ?_
        show Steps p.tables e below (T213.setTop (mkF m 154 (own_F10 i1 i2 i3 i4 i5 i6 v3 v7 (2 : Int32) (2 : Int32) v14 v18 z_163 z_209 b210 b212) [(.int (2 : Int32))])) _
        refine XS.iload X213.here hx rfl (hb hby at_154) rfl ?_
        show Steps p.tables e below (T213.setTop (mkF m 156 (own_F10 i1 i2 i3 i4 i5 i6 v3 v7 (2 : Int32) (2 : Int32) v14 v18 z_163 z_209 b210 b212) [(.int (2 : Int32)), (.int (2 : Int32))])) _
        refine XS.icmpNo X213.here hx rfl (hb hby at_156) rfl (teq (rfl : (2 : Int32) = (2 : Int32))).2 ?_
        show Steps p.tables e below (T213.setTop (mkF m 159 (own_F10 i1 i2 i3 i4 i5 i6 v3 v7 (2 : Int32) (2 : Int32) v14 v18 z_163 z_209 b210 b212) [])) _
        refine XS.iload X213.here hx rfl (hb hby at_159) rfl ?_
        show Steps p.tables e below (T213.setTop (mkF m 161 (own_F10 i1 i2 i3 i4 i5 i6 v3 v7 (2 : Int32) (2 : Int32) v14 v18 z_163 z_209 b210 b212) [(.int (2 : Int32))])) _
        refine XS.iconst X213.here hx rfl (hb hby at_161) ?_
        show Steps p.tables e below (T213.setTop (mkF m 162 (own_F10 i1 i2 i3 i4 i5 i6 v3 v7 (2 : Int32) (2 : Int32) v14 v18 z_163 z_209 b210 b212) [(.int (1 : Int32)), (.int (2 : Int32))])) _
        refine XS.icmpNo X213.here hx rfl (hb hby at_162) rfl (flt ((by decide) : ¬ ((2 : Int32) < (1 : Int32)))).1 ?_
        show Steps p.tables e below (T213.setTop (mkF m 165 (own_F10 i1 i2 i3 i4 i5 i6 v3 v7 (2 : Int32) (2 : Int32) v14 v18 z_163 z_209 b210 b212) [])) _
        refine XS.aload X213.here hx rfl (hb hby at_165) rfl rfl ?_
        show Steps p.tables e below (T213.setTop (mkF m 167 (own_F10 i1 i2 i3 i4 i5 i6 v3 v7 (2 : Int32) (2 : Int32) v14 v18 z_163 z_209 b210 b212) [(.ref z_163)])) _
        refine XS.iconst X213.here hx rfl (hb hby at_167) ?_
        show Steps p.tables e below (T213.setTop (mkF m 168 (own_F10 i1 i2 i3 i4 i5 i6 v3 v7 (2 : Int32) (2 : Int32) v14 v18 z_163 z_209 b210 b212) [(.int (0 : Int32)), (.ref z_163)])) _
        refine X213.caload hx (j := (0 : Int32)) (v := (.int c1_163)) (by exact Ar214.1) (State.isArrayOf_alike hZ.alike Ar214.2.1) Ar214.2.2 hin214 hat214 (g := (mkF m 168 (own_F10 i1 i2 i3 i4 i5 i6 v3 v7 (2 : Int32) (2 : Int32) v14 v18 z_163 z_209 b210 b212) [(.int (0 : Int32)), (.ref z_163)])) rfl rfl (hb hby at_168) _ ?_
        show Steps p.tables e below (T213.setTop (mkF m 169 (own_F10 i1 i2 i3 i4 i5 i6 v3 v7 (2 : Int32) (2 : Int32) v14 v18 z_163 z_209 b210 b212) [(.int c1_163)])) _
        refine XS.aload X213.here hx rfl (hb hby at_169) rfl rfl ?_
        show Steps p.tables e below (T213.setTop (mkF m 171 (own_F10 i1 i2 i3 i4 i5 i6 v3 v7 (2 : Int32) (2 : Int32) v14 v18 z_163 z_209 b210 b212) [(.ref z_209), (.int c1_163)])) _
        refine XS.iconst X213.here hx rfl (hb hby at_171) ?_
        show Steps p.tables e below (T213.setTop (mkF m 172 (own_F10 i1 i2 i3 i4 i5 i6 v3 v7 (2 : Int32) (2 : Int32) v14 v18 z_163 z_209 b210 b212) [(.int (0 : Int32)), (.ref z_209), (.int c1_163)])) _
        refine X213.caload hx (j := (0 : Int32)) (v := (.int c1_209)) (by exact Ar215.1) (State.isArrayOf_alike hZ.alike Ar215.2.1) Ar215.2.2 hin215 hat215 (g := (mkF m 172 (own_F10 i1 i2 i3 i4 i5 i6 v3 v7 (2 : Int32) (2 : Int32) v14 v18 z_163 z_209 b210 b212) [(.int (0 : Int32)), (.ref z_209), (.int c1_163)])) rfl rfl (hb hby at_172) _ ?_
        show Steps p.tables e below (T213.setTop (mkF m 173 (own_F10 i1 i2 i3 i4 i5 i6 v3 v7 (2 : Int32) (2 : Int32) v14 v18 z_163 z_209 b210 b212) [(.int c1_209), (.int c1_163)])) _
        exact k
      obtain ⟨cl218, Ar218, q218, Z218, N218, H218, G218⟩ := id V_z_c163
      have hin218 : ¬ ((1 : Int32) < 0 ∨ cl218.slots.size ≤ ((1 : Int32)).toNatClampNeg) := inb_of Z218 ⟨by decide, by decide⟩
      have hat218 : cl218.slots[((1 : Int32)).toNatClampNeg]? = some (.int d1_163) := H218.at hin218 rfl
      obtain ⟨cl219, Ar219, q219, Z219, N219, H219, G219⟩ := id V_z_c209
      have hin219 : ¬ ((1 : Int32) < 0 ∨ cl219.slots.size ≤ ((1 : Int32)).toNatClampNeg) := inb_of Z219 ⟨by decide, by decide⟩
      have hat219 : cl219.slots[((1 : Int32)).toNatClampNeg]? = some (.int d1_209) := H219.at hin219 rfl
      obtain ⟨sm, hsm⟩ : ∃ v : Int32, v = (if c1_163 = c1_209 then (if d1_163 = d1_209 then (1 : Int32) else (0 : Int32)) else (0 : Int32)) := ⟨_, rfl⟩
      have w221 : ∀ t, Steps p.tables e below (T213.setTop (mkF m 198 (own_F10 i1 i2 i3 i4 i5 i6 v3 v7 (2 : Int32) (2 : Int32) v14 v18 z_163 z_209 b210 b212) [(.int sm)])) t → Steps p.tables e below (s₁.setTop (entryFrame m #[(.int i1), (.int i2), (.int i3), (.int i4), (.int i5), (.int i6)] maxLocals)) t := fun t k => by
        refine w216 t ?_
        show Steps p.tables e below (T213.setTop (mkF m 173 (own_F10 i1 i2 i3 i4 i5 i6 v3 v7 (2 : Int32) (2 : Int32) v14 v18 z_163 z_209 b210 b212) [(.int c1_209), (.int c1_163)])) _
        by_cases hm217 : c1_163 = c1_209
        · refine XS.icmpNo X213.here hx rfl (hb hby at_173) rfl (teq hm217).2 ?_
          show Steps p.tables e below (T213.setTop (mkF m 176 (own_F10 i1 i2 i3 i4 i5 i6 v3 v7 (2 : Int32) (2 : Int32) v14 v18 z_163 z_209 b210 b212) [])) _
          refine XS.iload X213.here hx rfl (hb hby at_176) rfl ?_
          show Steps p.tables e below (T213.setTop (mkF m 178 (own_F10 i1 i2 i3 i4 i5 i6 v3 v7 (2 : Int32) (2 : Int32) v14 v18 z_163 z_209 b210 b212) [(.int (2 : Int32))])) _
          refine XS.iconst X213.here hx rfl (hb hby at_178) ?_
          show Steps p.tables e below (T213.setTop (mkF m 179 (own_F10 i1 i2 i3 i4 i5 i6 v3 v7 (2 : Int32) (2 : Int32) v14 v18 z_163 z_209 b210 b212) [(.int (2 : Int32)), (.int (2 : Int32))])) _
          refine XS.icmpNo X213.here hx rfl (hb hby at_179) rfl (flt ((by decide) : ¬ ((2 : Int32) < (2 : Int32)))).1 ?_
          show Steps p.tables e below (T213.setTop (mkF m 182 (own_F10 i1 i2 i3 i4 i5 i6 v3 v7 (2 : Int32) (2 : Int32) v14 v18 z_163 z_209 b210 b212) [])) _
          refine XS.aload X213.here hx rfl (hb hby at_182) rfl rfl ?_
          show Steps p.tables e below (T213.setTop (mkF m 184 (own_F10 i1 i2 i3 i4 i5 i6 v3 v7 (2 : Int32) (2 : Int32) v14 v18 z_163 z_209 b210 b212) [(.ref z_163)])) _
          refine XS.iconst X213.here hx rfl (hb hby at_184) ?_
          show Steps p.tables e below (T213.setTop (mkF m 185 (own_F10 i1 i2 i3 i4 i5 i6 v3 v7 (2 : Int32) (2 : Int32) v14 v18 z_163 z_209 b210 b212) [(.int (1 : Int32)), (.ref z_163)])) _
          refine X213.caload hx (j := (1 : Int32)) (v := (.int d1_163)) (by exact Ar218.1) (State.isArrayOf_alike hZ.alike Ar218.2.1) Ar218.2.2 hin218 hat218 (g := (mkF m 185 (own_F10 i1 i2 i3 i4 i5 i6 v3 v7 (2 : Int32) (2 : Int32) v14 v18 z_163 z_209 b210 b212) [(.int (1 : Int32)), (.ref z_163)])) rfl rfl (hb hby at_185) _ ?_
          show Steps p.tables e below (T213.setTop (mkF m 186 (own_F10 i1 i2 i3 i4 i5 i6 v3 v7 (2 : Int32) (2 : Int32) v14 v18 z_163 z_209 b210 b212) [(.int d1_163)])) _
          refine XS.aload X213.here hx rfl (hb hby at_186) rfl rfl ?_
          show Steps p.tables e below (T213.setTop (mkF m 188 (own_F10 i1 i2 i3 i4 i5 i6 v3 v7 (2 : Int32) (2 : Int32) v14 v18 z_163 z_209 b210 b212) [(.ref z_209), (.int d1_163)])) _
          refine XS.iconst X213.here hx rfl (hb hby at_188) ?_
          show Steps p.tables e below (T213.setTop (mkF m 189 (own_F10 i1 i2 i3 i4 i5 i6 v3 v7 (2 : Int32) (2 : Int32) v14 v18 z_163 z_209 b210 b212) [(.int (1 : Int32)), (.ref z_209), (.int d1_163)])) _
          refine X213.caload hx (j := (1 : Int32)) (v := (.int d1_209)) (by exact Ar219.1) (State.isArrayOf_alike hZ.alike Ar219.2.1) Ar219.2.2 hin219 hat219 (g := (mkF m 189 (own_F10 i1 i2 i3 i4 i5 i6 v3 v7 (2 : Int32) (2 : Int32) v14 v18 z_163 z_209 b210 b212) [(.int (1 : Int32)), (.ref z_209), (.int d1_163)])) rfl rfl (hb hby at_189) _ ?_
          show Steps p.tables e below (T213.setTop (mkF m 190 (own_F10 i1 i2 i3 i4 i5 i6 v3 v7 (2 : Int32) (2 : Int32) v14 v18 z_163 z_209 b210 b212) [(.int d1_209), (.int d1_163)])) _
          by_cases hm220 : d1_163 = d1_209
          · refine XS.icmpNo X213.here hx rfl (hb hby at_190) rfl (teq hm220).2 ?_
            show Steps p.tables e below (T213.setTop (mkF m 193 (own_F10 i1 i2 i3 i4 i5 i6 v3 v7 (2 : Int32) (2 : Int32) v14 v18 z_163 z_209 b210 b212) [])) _
            refine XS.iconst X213.here hx rfl (hb hby at_193) ?_
            show Steps p.tables e below (T213.setTop (mkF m 194 (own_F10 i1 i2 i3 i4 i5 i6 v3 v7 (2 : Int32) (2 : Int32) v14 v18 z_163 z_209 b210 b212) [(.int (1 : Int32))])) _
            refine XS.goto X213.here hx rfl (pc0 := 194) (pc' := 198) rfl (hb hby at_194) (by decide) (by decide) ?_
            show Steps p.tables e below (T213.setTop (mkF m 198 (own_F10 i1 i2 i3 i4 i5 i6 v3 v7 (2 : Int32) (2 : Int32) v14 v18 z_163 z_209 b210 b212) [(.int (1 : Int32))])) _
            rw [show sm = (1 : Int32) from by rw [hsm]; simp only [if_pos hm217, if_pos hm220]] at k
            exact k
          · refine XS.icmpYes X213.here hx rfl (pc0 := 190) (pc' := 197) rfl (hb hby at_190) rfl (feq hm220).2 (by decide) (by decide) ?_
            show Steps p.tables e below (T213.setTop (mkF m 197 (own_F10 i1 i2 i3 i4 i5 i6 v3 v7 (2 : Int32) (2 : Int32) v14 v18 z_163 z_209 b210 b212) [])) _
            refine XS.iconst X213.here hx rfl (hb hby at_197) ?_
            show Steps p.tables e below (T213.setTop (mkF m 198 (own_F10 i1 i2 i3 i4 i5 i6 v3 v7 (2 : Int32) (2 : Int32) v14 v18 z_163 z_209 b210 b212) [(.int (0 : Int32))])) _
            rw [show sm = (0 : Int32) from by rw [hsm]; simp only [if_pos hm217, if_neg hm220]] at k
            exact k
        · refine XS.icmpYes X213.here hx rfl (pc0 := 173) (pc' := 197) rfl (hb hby at_173) rfl (feq hm217).2 (by decide) (by decide) ?_
          show Steps p.tables e below (T213.setTop (mkF m 197 (own_F10 i1 i2 i3 i4 i5 i6 v3 v7 (2 : Int32) (2 : Int32) v14 v18 z_163 z_209 b210 b212) [])) _
          refine XS.iconst X213.here hx rfl (hb hby at_197) ?_
          show Steps p.tables e below (T213.setTop (mkF m 198 (own_F10 i1 i2 i3 i4 i5 i6 v3 v7 (2 : Int32) (2 : Int32) v14 v18 z_163 z_209 b210 b212) [(.int (0 : Int32))])) _
          rw [show sm = (0 : Int32) from by rw [hsm]; simp only [if_neg hm217]] at k
          exact k
      have w222 : ∀ t, Steps p.tables e below (T213.setTop (mkF m 203 (own_F11 i1 i2 i3 i4 i5 i6 v3 v7 (2 : Int32) (2 : Int32) v14 v18 z_163 z_209 b210 b212 sm) [(.int v3), (.int i1)])) t → Steps p.tables e below (s₁.setTop (entryFrame m #[(.int i1), (.int i2), (.int i3), (.int i4), (.int i5), (.int i6)] maxLocals)) t := fun t k => by
        refine w221 t ?_
        refine XS.istore X213.here hx rfl (hb hby at_198) rfl (l' := (own_F11 i1 i2 i3 i4 i5 i6 v3 v7 (2 : Int32) (2 : Int32) v14 v18 z_163 z_209 b210 b212 sm)) rfl ?_
        show Steps p.tables e below (T213.setTop (mkF m 200 (own_F11 i1 i2 i3 i4 i5 i6 v3 v7 (2 : Int32) (2 : Int32) v14 v18 z_163 z_209 b210 b212 sm) [])) _
        refine XS.iloadN X213.here hx rfl (hb hby at_200) rfl ?_
        show Steps p.tables e below (T213.setTop (mkF m 201 (own_F11 i1 i2 i3 i4 i5 i6 v3 v7 (2 : Int32) (2 : Int32) v14 v18 z_163 z_209 b210 b212 sm) [(.int i1)])) _
        refine XS.iload X213.here hx rfl (hb hby at_201) rfl ?_
        show Steps p.tables e below (T213.setTop (mkF m 203 (own_F11 i1 i2 i3 i4 i5 i6 v3 v7 (2 : Int32) (2 : Int32) v14 v18 z_163 z_209 b210 b212 sm) [(.int v3), (.int i1)])) _
        exact k
      obtain ⟨ve, hve⟩ : ∃ v : Int32, v = (if i1 = v3 then (if i3 = v7 then (if sm = (0 : Int32) then (0 : Int32) else (1 : Int32)) else (0 : Int32)) else (0 : Int32)) := ⟨_, rfl⟩
      have w226 : ∀ t, Steps p.tables e below (T213.setTop (mkF m 222 (own_F11 i1 i2 i3 i4 i5 i6 v3 v7 (2 : Int32) (2 : Int32) v14 v18 z_163 z_209 b210 b212 sm) [(.int ve)])) t → Steps p.tables e below (s₁.setTop (entryFrame m #[(.int i1), (.int i2), (.int i3), (.int i4), (.int i5), (.int i6)] maxLocals)) t := fun t k => by
        refine w222 t ?_
        show Steps p.tables e below (T213.setTop (mkF m 203 (own_F11 i1 i2 i3 i4 i5 i6 v3 v7 (2 : Int32) (2 : Int32) v14 v18 z_163 z_209 b210 b212 sm) [(.int v3), (.int i1)])) _
        by_cases hm223 : i1 = v3
        · refine XS.icmpNo X213.here hx rfl (hb hby at_203) rfl (teq hm223).2 ?_
          show Steps p.tables e below (T213.setTop (mkF m 206 (own_F11 i1 i2 i3 i4 i5 i6 v3 v7 (2 : Int32) (2 : Int32) v14 v18 z_163 z_209 b210 b212 sm) [])) _
          refine XS.iloadN X213.here hx rfl (hb hby at_206) rfl ?_
          show Steps p.tables e below (T213.setTop (mkF m 207 (own_F11 i1 i2 i3 i4 i5 i6 v3 v7 (2 : Int32) (2 : Int32) v14 v18 z_163 z_209 b210 b212 sm) [(.int i3)])) _
          refine XS.iload X213.here hx rfl (hb hby at_207) rfl ?_
          show Steps p.tables e below (T213.setTop (mkF m 209 (own_F11 i1 i2 i3 i4 i5 i6 v3 v7 (2 : Int32) (2 : Int32) v14 v18 z_163 z_209 b210 b212 sm) [(.int v7), (.int i3)])) _
          by_cases hm224 : i3 = v7
          · refine XS.icmpNo X213.here hx rfl (hb hby at_209) rfl (teq hm224).2 ?_
            show Steps p.tables e below (T213.setTop (mkF m 212 (own_F11 i1 i2 i3 i4 i5 i6 v3 v7 (2 : Int32) (2 : Int32) v14 v18 z_163 z_209 b210 b212 sm) [])) _
            refine XS.iload X213.here hx rfl (hb hby at_212) rfl ?_
            show Steps p.tables e below (T213.setTop (mkF m 214 (own_F11 i1 i2 i3 i4 i5 i6 v3 v7 (2 : Int32) (2 : Int32) v14 v18 z_163 z_209 b210 b212 sm) [(.int sm)])) _
            by_cases hm225 : sm = (0 : Int32)
            · refine XS.ifYes X213.here hx rfl (pc0 := 214) (pc' := 221) rfl (hb hby at_214) rfl ((if0 _ _).trans (teq hm225).1) (by decide) (by decide) ?_
              show Steps p.tables e below (T213.setTop (mkF m 221 (own_F11 i1 i2 i3 i4 i5 i6 v3 v7 (2 : Int32) (2 : Int32) v14 v18 z_163 z_209 b210 b212 sm) [])) _
              refine XS.iconst X213.here hx rfl (hb hby at_221) ?_
              show Steps p.tables e below (T213.setTop (mkF m 222 (own_F11 i1 i2 i3 i4 i5 i6 v3 v7 (2 : Int32) (2 : Int32) v14 v18 z_163 z_209 b210 b212 sm) [(.int (0 : Int32))])) _
              rw [show ve = (0 : Int32) from by rw [hve]; simp only [if_pos hm223, if_pos hm224, if_pos hm225]] at k
              exact k
            · refine XS.ifNo X213.here hx rfl (hb hby at_214) rfl ((if0 _ _).trans (feq hm225).1) ?_
              show Steps p.tables e below (T213.setTop (mkF m 217 (own_F11 i1 i2 i3 i4 i5 i6 v3 v7 (2 : Int32) (2 : Int32) v14 v18 z_163 z_209 b210 b212 sm) [])) _
              refine XS.iconst X213.here hx rfl (hb hby at_217) ?_
              show Steps p.tables e below (T213.setTop (mkF m 218 (own_F11 i1 i2 i3 i4 i5 i6 v3 v7 (2 : Int32) (2 : Int32) v14 v18 z_163 z_209 b210 b212 sm) [(.int (1 : Int32))])) _
              refine XS.goto X213.here hx rfl (pc0 := 218) (pc' := 222) rfl (hb hby at_218) (by decide) (by decide) ?_
              show Steps p.tables e below (T213.setTop (mkF m 222 (own_F11 i1 i2 i3 i4 i5 i6 v3 v7 (2 : Int32) (2 : Int32) v14 v18 z_163 z_209 b210 b212 sm) [(.int (1 : Int32))])) _
              rw [show ve = (1 : Int32) from by rw [hve]; simp only [if_pos hm223, if_pos hm224, if_neg hm225]] at k
              exact k
          · refine XS.icmpYes X213.here hx rfl (pc0 := 209) (pc' := 221) rfl (hb hby at_209) rfl (feq hm224).2 (by decide) (by decide) ?_
            show Steps p.tables e below (T213.setTop (mkF m 221 (own_F11 i1 i2 i3 i4 i5 i6 v3 v7 (2 : Int32) (2 : Int32) v14 v18 z_163 z_209 b210 b212 sm) [])) _
            refine XS.iconst X213.here hx rfl (hb hby at_221) ?_
            show Steps p.tables e below (T213.setTop (mkF m 222 (own_F11 i1 i2 i3 i4 i5 i6 v3 v7 (2 : Int32) (2 : Int32) v14 v18 z_163 z_209 b210 b212 sm) [(.int (0 : Int32))])) _
            rw [show ve = (0 : Int32) from by rw [hve]; simp only [if_pos hm223, if_neg hm224]] at k
            exact k
        · refine XS.icmpYes X213.here hx rfl (pc0 := 203) (pc' := 221) rfl (hb hby at_203) rfl (feq hm223).2 (by decide) (by decide) ?_
          show Steps p.tables e below (T213.setTop (mkF m 221 (own_F11 i1 i2 i3 i4 i5 i6 v3 v7 (2 : Int32) (2 : Int32) v14 v18 z_163 z_209 b210 b212 sm) [])) _
          refine XS.iconst X213.here hx rfl (hb hby at_221) ?_
          show Steps p.tables e below (T213.setTop (mkF m 222 (own_F11 i1 i2 i3 i4 i5 i6 v3 v7 (2 : Int32) (2 : Int32) v14 v18 z_163 z_209 b210 b212 sm) [(.int (0 : Int32))])) _
          rw [show ve = (0 : Int32) from by rw [hve]; simp only [if_neg hm223]] at k
          exact k
      obtain ⟨T227, h227, X227, e227, E227, A227, D227, -, st227⟩ := newO X213 hx hZ hown (hw _ (List.mem_of_getElem? (i := 26) rfl)) (hw _ (List.mem_of_getElem? (i := 27) rfl)) (hw _ (List.mem_of_getElem? (i := 28) rfl)) rfl (g := (mkF m 224 (own_F12 i1 i2 i3 i4 i5 i6 v3 v7 (2 : Int32) (2 : Int32) v14 v18 z_163 z_209 b210 b212 sm ve) [])) rfl (hb hby at_224) (by decide) (by decide)
      obtain ⟨b227, gq227⟩ : ∃ z, z = Array.size T213.heap := ⟨_, rfl⟩
      rw [← gq227] at A227 D227 st227
      have ne_z_163_b227 : z_163 ≠ b227 := Nat.ne_of_lt (Nat.lt_of_lt_of_le V_z_c163.lt (Nat.le_of_eq gq227.symm))
      have ne_z_209_b227 : z_209 ≠ b227 := Nat.ne_of_lt (Nat.lt_of_lt_of_le V_z_c209.lt (Nat.le_of_eq gq227.symm))
      have ne_b210_b227 : b210 ≠ b227 := Nat.ne_of_lt (Nat.lt_of_lt_of_le Ex211.lt (Nat.le_of_eq gq227.symm))
      have ne_t211_b227 : t211 ≠ b227 := Nat.ne_of_lt (Nat.lt_of_lt_of_le Av211.lt (Nat.le_of_eq gq227.symm))
      have ne_b212_b227 : b212 ≠ b227 := Nat.ne_of_lt (Nat.lt_of_lt_of_le Ex213.lt (Nat.le_of_eq gq227.symm))
      have ne_t213_b227 : t213 ≠ b227 := Nat.ne_of_lt (Nat.lt_of_lt_of_le Av213.lt (Nat.le_of_eq gq227.symm))
      have g_b227 : n0 ≤ b227 := Nat.le_trans (O.1 ▸ O.2.1) (Nat.le_of_eq gq227.symm)
      have sf_b227 := own_safeN C.1 E227 (Nat.le_of_eq gq227.symm)
      have R := CHr.ext E227 C.1
      have sf_b210 := R.safe Ex211.lt sf_b210
      have sf_b212 := R.safe Ex213.lt sf_b212
      have C := C.trans R
      have hk := Nat.le_trans hk E227.1
      have V_z_c163 := V_z_c163.ext E227
      have V_z_c209 := V_z_c209.ext E227
      have Ex211 := Ex211.ext E227
      have Fc211 := Fc211.ext E227
      have Fv211 := Fv211.ext E227
      have Av211 := Av211.ext E227
      have Ex213 := Ex213.ext E227
      have Fc213 := Fc213.ext E227
      have Fv213 := Fv213.ext E227
      have Av213 := Av213.ext E227
      have O := O.ext E227
      have F_id_b227 : Fld Z h227 b227 "com/example/whirligig/whirligig/DownloadInfoIndication$Unreadable" "id" "I" (.int (0 : Int32)) := D227 (Or.inr (hw _ (List.mem_of_getElem? (i := 39) rfl))) (ty := .int) (by decide)
      have F_version_b227 : Fld Z h227 b227 "com/example/whirligig/whirligig/DownloadInfoIndication$Unreadable" "version" "I" (.int (0 : Int32)) := D227 (Or.inr (hw _ (List.mem_of_getElem? (i := 41) rfl))) (ty := .int) (by decide)
      have F_reason_b227 : Fld Z h227 b227 "com/example/whirligig/whirligig/DownloadInfoIndication$Unreadable" "reason" "Ljava/lang/String;" .null := D227 (Or.inr (hw _ (List.mem_of_getElem? (i := 43) rfl))) (ty := (.object "java/lang/String")) (by decide)
      obtain ⟨_, _, ⟨T228, L228, k228, n228⟩, -, X228, ⟨Lc228, hQ228, l228, y228, z228⟩, st228⟩ := X227.specialBack hx (y := (⟨"com/example/whirligig/whirligig/DownloadInfoIndication$Unreadable", "<init>", "(IILjava/lang/String;)V"⟩ : MethodName)) rfl hown (mvT hZ (hw _ (List.mem_of_getElem? (i := 29) rfl))) (mvT hZ (hw _ (List.mem_of_getElem? (i := 30) rfl))) (mvT hZ (hw _ (List.mem_of_getElem? (i := 31) rfl))) (by decide) (backOf (W := 1) (rm5 l Z a0 hw [] b227 i1 i3 b210 h227 n0 O A227 F_id_b227 F_version_b227 F_reason_b227 g_b227) hZ (hw _ (List.mem_of_getElem? (i := 31) rfl)) (hw _ (List.mem_of_getElem? (i := 28) rfl)) (by decide) (by decide)) (g := (mkF m 232 (own_F12 i1 i2 i3 i4 i5 i6 v3 v7 (2 : Int32) (2 : Int32) v14 v18 z_163 z_209 b210 b212 sm ve) [(.ref b210), (.int i3), (.int i1), (.ref b227), (.ref b227)])) rfl (by rw [hml]; rfl) (Steps.refl _) (a := b227) (argsL := [(.int i1), (.int i3), (.ref b210)]) (rest := [(.ref b227)]) (lenOf pd__40IILjava_47lang_47String_59_41V rfl) rfl (by show 2 * 0 + _ ≤ _; exact Nat.le_of_eq rfl) (hb hby at_232) (fun _ _ => ⟨rfl, e227, (by decide : 7 + 0 ≤ _), (by decide : 19 + 0 ≤ _)⟩)
      dsimp only [Pt.U, Pt.locs, Pt.cells, Pt.slots] at X228 l228 y228 z228 st228 hQ228
      subst l228 y228 z228
      obtain ⟨rfl, N228q, K228, F_i_a_c228, F_w_a_c228, F_r_a_c228⟩ := hQ228
      have N228 := Fr.app N213 N228q
      have R := CHr.keep K228 (allS sf_b227 all0) C.1
      have sf_b210 := R.safe Ex211.lt sf_b210
      have sf_b212 := R.safe Ex213.lt sf_b212
      have sf_b227 := R.safe A227.lt sf_b227
      have C := C.trans R
      have hk := Nat.le_trans hk K228.1
      have V_z_c163 := V_z_c163.keep K228 (ninS ne_z_163_b227 nin0)
      have V_z_c209 := V_z_c209.keep K228 (ninS ne_z_209_b227 nin0)
      have Ex211 := Ex211.keep K228
      have Fc211 := Fc211.keep K228 (ninS ne_b210_b227 nin0)
      have Fv211 := Fv211.keep K228 (ninS ne_b210_b227 nin0)
      have Av211 := Av211.keep K228 (ninS ne_t211_b227 nin0)
      have Ex213 := Ex213.keep K228
      have Fc213 := Fc213.keep K228 (ninS ne_b212_b227 nin0)
      have Fv213 := Fv213.keep K228 (ninS ne_b212_b227 nin0)
      have Av213 := Av213.keep K228 (ninS ne_t213_b227 nin0)
      have A227 := A227.keep K228
      have O := O.keep K228 (allS g_b227 all0)
      obtain ⟨T229, h229, X229, e229, E229, A229, D229, -, st229⟩ := newO X228 hx hZ hown (hw _ (List.mem_of_getElem? (i := 26) rfl)) (hw _ (List.mem_of_getElem? (i := 27) rfl)) (hw _ (List.mem_of_getElem? (i := 28) rfl)) rfl (g := (mkF m 237 (own_F13 i1 i2 i3 i4 i5 i6 v3 v7 (2 : Int32) (2 : Int32) v14 v18 z_163 z_209 b210 b212 sm ve b227) [])) rfl (hb hby at_237) (by decide) (by decide)
      obtain ⟨b229, gq229⟩ : ∃ z, z = Array.size T228.heap := ⟨_, rfl⟩
      rw [← gq229] at A229 D229 st229
      have ne_z_163_b229 : z_163 ≠ b229 := Nat.ne_of_lt (Nat.lt_of_lt_of_le V_z_c163.lt (Nat.le_of_eq gq229.symm))
      have ne_z_209_b229 : z_209 ≠ b229 := Nat.ne_of_lt (Nat.lt_of_lt_of_le V_z_c209.lt (Nat.le_of_eq gq229.symm))
      have ne_b210_b229 : b210 ≠ b229 := Nat.ne_of_lt (Nat.lt_of_lt_of_le Ex211.lt (Nat.le_of_eq gq229.symm))
      have ne_t211_b229 : t211 ≠ b229 := Nat.ne_of_lt (Nat.lt_of_lt_of_le Av211.lt (Nat.le_of_eq gq229.symm))
      have ne_b212_b229 : b212 ≠ b229 := Nat.ne_of_lt (Nat.lt_of_lt_of_le Ex213.lt (Nat.le_of_eq gq229.symm))
      have ne_t213_b229 : t213 ≠ b229 := Nat.ne_of_lt (Nat.lt_of_lt_of_le Av213.lt (Nat.le_of_eq gq229.symm))
      have ne_b227_b229 : b227 ≠ b229 := Nat.ne_of_lt (Nat.lt_of_lt_of_le A227.lt (Nat.le_of_eq gq229.symm))
      have g_b229 : n0 ≤ b229 := Nat.le_trans (O.1 ▸ O.2.1) (Nat.le_of_eq gq229.symm)
      have sf_b229 := own_safeN C.1 E229 (Nat.le_of_eq gq229.symm)
      have R := CHr.ext E229 C.1
      have sf_b210 := R.safe Ex211.lt sf_b210
      have sf_b212 := R.safe Ex213.lt sf_b212
      have sf_b227 := R.safe A227.lt sf_b227
      have C := C.trans R
      have hk := Nat.le_trans hk E229.1
      have V_z_c163 := V_z_c163.ext E229
      have V_z_c209 := V_z_c209.ext E229
      have Ex211 := Ex211.ext E229
      have Fc211 := Fc211.ext E229
      have Fv211 := Fv211.ext E229
      have Av211 := Av211.ext E229
      have Ex213 := Ex213.ext E229
      have Fc213 := Fc213.ext E229
      have Fv213 := Fv213.ext E229
      have Av213 := Av213.ext E229
      have A227 := A227.ext E229
      have F_i_a_c228 := F_i_a_c228.ext E229
      have F_w_a_c228 := F_w_a_c228.ext E229
      have F_r_a_c228 := F_r_a_c228.ext E229
      have O := O.ext E229
      have F_id_b229 : Fld Z h229 b229 "com/example/whirligig/whirligig/DownloadInfoIndication$Unreadable" "id" "I" (.int (0 : Int32)) := D229 (Or.inr (hw _ (List.mem_of_getElem? (i := 39) rfl))) (ty := .int) (by decide)
      have F_version_b229 : Fld Z h229 b229 "com/example/whirligig/whirligig/DownloadInfoIndication$Unreadable" "version" "I" (.int (0 : Int32)) := D229 (Or.inr (hw _ (List.mem_of_getElem? (i := 41) rfl))) (ty := .int) (by decide)
      have F_reason_b229 : Fld Z h229 b229 "com/example/whirligig/whirligig/DownloadInfoIndication$Unreadable" "reason" "Ljava/lang/String;" .null := D229 (Or.inr (hw _ (List.mem_of_getElem? (i := 43) rfl))) (ty := (.object "java/lang/String")) (by decide)
      obtain ⟨_, _, ⟨T230, L230, k230, n230⟩, -, X230, ⟨Lc230, hQ230, l230, y230, z230⟩, st230⟩ := X229.specialBack hx (y := (⟨"com/example/whirligig/whirligig/DownloadInfoIndication$Unreadable", "<init>", "(IILjava/lang/String;)V"⟩ : MethodName)) rfl hown (mvT hZ (hw _ (List.mem_of_getElem? (i := 29) rfl))) (mvT hZ (hw _ (List.mem_of_getElem? (i := 30) rfl))) (mvT hZ (hw _ (List.mem_of_getElem? (i := 31) rfl))) (by decide) (backOf (W := 1) (rm5 l Z a0 hw [] b229 v3 v7 b212 h229 n0 O A229 F_id_b229 F_version_b229 F_reason_b229 g_b229) hZ (hw _ (List.mem_of_getElem? (i := 31) rfl)) (hw _ (List.mem_of_getElem? (i := 28) rfl)) (by decide) (by decide)) (g := (mkF m 247 (own_F13 i1 i2 i3 i4 i5 i6 v3 v7 (2 : Int32) (2 : Int32) v14 v18 z_163 z_209 b210 b212 sm ve b227) [(.ref b212), (.int v7), (.int v3), (.ref b229), (.ref b229)])) rfl (by rw [hml]; rfl) (Steps.refl _) (a := b229) (argsL := [(.int v3), (.int v7), (.ref b212)]) (rest := [(.ref b229)]) (lenOf pd__40IILjava_47lang_47String_59_41V rfl) rfl (by show 2 * 0 + _ ≤ _; exact Nat.le_of_eq rfl) (hb hby at_247) (fun _ _ => ⟨rfl, e229, (by decide : 8 + 0 ≤ _), (by decide : 22 + 0 ≤ _)⟩)
      dsimp only [Pt.U, Pt.locs, Pt.cells, Pt.slots] at X230 l230 y230 z230 st230 hQ230
      subst l230 y230 z230
      obtain ⟨rfl, N230q, K230, F_i_a_c230, F_w_a_c230, F_r_a_c230⟩ := hQ230
      have N230 := Fr.app N228 N230q
      have R := CHr.keep K230 (allS sf_b229 all0) C.1
      have sf_b210 := R.safe Ex211.lt sf_b210
      have sf_b212 := R.safe Ex213.lt sf_b212
      have sf_b227 := R.safe A227.lt sf_b227
      have sf_b229 := R.safe A229.lt sf_b229
      have C := C.trans R
      have hk := Nat.le_trans hk K230.1
      have V_z_c163 := V_z_c163.keep K230 (ninS ne_z_163_b229 nin0)
      have V_z_c209 := V_z_c209.keep K230 (ninS ne_z_209_b229 nin0)
      have Ex211 := Ex211.keep K230
      have Fc211 := Fc211.keep K230 (ninS ne_b210_b229 nin0)
      have Fv211 := Fv211.keep K230 (ninS ne_b210_b229 nin0)
      have Av211 := Av211.keep K230 (ninS ne_t211_b229 nin0)
      have Ex213 := Ex213.keep K230
      have Fc213 := Fc213.keep K230 (ninS ne_b212_b229 nin0)
      have Fv213 := Fv213.keep K230 (ninS ne_b212_b229 nin0)
      have Av213 := Av213.keep K230 (ninS ne_t213_b229 nin0)
      have A227 := A227.keep K230
      have F_i_a_c228 := F_i_a_c228.keep K230 (ninS ne_b227_b229 nin0)
      have F_w_a_c228 := F_w_a_c228.keep K230 (ninS ne_b227_b229 nin0)
      have F_r_a_c228 := F_r_a_c228.keep K230 (ninS ne_b227_b229 nin0)
      have A229 := A229.keep K230
      have O := O.keep K230 (allS g_b229 all0)
      obtain ⟨cq231, kq231, q231a, q231b, q231c⟩ := isOf hZ rfl A227
      obtain ⟨_, _, ⟨T231, L231, k231, n231⟩, -, X231, ⟨Lc231, hQ231, l231, y231, z231⟩, st231⟩ := X230.virtualBack hx (y := (⟨"com/example/whirligig/whirligig/DownloadInfoIndication$Unreadable", "equals", "(Ljava/lang/Object;)Z"⟩ : MethodName)) (z := (⟨"com/example/whirligig/whirligig/DownloadInfoIndication$Unreadable", "equals", "(Ljava/lang/Object;)Z"⟩ : MethodName)) hown (mvT hZ (hw _ (List.mem_of_getElem? (i := 44) rfl))) (mvT hZ (hw _ (List.mem_of_getElem? (i := 45) rfl))) (notFace_of_selects (args := #[]) (mvT hZ (hw _ (List.mem_of_getElem? (i := 47) rfl)))) (mvT hZ (hw _ (List.mem_of_getElem? (i := 47) rfl))) (mvT hZ (hw _ (List.mem_of_getElem? (i := 46) rfl))) (by decide) (backOf (W := 0) (rm7 l Z a0 hw [] b227 b229 i1 v3 i3 v7 b210 b212 t211 t213 kb211 kb213 ([c1_163, d1_163] : List Int32) ([c1_209, d1_209] : List Int32) zc T230.heap n0 O A229 F_i_a_c228 F_i_a_c230 F_w_a_c228 F_w_a_c230 F_r_a_c228 F_r_a_c230 Ex211 Fv211 Fc211 Av211 Ex213 Fv213 Fc213 Av213 hp_b210 (Nat.le_trans h9_b210.2 (by decide)) hp_b212 (Nat.le_trans h9_b212.2 (by decide)) SC hzc) hZ (hw _ (List.mem_of_getElem? (i := 48) rfl)) (hw _ (List.mem_of_getElem? (i := 28) rfl)) (by decide) (by decide)) q231a q231c (g := (mkF m 264 (own_F16 i1 i2 i3 i4 i5 i6 v3 v7 (2 : Int32) (2 : Int32) v14 v18 z_163 z_209 b210 b212 sm ve b227 b229 b229 b227) [(.ref b229), (.ref b227)])) rfl (by rw [hml]; rfl) (Steps.refl _) (argsL := [(.ref b229)]) (rest := []) (lenOf pd__40Ljava_47lang_47Object_59_41Z rfl) rfl (by show 2 * 0 + _ ≤ _; exact Nat.le_of_eq rfl) (hb hby at_264) (fun _ _ => ⟨rfl, rfl, (by decide : 8 + 0 ≤ _), (by decide : 22 + 0 ≤ _)⟩)
      dsimp only [Pt.U, Pt.locs, Pt.cells, Pt.slots] at X231 l231 y231 z231 st231 hQ231
      subst l231 y231 z231
      obtain ⟨rfl, N231q, eh231⟩ := hQ231
      have N231 := Fr.app N230 N231q
      obtain ⟨cq232, kq232, q232a, q232b, q232c⟩ := isOf hZ eh231 A229
      obtain ⟨_, _, ⟨T232, L232, k232, n232⟩, -, X232, ⟨Lc232, hQ232, l232, y232, z232⟩, st232⟩ := X231.virtualBack hx (y := (⟨"com/example/whirligig/whirligig/DownloadInfoIndication$Unreadable", "equals", "(Ljava/lang/Object;)Z"⟩ : MethodName)) (z := (⟨"com/example/whirligig/whirligig/DownloadInfoIndication$Unreadable", "equals", "(Ljava/lang/Object;)Z"⟩ : MethodName)) hown (mvT hZ (hw _ (List.mem_of_getElem? (i := 44) rfl))) (mvT hZ (hw _ (List.mem_of_getElem? (i := 45) rfl))) (notFace_of_selects (args := #[]) (mvT hZ (hw _ (List.mem_of_getElem? (i := 47) rfl)))) (mvT hZ (hw _ (List.mem_of_getElem? (i := 47) rfl))) (mvT hZ (hw _ (List.mem_of_getElem? (i := 46) rfl))) (by decide) (backOf (W := 0) (rm7 l Z a0 hw [] b229 b227 v3 i1 v7 i3 b212 b210 t213 t211 kb213 kb211 ([c1_209, d1_209] : List Int32) ([c1_163, d1_163] : List Int32) zc T230.heap n0 O A227 F_i_a_c230 F_i_a_c228 F_w_a_c230 F_w_a_c228 F_r_a_c230 F_r_a_c228 Ex213 Fv213 Fc213 Av213 Ex211 Fv211 Fc211 Av211 hp_b212 (Nat.le_trans h9_b212.2 (by decide)) hp_b210 (Nat.le_trans h9_b210.2 (by decide)) SC hzc) hZ (hw _ (List.mem_of_getElem? (i := 48) rfl)) (hw _ (List.mem_of_getElem? (i := 28) rfl)) (by decide) (by decide)) q232a q232c (g := (mkF m 276 (own_F16 i1 i2 i3 i4 i5 i6 v3 v7 (2 : Int32) (2 : Int32) v14 v18 z_163 z_209 b210 b212 sm ve b227 b229 b229 b227) [(.ref b227), (.ref b229)])) rfl (by rw [hml]; rfl) (Steps.refl _) (argsL := [(.ref b227)]) (rest := []) (lenOf pd__40Ljava_47lang_47Object_59_41Z rfl) rfl (by show 2 * 0 + _ ≤ _; exact Nat.le_of_eq rfl) (hb hby at_276) (fun _ _ => ⟨rfl, eh231, (by decide : 8 + 0 ≤ _), (by decide : 22 + 0 ≤ _)⟩)
      dsimp only [Pt.U, Pt.locs, Pt.cells, Pt.slots] at X232 l232 y232 z232 st232 hQ232
      subst l232 y232 z232
      obtain ⟨rfl, N232q, eh232⟩ := hQ232
      have N232 := Fr.app N231 N232q
      obtain ⟨cq233, kq233, q233a, q233b, q233c⟩ := isOf hZ eh232 A227
      obtain ⟨_, _, ⟨T233, L233, k233, n233⟩, -, X233, ⟨Lc233, hQ233, l233, y233, z233⟩, st233⟩ := X232.virtualBack hx (y := (⟨"com/example/whirligig/whirligig/DownloadInfoIndication$Unreadable", "equals", "(Ljava/lang/Object;)Z"⟩ : MethodName)) (z := (⟨"com/example/whirligig/whirligig/DownloadInfoIndication$Unreadable", "equals", "(Ljava/lang/Object;)Z"⟩ : MethodName)) hown (mvT hZ (hw _ (List.mem_of_getElem? (i := 44) rfl))) (mvT hZ (hw _ (List.mem_of_getElem? (i := 45) rfl))) (notFace_of_selects (args := #[]) (mvT hZ (hw _ (List.mem_of_getElem? (i := 47) rfl)))) (mvT hZ (hw _ (List.mem_of_getElem? (i := 47) rfl))) (mvT hZ (hw _ (List.mem_of_getElem? (i := 46) rfl))) (by decide) (backOf (W := 0) (rm7 l Z a0 hw [] b227 b227 i1 i1 i3 i3 b210 b210 t211 t211 kb211 kb211 ([c1_163, d1_163] : List Int32) ([c1_163, d1_163] : List Int32) zc T230.heap n0 O A227 F_i_a_c228 F_i_a_c228 F_w_a_c228 F_w_a_c228 F_r_a_c228 F_r_a_c228 Ex211 Fv211 Fc211 Av211 Ex211 Fv211 Fc211 Av211 hp_b210 (Nat.le_trans h9_b210.2 (by decide)) hp_b210 (Nat.le_trans h9_b210.2 (by decide)) SC hzc) hZ (hw _ (List.mem_of_getElem? (i := 48) rfl)) (hw _ (List.mem_of_getElem? (i := 28) rfl)) (by decide) (by decide)) q233a q233c (g := (mkF m 288 (own_F16 i1 i2 i3 i4 i5 i6 v3 v7 (2 : Int32) (2 : Int32) v14 v18 z_163 z_209 b210 b212 sm ve b227 b229 b229 b227) [(.ref b227), (.ref b227)])) rfl (by rw [hml]; rfl) (Steps.refl _) (argsL := [(.ref b227)]) (rest := []) (lenOf pd__40Ljava_47lang_47Object_59_41Z rfl) rfl (by show 2 * 0 + _ ≤ _; exact Nat.le_of_eq rfl) (hb hby at_288) (fun _ _ => ⟨rfl, eh232, (by decide : 8 + 0 ≤ _), (by decide : 22 + 0 ≤ _)⟩)
      dsimp only [Pt.U, Pt.locs, Pt.cells, Pt.slots] at X233 l233 y233 z233 st233 hQ233
      subst l233 y233 z233
      obtain ⟨rfl, N233q, eh233⟩ := hQ233
      have N233 := Fr.app N232 N233q
      obtain ⟨cq234, kq234, q234a, q234b, q234c⟩ := isOf hZ eh233 A227
      obtain ⟨_, _, ⟨T234, L234, k234, n234⟩, -, X234, ⟨Lc234, hQ234, l234, y234, z234⟩, st234⟩ := X233.virtualBack hx (y := (⟨"com/example/whirligig/whirligig/DownloadInfoIndication$Unreadable", "equals", "(Ljava/lang/Object;)Z"⟩ : MethodName)) (z := (⟨"com/example/whirligig/whirligig/DownloadInfoIndication$Unreadable", "equals", "(Ljava/lang/Object;)Z"⟩ : MethodName)) hown (mvT hZ (hw _ (List.mem_of_getElem? (i := 44) rfl))) (mvT hZ (hw _ (List.mem_of_getElem? (i := 45) rfl))) (notFace_of_selects (args := #[]) (mvT hZ (hw _ (List.mem_of_getElem? (i := 47) rfl)))) (mvT hZ (hw _ (List.mem_of_getElem? (i := 47) rfl))) (mvT hZ (hw _ (List.mem_of_getElem? (i := 46) rfl))) (by decide) (backOf (W := 0) (rm7_n l Z a0 hw [] b227 T230.heap n0 O ) hZ (hw _ (List.mem_of_getElem? (i := 48) rfl)) (hw _ (List.mem_of_getElem? (i := 28) rfl)) (by decide) (by decide)) q234a q234c (g := (mkF m 297 (own_F16 i1 i2 i3 i4 i5 i6 v3 v7 (2 : Int32) (2 : Int32) v14 v18 z_163 z_209 b210 b212 sm ve b227 b229 b229 b227) [.null, (.ref b227)])) rfl (by rw [hml]; rfl) (Steps.refl _) (argsL := [.null]) (rest := []) (lenOf pd__40Ljava_47lang_47Object_59_41Z rfl) rfl (by show 2 * 0 + _ ≤ _; exact Nat.le_of_eq rfl) (hb hby at_297) (fun _ _ => ⟨rfl, eh233, (by decide : 8 + 0 ≤ _), (by decide : 22 + 0 ≤ _)⟩)
      dsimp only [Pt.U, Pt.locs, Pt.cells, Pt.slots] at X234 l234 y234 z234 st234 hQ234
      subst l234 y234 z234
      obtain ⟨rfl, N234q, eh234⟩ := hQ234
      have N234 := Fr.app N233 N234q
      obtain ⟨cq235, kq235, q235a, q235b, q235c⟩ := isOf hZ eh234 A227
      obtain ⟨_, _, ⟨T235, L235, k235, n235⟩, -, X235, ⟨Lc235, hQ235, l235, y235, z235⟩, st235⟩ := X234.virtualBack hx (y := (⟨"com/example/whirligig/whirligig/DownloadInfoIndication$Unreadable", "equals", "(Ljava/lang/Object;)Z"⟩ : MethodName)) (z := (⟨"com/example/whirligig/whirligig/DownloadInfoIndication$Unreadable", "equals", "(Ljava/lang/Object;)Z"⟩ : MethodName)) hown (mvT hZ (hw _ (List.mem_of_getElem? (i := 44) rfl))) (mvT hZ (hw _ (List.mem_of_getElem? (i := 45) rfl))) (notFace_of_selects (args := #[]) (mvT hZ (hw _ (List.mem_of_getElem? (i := 47) rfl)))) (mvT hZ (hw _ (List.mem_of_getElem? (i := 47) rfl))) (mvT hZ (hw _ (List.mem_of_getElem? (i := 46) rfl))) (by decide) (backOf (W := 0) (rm7_S l Z a0 hw [] b227 b210 T230.heap n0 O Ex211) hZ (hw _ (List.mem_of_getElem? (i := 48) rfl)) (hw _ (List.mem_of_getElem? (i := 28) rfl)) (by decide) (by decide)) q235a q235c (g := (mkF m 307 (own_F16 i1 i2 i3 i4 i5 i6 v3 v7 (2 : Int32) (2 : Int32) v14 v18 z_163 z_209 b210 b212 sm ve b227 b229 b229 b227) [(.ref b210), (.ref b227)])) rfl (by rw [hml]; rfl) (Steps.refl _) (argsL := [(.ref b210)]) (rest := []) (lenOf pd__40Ljava_47lang_47Object_59_41Z rfl) rfl (by show 2 * 0 + _ ≤ _; exact Nat.le_of_eq rfl) (hb hby at_307) (fun _ _ => ⟨rfl, eh234, (by decide : 8 + 0 ≤ _), (by decide : 22 + 0 ≤ _)⟩)
      dsimp only [Pt.U, Pt.locs, Pt.cells, Pt.slots] at X235 l235 y235 z235 st235 hQ235
      subst l235 y235 z235
      obtain ⟨rfl, N235q, eh235⟩ := hQ235
      have N235 := Fr.app N234 N235q
      obtain ⟨_, _, ⟨T236, L236, k236, n236⟩, -, X236, ⟨Lc236, hQ236, l236, y236, z236⟩, st236⟩ := Jvm.LawKit.callS X235 hx (y := (⟨"java/lang/Integer", "valueOf", "(I)Ljava/lang/Integer;"⟩ : MethodName)) hown (mvT hZ (hw _ (List.mem_of_getElem? (i := 64) rfl))) (mvT hZ (hw _ (List.mem_of_getElem? (i := 65) rfl))) (mvT hZ (hw _ (List.mem_of_getElem? (i := 66) rfl))) (mvT hZ (hw _ (List.mem_of_getElem? (i := 67) rfl))) (by decide) (backOf (W := 1) (rm10 l Z a0 hw [] i1 cl_s_cacheI s_cacheI T230.heap n0 O S_s_cacheI S_high BI) hZ (hw _ (List.mem_of_getElem? (i := 67) rfl)) (hw _ (List.mem_of_getElem? (i := 66) rfl)) (by decide) (by decide)) (g := (mkF m 316 (own_F16 i1 i2 i3 i4 i5 i6 v3 v7 (2 : Int32) (2 : Int32) v14 v18 z_163 z_209 b210 b212 sm ve b227 b229 b229 b227) [(.int i1), (.ref b227)])) rfl (by rw [hml]; rfl) (argsL := [(.int i1)]) (rest := [(.ref b227)]) (lenOf pd__40I_41Ljava_47lang_47Integer_59 rfl) rfl (by show 2 * 0 + _ ≤ _; exact Nat.le_of_eq rfl) (hb hby at_316) (fun _ _ => ⟨rfl, eh235, (by decide : 8 + 1 ≤ _), (by decide : 22 + 1 ≤ _)⟩)
      dsimp only [Pt.U, Pt.locs, Pt.cells, Pt.slots] at X236 l236 y236 z236 st236 hQ236
      subst l236 y236 z236
      obtain ⟨z_236, rfl, N236q, K236, E_z_c236⟩ := hQ236
      have N236 := Fr.app N235 N236q
      have R := CHr.keep K236 all0 C.1
      have sf_b210 := R.safe Ex211.lt sf_b210
      have sf_b212 := R.safe Ex213.lt sf_b212
      have sf_b227 := R.safe A227.lt sf_b227
      have sf_b229 := R.safe A229.lt sf_b229
      have C := C.trans R
      have hk := Nat.le_trans hk K236.1
      have V_z_c163 := V_z_c163.keep K236 nin0
      have V_z_c209 := V_z_c209.keep K236 nin0
      have Ex211 := Ex211.keep K236
      have Fc211 := Fc211.keep K236 nin0
      have Fv211 := Fv211.keep K236 nin0
      have Av211 := Av211.keep K236 nin0
      have Ex213 := Ex213.keep K236
      have Fc213 := Fc213.keep K236 nin0
      have Fv213 := Fv213.keep K236 nin0
      have Av213 := Av213.keep K236 nin0
      have A227 := A227.keep K236
      have F_i_a_c228 := F_i_a_c228.keep K236 nin0
      have F_w_a_c228 := F_w_a_c228.keep K236 nin0
      have F_r_a_c228 := F_r_a_c228.keep K236 nin0
      have A229 := A229.keep K236
      have F_i_a_c230 := F_i_a_c230.keep K236 nin0
      have F_w_a_c230 := F_w_a_c230.keep K236 nin0
      have F_r_a_c230 := F_r_a_c230.keep K236 nin0
      have O := O.keep K236 all0
      obtain ⟨cq237, kq237, q237a, q237b, q237c⟩ := isOf hZ rfl A227
      obtain ⟨_, _, ⟨T237, L237, k237, n237⟩, -, X237, ⟨Lc237, hQ237, l237, y237, z237⟩, st237⟩ := X236.virtualBack hx (y := (⟨"com/example/whirligig/whirligig/DownloadInfoIndication$Unreadable", "equals", "(Ljava/lang/Object;)Z"⟩ : MethodName)) (z := (⟨"com/example/whirligig/whirligig/DownloadInfoIndication$Unreadable", "equals", "(Ljava/lang/Object;)Z"⟩ : MethodName)) hown (mvT hZ (hw _ (List.mem_of_getElem? (i := 44) rfl))) (mvT hZ (hw _ (List.mem_of_getElem? (i := 45) rfl))) (notFace_of_selects (args := #[]) (mvT hZ (hw _ (List.mem_of_getElem? (i := 47) rfl)))) (mvT hZ (hw _ (List.mem_of_getElem? (i := 47) rfl))) (mvT hZ (hw _ (List.mem_of_getElem? (i := 46) rfl))) (by decide) (backOf (W := 0) (rm7_I l Z a0 hw [] b227 z_236 T236.heap n0 O E_z_c236) hZ (hw _ (List.mem_of_getElem? (i := 48) rfl)) (hw _ (List.mem_of_getElem? (i := 28) rfl)) (by decide) (by decide)) q237a q237c (g := (mkF m 319 (own_F16 i1 i2 i3 i4 i5 i6 v3 v7 (2 : Int32) (2 : Int32) v14 v18 z_163 z_209 b210 b212 sm ve b227 b229 b229 b227) [(.ref z_236), (.ref b227)])) rfl (by rw [hml]; rfl) (Steps.refl _) (argsL := [(.ref z_236)]) (rest := []) (lenOf pd__40Ljava_47lang_47Object_59_41Z rfl) rfl (by show 2 * 0 + _ ≤ _; exact Nat.le_of_eq rfl) (hb hby at_319) (fun _ _ => ⟨rfl, rfl, (by decide : 9 + 0 ≤ _), (by decide : 23 + 0 ≤ _)⟩)
      dsimp only [Pt.U, Pt.locs, Pt.cells, Pt.slots] at X237 l237 y237 z237 st237 hQ237
      subst l237 y237 z237
      obtain ⟨rfl, N237q, eh237⟩ := hQ237
      have N237 := Fr.app N236 N237q
      have w238 : ∀ t, Steps p.tables e below (T237.setTop (mkF m 330 (own_F16 i1 i2 i3 i4 i5 i6 v3 v7 (2 : Int32) (2 : Int32) v14 v18 z_163 z_209 b210 b212 sm ve b227 b229 b229 b227) [(.int (1 : Int32))])) t → Steps p.tables e below (s₁.setTop (entryFrame m #[(.int i1), (.int i2), (.int i3), (.int i4), (.int i5), (.int i6)] maxLocals)) t := fun t k => by
        refine w226 t ?_
        refine XS.istore X213.here hx rfl (hb hby at_222) rfl (l' := (own_F12 i1 i2 i3 i4 i5 i6 v3 v7 (2 : Int32) (2 : Int32) v14 v18 z_163 z_209 b210 b212 sm ve)) rfl ?_
        show Steps p.tables e below (T213.setTop (mkF m 224 (own_F12 i1 i2 i3 i4 i5 i6 v3 v7 (2 : Int32) (2 : Int32) v14 v18 z_163 z_209 b210 b212 sm ve) [])) _
        refine st227 _ ?_
        show Steps p.tables e below (T227.setTop (mkF m 227 (own_F12 i1 i2 i3 i4 i5 i6 v3 v7 (2 : Int32) (2 : Int32) v14 v18 z_163 z_209 b210 b212 sm ve) [(.ref b227)])) _
        refine XS.dup X227.here hx rfl (hb hby at_227) rfl rfl ?_
        show Steps p.tables e below (T227.setTop (mkF m 228 (own_F12 i1 i2 i3 i4 i5 i6 v3 v7 (2 : Int32) (2 : Int32) v14 v18 z_163 z_209 b210 b212 sm ve) [(.ref b227), (.ref b227)])) _
        refine XS.iloadN X227.here hx rfl (hb hby at_228) rfl ?_
        show Steps p.tables e below (T227.setTop (mkF m 229 (own_F12 i1 i2 i3 i4 i5 i6 v3 v7 (2 : Int32) (2 : Int32) v14 v18 z_163 z_209 b210 b212 sm ve) [(.int i1), (.ref b227), (.ref b227)])) _
        refine XS.iloadN X227.here hx rfl (hb hby at_229) rfl ?_
        show Steps p.tables e below (T227.setTop (mkF m 230 (own_F12 i1 i2 i3 i4 i5 i6 v3 v7 (2 : Int32) (2 : Int32) v14 v18 z_163 z_209 b210 b212 sm ve) [(.int i3), (.int i1), (.ref b227), (.ref b227)])) _
        refine XS.aload X227.here hx rfl (hb hby at_230) rfl rfl ?_
        show Steps p.tables e below (T227.setTop (mkF m 232 (own_F12 i1 i2 i3 i4 i5 i6 v3 v7 (2 : Int32) (2 : Int32) v14 v18 z_163 z_209 b210 b212 sm ve) [(.ref b210), (.int i3), (.int i1), (.ref b227), (.ref b227)])) _
        refine st228.trans ?_
        show Steps p.tables e below (T228.setTop (mkF m 235 (own_F12 i1 i2 i3 i4 i5 i6 v3 v7 (2 : Int32) (2 : Int32) v14 v18 z_163 z_209 b210 b212 sm ve) [(.ref b227)])) _
        refine XS.astore X228.here hx rfl (hb hby at_235) rfl rfl (l' := (own_F13 i1 i2 i3 i4 i5 i6 v3 v7 (2 : Int32) (2 : Int32) v14 v18 z_163 z_209 b210 b212 sm ve b227)) rfl ?_
        show Steps p.tables e below (T228.setTop (mkF m 237 (own_F13 i1 i2 i3 i4 i5 i6 v3 v7 (2 : Int32) (2 : Int32) v14 v18 z_163 z_209 b210 b212 sm ve b227) [])) _
        refine st229 _ ?_
        show Steps p.tables e below (T229.setTop (mkF m 240 (own_F13 i1 i2 i3 i4 i5 i6 v3 v7 (2 : Int32) (2 : Int32) v14 v18 z_163 z_209 b210 b212 sm ve b227) [(.ref b229)])) _
        refine XS.dup X229.here hx rfl (hb hby at_240) rfl rfl ?_
        show Steps p.tables e below (T229.setTop (mkF m 241 (own_F13 i1 i2 i3 i4 i5 i6 v3 v7 (2 : Int32) (2 : Int32) v14 v18 z_163 z_209 b210 b212 sm ve b227) [(.ref b229), (.ref b229)])) _
        refine XS.iload X229.here hx rfl (hb hby at_241) rfl ?_
        show Steps p.tables e below (T229.setTop (mkF m 243 (own_F13 i1 i2 i3 i4 i5 i6 v3 v7 (2 : Int32) (2 : Int32) v14 v18 z_163 z_209 b210 b212 sm ve b227) [(.int v3), (.ref b229), (.ref b229)])) _
        refine XS.iload X229.here hx rfl (hb hby at_243) rfl ?_
        show Steps p.tables e below (T229.setTop (mkF m 245 (own_F13 i1 i2 i3 i4 i5 i6 v3 v7 (2 : Int32) (2 : Int32) v14 v18 z_163 z_209 b210 b212 sm ve b227) [(.int v7), (.int v3), (.ref b229), (.ref b229)])) _
        refine XS.aload X229.here hx rfl (hb hby at_245) rfl rfl ?_
        show Steps p.tables e below (T229.setTop (mkF m 247 (own_F13 i1 i2 i3 i4 i5 i6 v3 v7 (2 : Int32) (2 : Int32) v14 v18 z_163 z_209 b210 b212 sm ve b227) [(.ref b212), (.int v7), (.int v3), (.ref b229), (.ref b229)])) _
        refine st230.trans ?_
        show Steps p.tables e below (T230.setTop (mkF m 250 (own_F13 i1 i2 i3 i4 i5 i6 v3 v7 (2 : Int32) (2 : Int32) v14 v18 z_163 z_209 b210 b212 sm ve b227) [(.ref b229)])) _
        refine XS.astore X230.here hx rfl (hb hby at_250) rfl rfl (l' := (own_F14 i1 i2 i3 i4 i5 i6 v3 v7 (2 : Int32) (2 : Int32) v14 v18 z_163 z_209 b210 b212 sm ve b227 b229)) rfl ?_
        show Steps p.tables e below (T230.setTop (mkF m 252 (own_F14 i1 i2 i3 i4 i5 i6 v3 v7 (2 : Int32) (2 : Int32) v14 v18 z_163 z_209 b210 b212 sm ve b227 b229) [])) _
        refine XS.aload X230.here hx rfl (hb hby at_252) rfl rfl ?_
        show Steps p.tables e below (T230.setTop (mkF m 254 (own_F14 i1 i2 i3 i4 i5 i6 v3 v7 (2 : Int32) (2 : Int32) v14 v18 z_163 z_209 b210 b212 sm ve b227 b229) [(.ref b229)])) _
        refine XS.astore X230.here hx rfl (hb hby at_254) rfl rfl (l' := (own_F15 i1 i2 i3 i4 i5 i6 v3 v7 (2 : Int32) (2 : Int32) v14 v18 z_163 z_209 b210 b212 sm ve b227 b229 b229)) rfl ?_
        show Steps p.tables e below (T230.setTop (mkF m 256 (own_F15 i1 i2 i3 i4 i5 i6 v3 v7 (2 : Int32) (2 : Int32) v14 v18 z_163 z_209 b210 b212 sm ve b227 b229 b229) [])) _
        refine XS.aload X230.here hx rfl (hb hby at_256) rfl rfl ?_
        show Steps p.tables e below (T230.setTop (mkF m 258 (own_F15 i1 i2 i3 i4 i5 i6 v3 v7 (2 : Int32) (2 : Int32) v14 v18 z_163 z_209 b210 b212 sm ve b227 b229 b229) [(.ref b227)])) _
        refine XS.astore X230.here hx rfl (hb hby at_258) rfl rfl (l' := (own_F16 i1 i2 i3 i4 i5 i6 v3 v7 (2 : Int32) (2 : Int32) v14 v18 z_163 z_209 b210 b212 sm ve b227 b229 b229 b227)) rfl ?_
        show Steps p.tables e below (T230.setTop (mkF m 260 (own_F16 i1 i2 i3 i4 i5 i6 v3 v7 (2 : Int32) (2 : Int32) v14 v18 z_163 z_209 b210 b212 sm ve b227 b229 b229 b227) [])) _
        refine XS.aload X230.here hx rfl (hb hby at_260) rfl rfl ?_
        show Steps p.tables e below (T230.setTop (mkF m 262 (own_F16 i1 i2 i3 i4 i5 i6 v3 v7 (2 : Int32) (2 : Int32) v14 v18 z_163 z_209 b210 b212 sm ve b227 b229 b229 b227) [(.ref b227)])) _
        refine XS.aload X230.here hx rfl (hb hby at_262) rfl rfl ?_
        show Steps p.tables e below (T230.setTop (mkF m 264 (own_F16 i1 i2 i3 i4 i5 i6 v3 v7 (2 : Int32) (2 : Int32) v14 v18 z_163 z_209 b210 b212 sm ve b227 b229 b229 b227) [(.ref b229), (.ref b227)])) _
        refine st231.trans ?_
        show Steps p.tables e below (T231.setTop (mkF m 267 (own_F16 i1 i2 i3 i4 i5 i6 v3 v7 (2 : Int32) (2 : Int32) v14 v18 z_163 z_209 b210 b212 sm ve b227 b229 b229 b227) [(.int (own_e i1 v3 i3 v7 ([c1_163, d1_163] : List Int32) ([c1_209, d1_209] : List Int32)))])) _
        refine XS.iload X231.here hx rfl (hb hby at_267) rfl ?_
        show Steps p.tables e below (T231.setTop (mkF m 269 (own_F16 i1 i2 i3 i4 i5 i6 v3 v7 (2 : Int32) (2 : Int32) v14 v18 z_163 z_209 b210 b212 sm ve b227 b229 b229 b227) [(.int ve), (.int (own_e i1 v3 i3 v7 ([c1_163, d1_163] : List Int32) ([c1_209, d1_209] : List Int32)))])) _
        refine XS.icmpNo X231.here hx rfl (hb hby at_269) rfl (teq ((own_q2 _ _ _ _ _ _ _ _  hsm hve) : (own_e i1 v3 i3 v7 ([c1_163, d1_163] : List Int32) ([c1_209, d1_209] : List Int32)) = ve)).2 ?_
        show Steps p.tables e below (T231.setTop (mkF m 272 (own_F16 i1 i2 i3 i4 i5 i6 v3 v7 (2 : Int32) (2 : Int32) v14 v18 z_163 z_209 b210 b212 sm ve b227 b229 b229 b227) [])) _
        refine XS.aload X231.here hx rfl (hb hby at_272) rfl rfl ?_
        show Steps p.tables e below (T231.setTop (mkF m 274 (own_F16 i1 i2 i3 i4 i5 i6 v3 v7 (2 : Int32) (2 : Int32) v14 v18 z_163 z_209 b210 b212 sm ve b227 b229 b229 b227) [(.ref b229)])) _
        refine XS.aload X231.here hx rfl (hb hby at_274) rfl rfl ?_
        show Steps p.tables e below (T231.setTop (mkF m 276 (own_F16 i1 i2 i3 i4 i5 i6 v3 v7 (2 : Int32) (2 : Int32) v14 v18 z_163 z_209 b210 b212 sm ve b227 b229 b229 b227) [(.ref b227), (.ref b229)])) _
        refine st232.trans ?_
        show Steps p.tables e below (T232.setTop (mkF m 279 (own_F16 i1 i2 i3 i4 i5 i6 v3 v7 (2 : Int32) (2 : Int32) v14 v18 z_163 z_209 b210 b212 sm ve b227 b229 b229 b227) [(.int (own_e v3 i1 v7 i3 ([c1_209, d1_209] : List Int32) ([c1_163, d1_163] : List Int32)))])) _
        refine XS.iload X232.here hx rfl (hb hby at_279) rfl ?_
        show Steps p.tables e below (T232.setTop (mkF m 281 (own_F16 i1 i2 i3 i4 i5 i6 v3 v7 (2 : Int32) (2 : Int32) v14 v18 z_163 z_209 b210 b212 sm ve b227 b229 b229 b227) [(.int ve), (.int (own_e v3 i1 v7 i3 ([c1_209, d1_209] : List Int32) ([c1_163, d1_163] : List Int32)))])) _
        refine XS.icmpNo X232.here hx rfl (hb hby at_281) rfl (teq ((own_sym _ _ _ _ _ _).trans ((own_q2 _ _ _ _ _ _ _ _  hsm hve)) : (own_e v3 i1 v7 i3 ([c1_209, d1_209] : List Int32) ([c1_163, d1_163] : List Int32)) = ve)).2 ?_
        show Steps p.tables e below (T232.setTop (mkF m 284 (own_F16 i1 i2 i3 i4 i5 i6 v3 v7 (2 : Int32) (2 : Int32) v14 v18 z_163 z_209 b210 b212 sm ve b227 b229 b229 b227) [])) _
        refine XS.aload X232.here hx rfl (hb hby at_284) rfl rfl ?_
        show Steps p.tables e below (T232.setTop (mkF m 286 (own_F16 i1 i2 i3 i4 i5 i6 v3 v7 (2 : Int32) (2 : Int32) v14 v18 z_163 z_209 b210 b212 sm ve b227 b229 b229 b227) [(.ref b227)])) _
        refine XS.aload X232.here hx rfl (hb hby at_286) rfl rfl ?_
        show Steps p.tables e below (T232.setTop (mkF m 288 (own_F16 i1 i2 i3 i4 i5 i6 v3 v7 (2 : Int32) (2 : Int32) v14 v18 z_163 z_209 b210 b212 sm ve b227 b229 b229 b227) [(.ref b227), (.ref b227)])) _
        refine st233.trans ?_
        show Steps p.tables e below (T233.setTop (mkF m 291 (own_F16 i1 i2 i3 i4 i5 i6 v3 v7 (2 : Int32) (2 : Int32) v14 v18 z_163 z_209 b210 b212 sm ve b227 b229 b229 b227) [(.int (own_e i1 i1 i3 i3 ([c1_163, d1_163] : List Int32) ([c1_163, d1_163] : List Int32)))])) _
        refine XS.ifNo X233.here hx rfl (hb hby at_291) rfl ((if0 _ _).trans (feq (own_rfl _ _ _ : ¬ ((own_e i1 i1 i3 i3 ([c1_163, d1_163] : List Int32) ([c1_163, d1_163] : List Int32)) = (0 : Int32)))).1) ?_
        show Steps p.tables e below (T233.setTop (mkF m 294 (own_F16 i1 i2 i3 i4 i5 i6 v3 v7 (2 : Int32) (2 : Int32) v14 v18 z_163 z_209 b210 b212 sm ve b227 b229 b229 b227) [])) _
        refine XS.aload X233.here hx rfl (hb hby at_294) rfl rfl ?_
        show Steps p.tables e below (T233.setTop (mkF m 296 (own_F16 i1 i2 i3 i4 i5 i6 v3 v7 (2 : Int32) (2 : Int32) v14 v18 z_163 z_209 b210 b212 sm ve b227 b229 b229 b227) [(.ref b227)])) _
        refine XS.aconstNull X233.here hx rfl (hb hby at_296) ?_
        show Steps p.tables e below (T233.setTop (mkF m 297 (own_F16 i1 i2 i3 i4 i5 i6 v3 v7 (2 : Int32) (2 : Int32) v14 v18 z_163 z_209 b210 b212 sm ve b227 b229 b229 b227) [.null, (.ref b227)])) _
        refine st234.trans ?_
        show Steps p.tables e below (T234.setTop (mkF m 300 (own_F16 i1 i2 i3 i4 i5 i6 v3 v7 (2 : Int32) (2 : Int32) v14 v18 z_163 z_209 b210 b212 sm ve b227 b229 b229 b227) [(.int (0 : Int32))])) _
        refine XS.ifNo X234.here hx rfl (hb hby at_300) rfl ((if0 _ _).trans (teq (rfl : (0 : Int32) = (0 : Int32))).2) ?_
        show Steps p.tables e below (T234.setTop (mkF m 303 (own_F16 i1 i2 i3 i4 i5 i6 v3 v7 (2 : Int32) (2 : Int32) v14 v18 z_163 z_209 b210 b212 sm ve b227 b229 b229 b227) [])) _
        refine XS.aload X234.here hx rfl (hb hby at_303) rfl rfl ?_
        show Steps p.tables e below (T234.setTop (mkF m 305 (own_F16 i1 i2 i3 i4 i5 i6 v3 v7 (2 : Int32) (2 : Int32) v14 v18 z_163 z_209 b210 b212 sm ve b227 b229 b229 b227) [(.ref b227)])) _
        refine XS.aload X234.here hx rfl (hb hby at_305) rfl rfl ?_
        show Steps p.tables e below (T234.setTop (mkF m 307 (own_F16 i1 i2 i3 i4 i5 i6 v3 v7 (2 : Int32) (2 : Int32) v14 v18 z_163 z_209 b210 b212 sm ve b227 b229 b229 b227) [(.ref b210), (.ref b227)])) _
        refine st235.trans ?_
        show Steps p.tables e below (T235.setTop (mkF m 310 (own_F16 i1 i2 i3 i4 i5 i6 v3 v7 (2 : Int32) (2 : Int32) v14 v18 z_163 z_209 b210 b212 sm ve b227 b229 b229 b227) [(.int (0 : Int32))])) _
        refine XS.ifNo X235.here hx rfl (hb hby at_310) rfl ((if0 _ _).trans (teq (rfl : (0 : Int32) = (0 : Int32))).2) ?_
        show Steps p.tables e below (T235.setTop (mkF m 313 (own_F16 i1 i2 i3 i4 i5 i6 v3 v7 (2 : Int32) (2 : Int32) v14 v18 z_163 z_209 b210 b212 sm ve b227 b229 b229 b227) [])) _
        refine XS.aload X235.here hx rfl (hb hby at_313) rfl rfl ?_
        show Steps p.tables e below (T235.setTop (mkF m 315 (own_F16 i1 i2 i3 i4 i5 i6 v3 v7 (2 : Int32) (2 : Int32) v14 v18 z_163 z_209 b210 b212 sm ve b227 b229 b229 b227) [(.ref b227)])) _
        refine XS.iloadN X235.here hx rfl (hb hby at_315) rfl ?_
        show Steps p.tables e below (T235.setTop (mkF m 316 (own_F16 i1 i2 i3 i4 i5 i6 v3 v7 (2 : Int32) (2 : Int32) v14 v18 z_163 z_209 b210 b212 sm ve b227 b229 b229 b227) [(.int i1), (.ref b227)])) _
        refine st236 _ ?_
        show Steps p.tables e below (T236.setTop (mkF m 319 (own_F16 i1 i2 i3 i4 i5 i6 v3 v7 (2 : Int32) (2 : Int32) v14 v18 z_163 z_209 b210 b212 sm ve b227 b229 b229 b227) [(.ref z_236), (.ref b227)])) _
        refine st237.trans ?_
        show Steps p.tables e below (T237.setTop (mkF m 322 (own_F16 i1 i2 i3 i4 i5 i6 v3 v7 (2 : Int32) (2 : Int32) v14 v18 z_163 z_209 b210 b212 sm ve b227 b229 b229 b227) [(.int (0 : Int32))])) _
        refine XS.ifNo X237.here hx rfl (hb hby at_322) rfl ((if0 _ _).trans (teq (rfl : (0 : Int32) = (0 : Int32))).2) ?_
        show Steps p.tables e below (T237.setTop (mkF m 325 (own_F16 i1 i2 i3 i4 i5 i6 v3 v7 (2 : Int32) (2 : Int32) v14 v18 z_163 z_209 b210 b212 sm ve b227 b229 b229 b227) [])) _
        refine XS.iconst X237.here hx rfl (hb hby at_325) ?_
        show Steps p.tables e below (T237.setTop (mkF m 326 (own_F16 i1 i2 i3 i4 i5 i6 v3 v7 (2 : Int32) (2 : Int32) v14 v18 z_163 z_209 b210 b212 sm ve b227 b229 b229 b227) [(.int (1 : Int32))])) _
        refine XS.goto X237.here hx rfl (pc0 := 326) (pc' := 330) rfl (hb hby at_326) (by decide) (by decide) ?_
        show Steps p.tables e below (T237.setTop (mkF m 330 (own_F16 i1 i2 i3 i4 i5 i6 v3 v7 (2 : Int32) (2 : Int32) v14 v18 z_163 z_209 b210 b212 sm ve b227 b229 b229 b227) [(.int (1 : Int32))])) _
        exact k
      obtain ⟨fs, hr, hrun, hended, hE⟩ := Stand.leaveW (s := s) (vm₁ := s.vm) X237 hS (by rw [eh237]; exact hk) (v := some (.int (1 : Int32))) (fun h => by rw [Bd.returns] at h; cases h)
      refine ⟨_, _, w238 _ ?_, hrun, hended, _, _, rfl, ?_, ?_, own_mono hE (by decide) (by decide)⟩
      · exact retN X237 hx (t := .boolean) Bd.returns (by simp) (hb hby at_330) hr
      · show Q0 Z i1 i2 i3 i4 i5 i6 cl_s_cacheI zc s_cacheI h0 n0 _ T237.heap _
        rw [eh237]
        exact ⟨rfl, N237⟩
      · rw [hh]; show CHr Z consts_1 s.vm h0 T237.vm T237.heap; rw [eh237]; exact C.trans (CHv.at X237 hZ hEL C.1)
set_option maxRecDepth 65536 in
set_option maxHeartbeats 40000000 in
theorem comes_1 {Post : Tables → Env → Array Value → State → Outcome → State → Prop} (hpost : ∀ tb e args s v u, (limb_1_1.after args s (.returned v) u = true ∧ limb_1_2.after args s (.returned v) u = true ∧ True) → ReturnedEndW s (.returned v) u (Jvm.fieldLocs frame_1_writes args s ++ Jvm.arrayLocs frame_1_arrays args s ++ Jvm.staticLocs frame_1_statics s) 32 1152 → Post tb e args s (.returned v) u) :
    ArmFor flags0 classFile x code maxLocals ret World_1 tables_1 room_1 Calls_1 rest_1 Pre_1 Post := by
  intro l hfl _ _ p e ha hc hk s m args below hf hA hF happ hP
  obtain ⟨hcalls, hrest, hpre⟩ := hP
  obtain ⟨-, -, -, hnamed, -, -, -, hat⟩ := (Spec.applies_iff hf).mp happ
  obtain ⟨hg, hn⟩ := and_e (Cond.before_iff.mp (show (Jvm.Cond.and given_1 narrow_1).before args s = true from hpre))
  obtain ⟨g1, g2⟩ := and_e hg
  obtain ⟨g3, g4⟩ := and_e g2
  obtain ⟨g5, g6⟩ := and_e g4
  obtain ⟨g7, g8⟩ := and_e g6
  obtain ⟨g9, g10⟩ := and_e g8
  obtain ⟨g11, g12⟩ := and_e g10
  obtain ⟨w0, w1, w2, w3, w4, w5, rfl⟩ : ∃ w0 w1 w2 w3 w4 w5 : Value, args = #[w0, w1, w2, w3, w4, w5] := by
    have hs : args.size = 6 := by simpa [Cond.value, given_1] using g1
    obtain ⟨L⟩ := args
    match L, hs with
    | [w0, w1, w2, w3, w4, w5], _ => exact ⟨w0, w1, w2, w3, w4, w5, rfl⟩
  have hw := fun d (hd : d ∈ tables_1) => atoms_spec (ws := Jvm.Cond.code x code maxLocals ret :: tables_1) hat d (List.mem_cons_of_mem _ hd)
  have hfit : Fit s := fun {y c} hc i hi => by
    obtain ⟨ha, rfl⟩ := Array.getElem?_eq_some_iff.mp hc
    have q := List.all_eq_true.mp ((Array.all_eq_true_iff_forall_mem.mp hF) _ (Array.getElem_mem ha)) i (List.mem_range.mpr hi)
    simpa [Array.getElem?_eq_getElem hi] using q
  obtain ⟨hsets, hown0⟩ := atoms_of _ (rest_1_c_eq ▸ (show rest_1_c.before _ s = true from hrest))
  have hr0 := Cond.before_iff.mp hown0
  obtain ⟨i0, ei0⟩ := is_v g3
  obtain rfl : w0 = (.int i0) := Option.some.inj ei0
  obtain ⟨i1, ei1⟩ := is_v g5
  obtain rfl : w1 = (.int i1) := Option.some.inj ei1
  obtain ⟨i2, ei2⟩ := is_v g7
  obtain rfl : w2 = (.int i2) := Option.some.inj ei2
  obtain ⟨i3, ei3⟩ := is_v g9
  obtain rfl : w3 = (.int i3) := Option.some.inj ei3
  obtain ⟨i4, ei4⟩ := is_v g11
  obtain rfl : w4 = (.int i4) := Option.some.inj ei4
  obtain ⟨i5, ei5⟩ := is_v g12
  obtain rfl : w5 = (.int i5) := Option.some.inj ei5
  obtain ⟨zc, evc⟩ := is_v (Cond.before_iff.mp (hsets _ (List.mem_of_getElem? (i := 1) rfl)))
  have SC : Sta s s.heap "java/lang/String" "COMPACT_STRINGS" "Z" (.int zc) := Sta.start evc (Or.inl (hsets _ (List.mem_of_getElem? (i := 0) rfl)))
  have hzc : ¬ zc = 0 := gotF (Cond.eq_ints evc (Term.int_eval 0)) (not_v (Cond.before_iff.mp (hsets _ (List.mem_of_getElem? (i := 2) rfl))))
  obtain ⟨s_cacheI, ev_C⟩ := arr_v (Cond.before_iff.mp (hsets _ (List.mem_of_getElem? (i := 13) rfl)))
  have S_s_cacheI : Sta s s.heap "java/lang/Integer$IntegerCache" "cache" "[Ljava/lang/Integer;" (.ref s_cacheI) := Sta.start ev_C (Or.inr ⟨(hw _ (List.mem_of_getElem? (i := 69) rfl)), (hsets _ (List.mem_of_getElem? (i := 11) rfl))⟩)
  obtain ⟨cl_s_cacheI, A_C⟩ := Arr.start ev_C (Cond.before_iff.mp (hsets _ (List.mem_of_getElem? (i := 13) rfl)))
  obtain ⟨u_C, t_C⟩ := Jvm.Free.IntBox.length_fwd (hsets _ (List.mem_of_getElem? (i := 15) rfl)) ev_C A_C.1 A_C.2.1 A_C.2.2
  have BI : Bxs s s_cacheI cl_s_cacheI "java/lang/Integer" "I" 256 own_vI := Bxs.start (fun _ => ev_C) A_C u_C t_C (by decide) (Cond.before_iff.mp (hsets _ (List.mem_of_getElem? (i := 16) rfl))) (fun X j hj h => eqv_i (Term.sub_int (idx_at hj) (Term.int_eval 128)) h)
  have S_high : Sta s s.heap "java/lang/Integer$IntegerCache" "high" "I" (.int (127 : Int32)) := Sta.start (eqv_i (Term.int_eval 127) (Cond.before_iff.mp (hsets _ (List.mem_of_getElem? (i := 12) rfl)))) (Or.inl (hsets _ (List.mem_of_getElem? (i := 10) rfl)))
  have H0 : CHv s consts_1 s.vm s.heap := CHv.start (own_EW hw) hcalls.1 (hsets _ (List.mem_of_getElem? (i := 2) rfl)) (hw _ (List.mem_of_getElem? (i := 19) rfl)) (hw _ (List.mem_of_getElem? (i := 6) rfl))
  obtain ⟨n, o, h1, h2, h3, _, L, rfl, ⟨rfl, N⟩, -, hq⟩ := rm0 l s _ hw tables_1 i0 i1 i2 i3 i4 i5 cl_s_cacheI zc s_cacheI s.heap s.heap.size (Old.start s) S_s_cacheI S_high BI SC hzc p e ha hc hk s m _ below hf ((Spec.applies_iff_loose hf).mp happ).1 ⟨rfl, State.Warmed39.refl s, rfl, H0⟩ trivial
  refine ⟨n, _, h1, h2, h3, hpost _ _ _ _ _ _ ⟨Cond.after_iff.mpr rfl, Cond.after_iff.mpr (eq_i res_at (Term.int_eval (1)) rfl), trivial⟩ ⟨hq.1, hq.2.1, hq.2.2.1, (hq.2.2.2.sift fun y hy => Or.inr (N y hy)).mono (by decide) (by decide)⟩⟩
theorem main_1_1 : Claimed_1_1 := comes_1 fun _ _ _ _ _ _ h hF => ⟨h.1, hF⟩
theorem main_1_2 : Claimed_1_2 := comes_1 fun _ _ _ _ _ _ h hF => ⟨h.2.1, hF⟩
end Jvm.Pilot.@@N@@
namespace Jvm.Pilot.@@N@@
open Jvm Jvm.ClassFile Sem Op Lib Jvm.Free Jvm.Stand Jvm.Pilot.@@N@@.Jvm.D
/-! MADE BY PROGRAM (witnessworld.py) out of the Statement's table words and the real class files: 25 classes; the members and pool entries that the words name. The judged class is class 1, her method 2. -/
namespace start1
open Jvm.ClassFile
def u (s : String) : CpInfo := .utf8 (stringToUtf16 s)
/-- a pool by its gaps: so many unusable entries, then the entry; so many at the end -/
def gap : Nat → List CpInfo → List CpInfo
  | 0, r => r
  | n + 1, r => .unusable :: gap n r
def poolList (es : List (Nat × CpInfo)) (last : Nat) : List CpInfo := es.foldr (fun e r => gap e.1 (e.2 :: r)) (gap last [])
def pool (es : List (Nat × CpInfo)) (last : Nat) : Array CpInfo := ⟨poolList es last⟩
def fileOf (pool : Array CpInfo) (this : Nat) (attrs : Array Attribute := #[]) (ms : Array MethodInfo := #[]) (fl : Nat := 33) (sup : Nat := 0) (ifs : Array Nat := #[]) (fds : Array FieldInfo := #[]) : ClassFile where
  minorVersion := 0
  majorVersion := 65
  constantPool := pool
  accessFlags := fl
  thisClass := this
  superClass := sup
  interfaces := ifs
  fields := fds
  methods := ms
  attributes := attrs
def plain (name : String) (sup : Option ClassId) : Class where
  name := name
  kind := .ordinary
  loader := none
  accessFlags := 33
  super := sup
  interfaces := #[]
  cf := none
  fields := #[]
  methods := #[]
  instanceTypes := #[]
  staticTypes := #[]
  resolved := #[]
  callSites := []
  init := .initialized
  statics := none
  mirror := none

def pool0 : Array CpInfo := pool [(5, u "<init>"), (0, u "()V"), (1, .class_ 10), (1, u "java/lang/Object")] 113

def k0c0 : Code := { maxStack := 0, maxLocals := 1, code := object_method_1_code, exceptionTable := #[], attributes := #[] }
def k0m0 : Method := { name := "<init>", desc := "()V", sig := { parameters := [], returnType := none }, accessFlags := 1, code := some k0c0 }
/-- java/lang/Object -/
def k0 : Class := { plain "java/lang/Object" none with
  accessFlags := 33
  interfaces := #[]
  cf := some (fileOf pool0 8 #[] #[{ accessFlags := 1, nameIndex := 5, descriptorIndex := 6, attributes := #[] }] 33 0 #[] #[])
  fields := #[]
  methods := #[k0m0]
  instanceTypes := #[]
  staticTypes := #[]
  resolved := Array.replicate 124 none
  statics := none }

def pool1 : Array CpInfo := pool [(2, .class_ 4), (1, u "java/lang/Object"), (0, u "<init>"), (0, u "()V"), (0, .methodref 8 9), (0, .class_ 10), (0, .nameAndType 11 12), (0, u "com/example/whirligig/whirligig/UnreadableEqualsPinLaw"), (0, u "chars"), (0, u "(III)[C"), (0, .class_ 14), (0, u "java/lang/String"), (0, .methodref 13 16), (0, .nameAndType 5 17), (0, u "([C)V"), (0, .class_ 19), (0, u "com/example/whirligig/whirligig/DownloadInfoIndication$Unreadable"), (0, .methodref 18 21), (0, .nameAndType 5 22), (0, u "(IILjava/lang/String;)V"), (0, .methodref 18 24), (0, .nameAndType 25 26), (0, u "equals"), (0, u "(Ljava/lang/Object;)Z"), (0, .methodref 28 29), (0, .class_ 30), (0, .nameAndType 31 32), (0, u "java/lang/Integer"), (0, u "valueOf"), (0, u "(I)Ljava/lang/Integer;"), (3, u "law"), (0, u "(IIIIII)Z")] 8

def k1m0 : Method := { name := "<init>", desc := "()V", sig := { parameters := [], returnType := none }, accessFlags := 2, code := none }
def k1c1 : Code := { maxStack := 4, maxLocals := 5, code := method_2_code, exceptionTable := #[], attributes := #[] }
def k1m1 : Method := { name := "chars", desc := "(III)[C", sig := { parameters := [.int, .int, .int], returnType := some (.array .char) }, accessFlags := 10, code := some k1c1 }
def k1c2 : Code := { maxStack := 5, maxLocals := 22, code := code, exceptionTable := #[], attributes := #[] }
def k1m2 : Method := { name := "law", desc := "(IIIIII)Z", sig := { parameters := [.int, .int, .int, .int, .int, .int], returnType := some .boolean }, accessFlags := 9, code := some k1c2 }
/-- com/example/whirligig/whirligig/UnreadableEqualsPinLaw -/
def k1 : Class := { plain "com/example/whirligig/whirligig/UnreadableEqualsPinLaw" (some 0) with
  accessFlags := 49
  interfaces := #[]
  cf := some (fileOf pool1 8 #[] #[{ accessFlags := 2, nameIndex := 5, descriptorIndex := 6, attributes := #[] }, { accessFlags := 10, nameIndex := 11, descriptorIndex := 12, attributes := #[] }, { accessFlags := 9, nameIndex := 36, descriptorIndex := 37, attributes := #[] }] 49 2 #[] #[])
  fields := #[]
  methods := #[k1m0, k1m1, k1m2]
  instanceTypes := #[]
  staticTypes := #[]
  resolved := Array.replicate 46 none
  statics := none }

def pool2 : Array CpInfo := pool [(1, .class_ 2), (0, u "java/io/Serializable"), (0, .class_ 4), (0, u "java/lang/Object")] 2

/-- java/io/Serializable -/
def k2 : Class := { plain "java/io/Serializable" (some 0) with
  accessFlags := 1537
  interfaces := #[]
  cf := some (fileOf pool2 1 #[] #[] 1537 3 #[] #[])
  fields := #[]
  methods := #[]
  instanceTypes := #[]
  staticTypes := #[]
  resolved := Array.replicate 7 none
  statics := none }

def pool3 : Array CpInfo := pool [(1, .class_ 2), (0, u "java/lang/Comparable"), (0, .class_ 4), (0, u "java/lang/Object")] 7

/-- java/lang/Comparable -/
def k3 : Class := { plain "java/lang/Comparable" (some 0) with
  accessFlags := 1537
  interfaces := #[]
  cf := some (fileOf pool3 1 #[] #[] 1537 3 #[] #[])
  fields := #[]
  methods := #[]
  instanceTypes := #[]
  staticTypes := #[]
  resolved := Array.replicate 12 none
  statics := none }

def pool4 : Array CpInfo := pool [(2, .class_ 4), (1, u "java/lang/CharSequence"), (42, .class_ 48), (0, u "java/lang/CharSequence$1CodePointIterator"), (10, .class_ 60), (0, u "java/lang/CharSequence$1CharIterator"), (5, .class_ 67), (0, u "java/lang/Object")] 63

/-- java/lang/CharSequence -/
def k4 : Class := { plain "java/lang/CharSequence" (some 0) with
  accessFlags := 1537
  interfaces := #[]
  cf := some (fileOf pool4 2 #[.nestMembers #[47, 59]] #[] 1537 66 #[] #[])
  fields := #[]
  methods := #[]
  instanceTypes := #[]
  staticTypes := #[]
  resolved := Array.replicate 131 none
  statics := none }

def pool5 : Array CpInfo := pool [(1, .class_ 2), (0, u "java/lang/constant/Constable"), (0, .class_ 4), (0, u "java/lang/Object")] 6

/-- java/lang/constant/Constable -/
def k5 : Class := { plain "java/lang/constant/Constable" (some 0) with
  accessFlags := 1537
  interfaces := #[]
  cf := some (fileOf pool5 1 #[] #[] 1537 3 #[] #[])
  fields := #[]
  methods := #[]
  instanceTypes := #[]
  staticTypes := #[]
  resolved := Array.replicate 11 none
  statics := none }

def pool6 : Array CpInfo := pool [(1, .class_ 2), (0, u "java/lang/constant/ConstantDesc"), (0, .class_ 4), (0, u "java/lang/Object")] 32

/-- java/lang/constant/ConstantDesc -/
def k6 : Class := { plain "java/lang/constant/ConstantDesc" (some 0) with
  accessFlags := 1537
  interfaces := #[]
  cf := some (fileOf pool6 1 #[] #[] 1537 3 #[] #[])
  fields := #[]
  methods := #[]
  instanceTypes := #[]
  staticTypes := #[]
  resolved := Array.replicate 37 none
  statics := none }

def pool7 : Array CpInfo := pool [(1, .methodref 2 3), (0, .class_ 4), (0, .nameAndType 5 6), (0, u "java/lang/Object"), (0, u "<init>"), (0, u "()V"), (0, .string 8), (0, u ""), (0, .fieldref 10 11), (0, .class_ 12), (0, .nameAndType 13 14), (0, u "java/lang/String"), (0, u "value"), (0, u "[B"), (0, .fieldref 10 16), (0, .nameAndType 17 18), (0, u "coder"), (0, u "B"), (2, u "hash"), (0, u "I"), (2, u "hashIsZero"), (0, u "Z"), (0, .methodref 10 28), (0, .nameAndType 5 29), (0, u "([CIILjava/lang/Void;)V"), (8, .fieldref 10 39), (0, .nameAndType 40 26), (0, u "COMPACT_STRINGS"), (1, .class_ 44), (1, u "java/lang/StringUTF16"), (0, u "compress"), (1, .methodref 42 48), (0, .nameAndType 49 50), (0, u "coderFromArrayLen"), (0, u "([BI)B"), (56, .class_ 109), (1, u "java/lang/StringLatin1"), (67, .methodref 42 178), (0, .nameAndType 45 179), (0, u "([CII)[B"), (361, .methodref 107 542), (0, .nameAndType 543 544), (0, u "equals"), (0, u "([B[B)Z"), (28, u "(Ljava/lang/Object;)Z"), (1, .class_ 576), (0, u "java/lang/CharSequence"), (22, u "CASE_INSENSITIVE_ORDER"), (0, u "Ljava/util/Comparator;"), (409, u "([C)V"), (90, u "serialPersistentFields"), (0, u "[Ljava/io/ObjectStreamField;"), (0, .class_ 1104), (0, u "java/lang/String$CaseInsensitiveComparator"), (1, .class_ 1107), (0, u "java/io/Serializable"), (0, .class_ 1109), (0, u "java/lang/Comparable"), (0, .class_ 1111), (0, u "java/lang/constant/Constable"), (0, .class_ 1113), (0, u "java/lang/constant/ConstantDesc"), (2, u "serialVersionUID"), (0, u "J"), (3, u "REPL"), (0, u "C"), (2, u "LATIN1"), (1, u "UTF16")] 323

def k7m0 : Method := { name := "<init>", desc := "()V", sig := { parameters := [], returnType := none }, accessFlags := 1, code := none }
def k7c1 : Code := { maxStack := 5, maxLocals := 2, code := jdk_42_method_3_code, exceptionTable := #[], attributes := #[] }
def k7m1 : Method := { name := "<init>", desc := "([C)V", sig := { parameters := [(.array .char)], returnType := none }, accessFlags := 1, code := some k7c1 }
def k7c2 : Code := { maxStack := 2, maxLocals := 3, code := jdk_42_method_66_code, exceptionTable := #[], attributes := #[] }
def k7m2 : Method := { name := "equals", desc := "(Ljava/lang/Object;)Z", sig := { parameters := [(.object "java/lang/Object")], returnType := some .boolean }, accessFlags := 1, code := some k7c2 }
def k7c3 : Code := { maxStack := 4, maxLocals := 6, code := jdk_42_method_149_code, exceptionTable := #[], attributes := #[] }
def k7m3 : Method := { name := "<init>", desc := "([CIILjava/lang/Void;)V", sig := { parameters := [(.array .char), .int, .int, (.object "java/lang/Void")], returnType := none }, accessFlags := 2, code := some k7c3 }
/-- java/lang/String -/
def k7 : Class := { plain "java/lang/String" (some 0) with
  accessFlags := 49
  interfaces := #[2, 3, 4, 5, 6]
  cf := some (fileOf pool7 10 #[.nestMembers #[1103]] #[{ accessFlags := 1, nameIndex := 5, descriptorIndex := 6, attributes := #[] }, { accessFlags := 1, nameIndex := 5, descriptorIndex := 1010, attributes := #[] }, { accessFlags := 1, nameIndex := 543, descriptorIndex := 573, attributes := #[] }, { accessFlags := 2, nameIndex := 5, descriptorIndex := 29, attributes := #[] }] 49 2 #[1106, 1108, 575, 1110, 1112] #[{ accessFlags := 18, nameIndex := 13, descriptorIndex := 14, attributes := #[] }, { accessFlags := 18, nameIndex := 17, descriptorIndex := 18, attributes := #[] }, { accessFlags := 2, nameIndex := 21, descriptorIndex := 22, attributes := #[] }, { accessFlags := 2, nameIndex := 25, descriptorIndex := 26, attributes := #[] }, { accessFlags := 26, nameIndex := 1116, descriptorIndex := 1117, attributes := #[] }, { accessFlags := 24, nameIndex := 40, descriptorIndex := 26, attributes := #[] }, { accessFlags := 26, nameIndex := 1101, descriptorIndex := 1102, attributes := #[] }, { accessFlags := 26, nameIndex := 1121, descriptorIndex := 1122, attributes := #[] }, { accessFlags := 25, nameIndex := 599, descriptorIndex := 600, attributes := #[] }, { accessFlags := 24, nameIndex := 1125, descriptorIndex := 18, attributes := #[] }, { accessFlags := 24, nameIndex := 1127, descriptorIndex := 18, attributes := #[] }])
  fields := #[{ name := "value", type := (.array .byte), accessFlags := 18, slot := 0, constantValue := 0 }, { name := "coder", type := .byte, accessFlags := 18, slot := 1, constantValue := 0 }, { name := "hash", type := .int, accessFlags := 2, slot := 2, constantValue := 0 }, { name := "hashIsZero", type := .boolean, accessFlags := 2, slot := 3, constantValue := 0 }, { name := "serialVersionUID", type := .long, accessFlags := 26, slot := 0, constantValue := 0 }, { name := "COMPACT_STRINGS", type := .boolean, accessFlags := 24, slot := 1, constantValue := 0 }, { name := "serialPersistentFields", type := (.array (.object "java/io/ObjectStreamField")), accessFlags := 26, slot := 2, constantValue := 0 }, { name := "REPL", type := .char, accessFlags := 26, slot := 3, constantValue := 0 }, { name := "CASE_INSENSITIVE_ORDER", type := (.object "java/util/Comparator"), accessFlags := 25, slot := 4, constantValue := 0 }, { name := "LATIN1", type := .byte, accessFlags := 24, slot := 5, constantValue := 0 }, { name := "UTF16", type := .byte, accessFlags := 24, slot := 6, constantValue := 0 }]
  methods := #[k7m0, k7m1, k7m2, k7m3]
  instanceTypes := #[(.array .byte), .byte, .int, .boolean]
  staticTypes := #[.long, .boolean, (.array (.object "java/io/ObjectStreamField")), .char, (.object "java/util/Comparator"), .byte, .byte]
  resolved := Array.replicate 1451 none
  statics := some 0 }

def pool8 : Array CpInfo := pool [(1, .methodref 2 3), (0, .class_ 4), (0, .nameAndType 5 6), (0, u "java/lang/Object"), (0, u "<init>"), (0, u "()V"), (0, .class_ 8), (0, u "java/lang/Record")] 13

def k8c0 : Code := { maxStack := 1, maxLocals := 1, code := jdk_30_method_1_code, exceptionTable := #[], attributes := #[] }
def k8m0 : Method := { name := "<init>", desc := "()V", sig := { parameters := [], returnType := none }, accessFlags := 4, code := some k8c0 }
/-- java/lang/Record -/
def k8 : Class := { plain "java/lang/Record" (some 0) with
  accessFlags := 1057
  interfaces := #[]
  cf := some (fileOf pool8 7 #[] #[{ accessFlags := 4, nameIndex := 5, descriptorIndex := 6, attributes := #[] }] 1057 2 #[] #[])
  fields := #[]
  methods := #[k8m0]
  instanceTypes := #[]
  staticTypes := #[]
  resolved := Array.replicate 22 none
  statics := none }

def pool9 : Array CpInfo := pool [(1, .methodref 2 3), (0, .class_ 4), (0, .nameAndType 5 6), (0, u "java/lang/Record"), (0, u "<init>"), (0, u "()V"), (0, .fieldref 8 9), (0, .class_ 10), (0, .nameAndType 11 12), (0, u "com/example/whirligig/whirligig/DownloadInfoIndication$Unreadable"), (0, u "id"), (0, u "I"), (0, .fieldref 8 14), (0, .nameAndType 15 12), (0, u "version"), (0, .fieldref 8 17), (0, .nameAndType 18 19), (0, u "reason"), (0, u "Ljava/lang/String;"), (0, .methodref 21 22), (0, .class_ 23), (0, .nameAndType 24 25), (0, u "java/lang/String"), (0, u "equals"), (0, u "(Ljava/lang/Object;)Z"), (18, u "(IILjava/lang/String;)V"), (10, .class_ 56), (0, u "com/example/whirligig/whirligig/DownloadInfoIndication")] 21

def k9c0 : Code := { maxStack := 2, maxLocals := 4, code := prog_44_method_1_code, exceptionTable := #[], attributes := #[] }
def k9m0 : Method := { name := "<init>", desc := "(IILjava/lang/String;)V", sig := { parameters := [.int, .int, (.object "java/lang/String")], returnType := none }, accessFlags := 0, code := some k9c0 }
def k9c1 : Code := { maxStack := 2, maxLocals := 3, code := prog_44_method_2_code, exceptionTable := #[], attributes := #[] }
def k9m1 : Method := { name := "equals", desc := "(Ljava/lang/Object;)Z", sig := { parameters := [(.object "java/lang/Object")], returnType := some .boolean }, accessFlags := 1, code := some k9c1 }
/-- com/example/whirligig/whirligig/DownloadInfoIndication$Unreadable -/
def k9 : Class := { plain "com/example/whirligig/whirligig/DownloadInfoIndication$Unreadable" (some 8) with
  accessFlags := 48
  interfaces := #[]
  cf := some (fileOf pool9 8 #[.nestHost 55] #[{ accessFlags := 0, nameIndex := 5, descriptorIndex := 44, attributes := #[] }, { accessFlags := 1, nameIndex := 24, descriptorIndex := 25, attributes := #[] }] 48 2 #[] #[{ accessFlags := 18, nameIndex := 11, descriptorIndex := 12, attributes := #[] }, { accessFlags := 18, nameIndex := 15, descriptorIndex := 12, attributes := #[] }, { accessFlags := 18, nameIndex := 18, descriptorIndex := 19, attributes := #[] }])
  fields := #[{ name := "id", type := .int, accessFlags := 18, slot := 0, constantValue := 0 }, { name := "version", type := .int, accessFlags := 18, slot := 1, constantValue := 0 }, { name := "reason", type := (.object "java/lang/String"), accessFlags := 18, slot := 2, constantValue := 0 }]
  methods := #[k9m0, k9m1]
  instanceTypes := #[.int, .int, (.object "java/lang/String")]
  staticTypes := #[]
  resolved := Array.replicate 78 none
  statics := none }

def pool10 : Array CpInfo := pool [(4, .class_ 6), (1, u "java/lang/Object"), (0, u "<init>"), (0, u "()V"), (5, .class_ 16), (1, u "java/lang/StringLatin1"), (104, u "$assertionsDisabled"), (0, u "Z"), (98, .class_ 223), (1, u "java/lang/StringLatin1$LinesSpliterator"), (57, u "equals"), (0, u "([B[B)Z"), (107, .class_ 391), (0, u "java/lang/StringLatin1$CharsSpliterator")] 3

def k10m0 : Method := { name := "<init>", desc := "()V", sig := { parameters := [], returnType := none }, accessFlags := 0, code := none }
def k10c1 : Code := { maxStack := 3, maxLocals := 3, code := jdk_43_method_13_code, exceptionTable := #[], attributes := #[] }
def k10m1 : Method := { name := "equals", desc := "([B[B)Z", sig := { parameters := [(.array .byte), (.array .byte)], returnType := some .boolean }, accessFlags := 9, code := some k10c1 }
/-- java/lang/StringLatin1 -/
def k10 : Class := { plain "java/lang/StringLatin1" (some 0) with
  accessFlags := 48
  interfaces := #[]
  cf := some (fileOf pool10 14 #[.nestMembers #[390, 221]] #[{ accessFlags := 0, nameIndex := 7, descriptorIndex := 8, attributes := #[] }, { accessFlags := 9, nameIndex := 281, descriptorIndex := 282, attributes := #[] }] 48 4 #[] #[{ accessFlags := 4120, nameIndex := 121, descriptorIndex := 122, attributes := #[] }])
  fields := #[{ name := "$assertionsDisabled", type := .boolean, accessFlags := 4120, slot := 0, constantValue := 0 }]
  methods := #[k10m0, k10m1]
  instanceTypes := #[]
  staticTypes := #[.boolean]
  resolved := Array.replicate 395 none
  statics := none }

def pool11 : Array CpInfo := pool [(1, .methodref 2 3), (0, .class_ 4), (0, .nameAndType 5 6), (0, u "java/lang/Object"), (0, u "<init>"), (0, u "()V"), (1, .class_ 10), (1, u "java/lang/Number"), (2, .class_ 14), (0, u "java/io/Serializable"), (0, u "serialVersionUID"), (0, u "J")] 20

def k11c0 : Code := { maxStack := 1, maxLocals := 1, code := jdk_18_method_1_code, exceptionTable := #[], attributes := #[] }
def k11m0 : Method := { name := "<init>", desc := "()V", sig := { parameters := [], returnType := none }, accessFlags := 1, code := some k11c0 }
/-- java/lang/Number -/
def k11 : Class := { plain "java/lang/Number" (some 0) with
  accessFlags := 1057
  interfaces := #[2]
  cf := some (fileOf pool11 8 #[] #[{ accessFlags := 1, nameIndex := 5, descriptorIndex := 6, attributes := #[] }] 1057 2 #[13] #[{ accessFlags := 26, nameIndex := 15, descriptorIndex := 16, attributes := #[] }])
  fields := #[{ name := "serialVersionUID", type := .long, accessFlags := 26, slot := 0, constantValue := 0 }]
  methods := #[k11m0]
  instanceTypes := #[]
  staticTypes := #[.long]
  resolved := Array.replicate 37 none
  statics := none }

def pool12 : Array CpInfo := pool [(1, .class_ 2), (0, u "java/lang/Integer"), (16, u "digits"), (0, u "[C"), (46, u "<init>"), (17, u "DigitOnes"), (0, u "[B"), (2, u "DigitTens"), (10, .nameAndType 67 101), (0, u "()V"), (85, u "valueOf"), (0, u "(I)Ljava/lang/Integer;"), (0, .class_ 190), (0, u "java/lang/Integer$IntegerCache"), (0, .fieldref 189 192), (0, .nameAndType 193 194), (0, u "high"), (0, u "I"), (0, .fieldref 189 196), (0, .nameAndType 197 198), (0, u "cache"), (0, u "[Ljava/lang/Integer;"), (0, .methodref 1 200), (0, .nameAndType 67 201), (0, u "(I)V"), (0, .methodref 203 100), (0, .class_ 204), (0, u "java/lang/Number"), (0, .fieldref 1 206), (0, .nameAndType 207 194), (0, u "value"), (94, u "TYPE"), (0, u "Ljava/lang/Class;"), (0, .class_ 305), (0, u "java/lang/Comparable"), (0, .class_ 307), (0, u "java/lang/constant/Constable"), (0, .class_ 309), (0, u "java/lang/constant/ConstantDesc"), (0, u "MIN_VALUE"), (1, u "MAX_VALUE"), (3, u "SIZE"), (1, u "BYTES"), (1, u "serialVersionUID"), (0, u "J")] 131

def k12c0 : Code := { maxStack := 3, maxLocals := 1, code := jdk_33_method_22_code, exceptionTable := #[], attributes := #[] }
def k12m0 : Method := { name := "valueOf", desc := "(I)Ljava/lang/Integer;", sig := { parameters := [.int], returnType := some (.object "java/lang/Integer") }, accessFlags := 9, code := some k12c0 }
def k12c1 : Code := { maxStack := 2, maxLocals := 2, code := jdk_33_method_23_code, exceptionTable := #[], attributes := #[] }
def k12m1 : Method := { name := "<init>", desc := "(I)V", sig := { parameters := [.int], returnType := none }, accessFlags := 1, code := some k12c1 }
/-- java/lang/Integer -/
def k12 : Class := { plain "java/lang/Integer" (some 11) with
  accessFlags := 49
  interfaces := #[3, 5, 6]
  cf := some (fileOf pool12 1 #[.nestMembers #[189]] #[{ accessFlags := 9, nameIndex := 187, descriptorIndex := 188, attributes := #[] }, { accessFlags := 1, nameIndex := 67, descriptorIndex := 201, attributes := #[] }] 49 203 #[304, 306, 308] #[{ accessFlags := 25, nameIndex := 310, descriptorIndex := 194, attributes := #[] }, { accessFlags := 25, nameIndex := 312, descriptorIndex := 194, attributes := #[] }, { accessFlags := 25, nameIndex := 302, descriptorIndex := 303, attributes := #[] }, { accessFlags := 24, nameIndex := 19, descriptorIndex := 20, attributes := #[] }, { accessFlags := 24, nameIndex := 89, descriptorIndex := 86, attributes := #[] }, { accessFlags := 24, nameIndex := 85, descriptorIndex := 86, attributes := #[] }, { accessFlags := 18, nameIndex := 207, descriptorIndex := 194, attributes := #[] }, { accessFlags := 25, nameIndex := 316, descriptorIndex := 194, attributes := #[] }, { accessFlags := 25, nameIndex := 318, descriptorIndex := 194, attributes := #[] }, { accessFlags := 26, nameIndex := 320, descriptorIndex := 321, attributes := #[] }])
  fields := #[{ name := "MIN_VALUE", type := .int, accessFlags := 25, slot := 0, constantValue := 0 }, { name := "MAX_VALUE", type := .int, accessFlags := 25, slot := 1, constantValue := 0 }, { name := "TYPE", type := (.object "java/lang/Class"), accessFlags := 25, slot := 2, constantValue := 0 }, { name := "digits", type := (.array .char), accessFlags := 24, slot := 3, constantValue := 0 }, { name := "DigitTens", type := (.array .byte), accessFlags := 24, slot := 4, constantValue := 0 }, { name := "DigitOnes", type := (.array .byte), accessFlags := 24, slot := 5, constantValue := 0 }, { name := "value", type := .int, accessFlags := 18, slot := 0, constantValue := 0 }, { name := "SIZE", type := .int, accessFlags := 25, slot := 6, constantValue := 0 }, { name := "BYTES", type := .int, accessFlags := 25, slot := 7, constantValue := 0 }, { name := "serialVersionUID", type := .long, accessFlags := 26, slot := 8, constantValue := 0 }]
  methods := #[k12m0, k12m1]
  instanceTypes := #[.int]
  staticTypes := #[.int, .int, (.object "java/lang/Class"), (.array .char), (.array .byte), (.array .byte), .int, .int, .long]
  resolved := Array.replicate 453 none
  statics := none }

def pool13 : Array CpInfo := pool [(2, .class_ 4), (1, u "java/lang/Object"), (0, u "<init>"), (0, u "()V"), (0, .class_ 8), (0, u "java/lang/Integer"), (7, .class_ 18), (1, u "java/lang/Integer$IntegerCache"), (0, u "$assertionsDisabled"), (0, u "Z"), (26, u "high"), (0, u "I"), (8, u "archivedCache"), (0, u "[Ljava/lang/Integer;"), (12, u "cache"), (0, u "low")] 27

def k13m0 : Method := { name := "<init>", desc := "()V", sig := { parameters := [], returnType := none }, accessFlags := 2, code := none }
/-- java/lang/Integer$IntegerCache -/
def k13 : Class := { plain "java/lang/Integer$IntegerCache" (some 0) with
  accessFlags := 48
  interfaces := #[]
  cf := some (fileOf pool13 16 #[.nestHost 7] #[{ accessFlags := 2, nameIndex := 5, descriptorIndex := 6, attributes := #[] }] 48 2 #[] #[{ accessFlags := 24, nameIndex := 72, descriptorIndex := 48, attributes := #[] }, { accessFlags := 24, nameIndex := 47, descriptorIndex := 48, attributes := #[] }, { accessFlags := 24, nameIndex := 71, descriptorIndex := 58, attributes := #[] }, { accessFlags := 8, nameIndex := 57, descriptorIndex := 58, attributes := #[] }, { accessFlags := 4120, nameIndex := 19, descriptorIndex := 20, attributes := #[] }])
  fields := #[{ name := "low", type := .int, accessFlags := 24, slot := 0, constantValue := 0 }, { name := "high", type := .int, accessFlags := 24, slot := 1, constantValue := 0 }, { name := "cache", type := (.array (.object "java/lang/Integer")), accessFlags := 24, slot := 2, constantValue := 0 }, { name := "archivedCache", type := (.array (.object "java/lang/Integer")), accessFlags := 8, slot := 3, constantValue := 0 }, { name := "$assertionsDisabled", type := .boolean, accessFlags := 4120, slot := 4, constantValue := 0 }]
  methods := #[k13m0]
  instanceTypes := #[]
  staticTypes := #[.int, .int, (.array (.object "java/lang/Integer")), (.array (.object "java/lang/Integer")), .boolean]
  resolved := Array.replicate 100 none
  statics := some 1 }

def pool14 : Array CpInfo := pool [(6, .class_ 8), (1, u "java/lang/Object"), (0, u "<init>"), (0, u "()V"), (1, .class_ 14), (1, u "java/lang/StringUTF16"), (31, u "$assertionsDisabled"), (0, u "Z"), (13, u "HI_BYTE_SHIFT"), (0, u "I"), (2, u "LO_BYTE_SHIFT"), (49, .methodref 12 116), (0, .nameAndType 117 118), (0, u "compress"), (0, u "([CI[BII)I"), (3, u "([CII)[B"), (138, u "coderFromArrayLen"), (0, u "([BI)B"), (106, .class_ 371), (1, u "java/lang/StringUTF16$LinesSpliterator"), (58, u "MAX_LENGTH"), (196, .class_ 628), (0, u "java/lang/StringUTF16$CodePointsSpliterator"), (0, .class_ 630), (0, u "java/lang/StringUTF16$CharsSpliterator")] 4

def k14m0 : Method := { name := "<init>", desc := "()V", sig := { parameters := [], returnType := none }, accessFlags := 0, code := none }
def k14c1 : Code := { maxStack := 2, maxLocals := 2, code := jdk_52_method_15_code, exceptionTable := #[], attributes := #[] }
def k14m1 : Method := { name := "coderFromArrayLen", desc := "([BI)B", sig := { parameters := [(.array .byte), .int], returnType := some .byte }, accessFlags := 8, code := some k14c1 }
def k14c2 : Code := { maxStack := 5, maxLocals := 6, code := jdk_52_method_16_code, exceptionTable := #[], attributes := #[] }
def k14m2 : Method := { name := "compress", desc := "([CII)[B", sig := { parameters := [(.array .char), .int, .int], returnType := some (.array .byte) }, accessFlags := 9, code := some k14c2 }
def k14c3 : Code := { maxStack := 3, maxLocals := 7, code := jdk_52_method_21_code, exceptionTable := #[], attributes := #[] }
def k14m3 : Method := { name := "compress", desc := "([CI[BII)I", sig := { parameters := [(.array .char), .int, (.array .byte), .int, .int], returnType := some .int }, accessFlags := 9, code := some k14c3 }
/-- java/lang/StringUTF16 -/
def k14 : Class := { plain "java/lang/StringUTF16" (some 0) with
  accessFlags := 48
  interfaces := #[]
  cf := some (fileOf pool14 12 #[.nestMembers #[627, 629, 369]] #[{ accessFlags := 0, nameIndex := 9, descriptorIndex := 10, attributes := #[] }, { accessFlags := 8, nameIndex := 261, descriptorIndex := 262, attributes := #[] }, { accessFlags := 9, nameIndex := 117, descriptorIndex := 122, attributes := #[] }, { accessFlags := 9, nameIndex := 117, descriptorIndex := 118, attributes := #[] }] 48 6 #[] #[{ accessFlags := 26, nameIndex := 61, descriptorIndex := 62, attributes := #[] }, { accessFlags := 26, nameIndex := 65, descriptorIndex := 62, attributes := #[] }, { accessFlags := 24, nameIndex := 430, descriptorIndex := 62, attributes := #[] }, { accessFlags := 4120, nameIndex := 46, descriptorIndex := 47, attributes := #[] }])
  fields := #[{ name := "HI_BYTE_SHIFT", type := .int, accessFlags := 26, slot := 0, constantValue := 0 }, { name := "LO_BYTE_SHIFT", type := .int, accessFlags := 26, slot := 1, constantValue := 0 }, { name := "MAX_LENGTH", type := .int, accessFlags := 24, slot := 2, constantValue := 0 }, { name := "$assertionsDisabled", type := .boolean, accessFlags := 4120, slot := 3, constantValue := 0 }]
  methods := #[k14m0, k14m1, k14m2, k14m3]
  instanceTypes := #[]
  staticTypes := #[.int, .int, .int, .boolean]
  resolved := Array.replicate 635 none
  statics := none }

def pool15 : Array CpInfo := pool [(2, .class_ 4), (1, u "java/lang/Object"), (0, u "<init>"), (0, u "()V"), (17, .class_ 26), (1, u "jdk/internal/util/Preconditions"), (28, .class_ 56), (0, u "jdk/internal/util/Preconditions$4"), (57, .class_ 115), (0, u "jdk/internal/util/Preconditions$1"), (7, u "SIOOBE_FORMATTER"), (0, u "Ljava/util/function/BiFunction;"), (0, .class_ 126), (0, u "jdk/internal/util/Preconditions$2"), (3, u "AIOOBE_FORMATTER"), (0, .class_ 132), (0, u "jdk/internal/util/Preconditions$3"), (3, u "IOOBE_FORMATTER")] 57

def k15m0 : Method := { name := "<init>", desc := "()V", sig := { parameters := [], returnType := none }, accessFlags := 1, code := none }
/-- jdk/internal/util/Preconditions -/
def k15 : Class := { plain "jdk/internal/util/Preconditions" (some 0) with
  accessFlags := 33
  interfaces := #[]
  cf := some (fileOf pool15 24 #[.nestMembers #[55, 131, 125, 114]] #[{ accessFlags := 1, nameIndex := 5, descriptorIndex := 6, attributes := #[] }] 33 2 #[] #[{ accessFlags := 25, nameIndex := 123, descriptorIndex := 124, attributes := #[] }, { accessFlags := 25, nameIndex := 130, descriptorIndex := 124, attributes := #[] }, { accessFlags := 25, nameIndex := 136, descriptorIndex := 124, attributes := #[] }])
  fields := #[{ name := "SIOOBE_FORMATTER", type := (.object "java/util/function/BiFunction"), accessFlags := 25, slot := 0, constantValue := 0 }, { name := "AIOOBE_FORMATTER", type := (.object "java/util/function/BiFunction"), accessFlags := 25, slot := 1, constantValue := 0 }, { name := "IOOBE_FORMATTER", type := (.object "java/util/function/BiFunction"), accessFlags := 25, slot := 2, constantValue := 0 }]
  methods := #[k15m0]
  instanceTypes := #[]
  staticTypes := #[(.object "java/util/function/BiFunction"), (.object "java/util/function/BiFunction"), (.object "java/util/function/BiFunction")]
  resolved := Array.replicate 194 none
  statics := some 2 }

def pool16 : Array CpInfo := pool [(9, u "<init>"), (6, .class_ 18), (1, u "java/lang/Object"), (0, u "()V"), (1, .class_ 23), (1, u "jdk/internal/util/ArraysSupport"), (0, u "LOG2_ARRAY_LONG_INDEX_SCALE"), (0, u "I"), (2, u "U"), (0, u "Ljdk/internal/misc/Unsafe;"), (8, u "BIG_ENDIAN"), (0, u "Z"), (8, u "LOG2_BYTE_BIT_SIZE"), (4, u "LOG2_ARRAY_INT_INDEX_SCALE"), (54, u "JLA"), (0, u "Ljdk/internal/access/JavaLangAccess;"), (11, u "LOG2_ARRAY_BOOLEAN_INDEX_SCALE"), (9, u "LOG2_ARRAY_BYTE_INDEX_SCALE"), (5, u "LOG2_ARRAY_CHAR_INDEX_SCALE"), (5, u "LOG2_ARRAY_SHORT_INDEX_SCALE"), (18, u "LOG2_ARRAY_FLOAT_INDEX_SCALE"), (24, u "LOG2_ARRAY_DOUBLE_INDEX_SCALE"), (89, u "T_BOOLEAN"), (2, u "T_CHAR"), (1, u "T_FLOAT"), (1, u "T_DOUBLE"), (1, u "T_BYTE"), (1, u "T_SHORT"), (1, u "T_INT"), (1, u "T_LONG"), (1, u "SOFT_MAX_ARRAY_LENGTH")] 83

def k16m0 : Method := { name := "<init>", desc := "()V", sig := { parameters := [], returnType := none }, accessFlags := 2, code := none }
/-- jdk/internal/util/ArraysSupport -/
def k16 : Class := { plain "jdk/internal/util/ArraysSupport" (some 0) with
  accessFlags := 33
  interfaces := #[]
  cf := some (fileOf pool16 21 #[] #[{ accessFlags := 2, nameIndex := 9, descriptorIndex := 19, attributes := #[] }] 33 16 #[] #[{ accessFlags := 24, nameIndex := 28, descriptorIndex := 29, attributes := #[] }, { accessFlags := 26, nameIndex := 38, descriptorIndex := 39, attributes := #[] }, { accessFlags := 25, nameIndex := 121, descriptorIndex := 25, attributes := #[] }, { accessFlags := 25, nameIndex := 131, descriptorIndex := 25, attributes := #[] }, { accessFlags := 25, nameIndex := 137, descriptorIndex := 25, attributes := #[] }, { accessFlags := 25, nameIndex := 143, descriptorIndex := 25, attributes := #[] }, { accessFlags := 25, nameIndex := 53, descriptorIndex := 25, attributes := #[] }, { accessFlags := 25, nameIndex := 24, descriptorIndex := 25, attributes := #[] }, { accessFlags := 25, nameIndex := 162, descriptorIndex := 25, attributes := #[] }, { accessFlags := 25, nameIndex := 187, descriptorIndex := 25, attributes := #[] }, { accessFlags := 26, nameIndex := 48, descriptorIndex := 25, attributes := #[] }, { accessFlags := 25, nameIndex := 277, descriptorIndex := 25, attributes := #[] }, { accessFlags := 25, nameIndex := 280, descriptorIndex := 25, attributes := #[] }, { accessFlags := 25, nameIndex := 282, descriptorIndex := 25, attributes := #[] }, { accessFlags := 25, nameIndex := 284, descriptorIndex := 25, attributes := #[] }, { accessFlags := 25, nameIndex := 286, descriptorIndex := 25, attributes := #[] }, { accessFlags := 25, nameIndex := 288, descriptorIndex := 25, attributes := #[] }, { accessFlags := 25, nameIndex := 290, descriptorIndex := 25, attributes := #[] }, { accessFlags := 25, nameIndex := 292, descriptorIndex := 25, attributes := #[] }, { accessFlags := 26, nameIndex := 108, descriptorIndex := 109, attributes := #[] }, { accessFlags := 25, nameIndex := 294, descriptorIndex := 25, attributes := #[] }])
  fields := #[{ name := "U", type := (.object "jdk/internal/misc/Unsafe"), accessFlags := 24, slot := 0, constantValue := 0 }, { name := "BIG_ENDIAN", type := .boolean, accessFlags := 26, slot := 1, constantValue := 0 }, { name := "LOG2_ARRAY_BOOLEAN_INDEX_SCALE", type := .int, accessFlags := 25, slot := 2, constantValue := 0 }, { name := "LOG2_ARRAY_BYTE_INDEX_SCALE", type := .int, accessFlags := 25, slot := 3, constantValue := 0 }, { name := "LOG2_ARRAY_CHAR_INDEX_SCALE", type := .int, accessFlags := 25, slot := 4, constantValue := 0 }, { name := "LOG2_ARRAY_SHORT_INDEX_SCALE", type := .int, accessFlags := 25, slot := 5, constantValue := 0 }, { name := "LOG2_ARRAY_INT_INDEX_SCALE", type := .int, accessFlags := 25, slot := 6, constantValue := 0 }, { name := "LOG2_ARRAY_LONG_INDEX_SCALE", type := .int, accessFlags := 25, slot := 7, constantValue := 0 }, { name := "LOG2_ARRAY_FLOAT_INDEX_SCALE", type := .int, accessFlags := 25, slot := 8, constantValue := 0 }, { name := "LOG2_ARRAY_DOUBLE_INDEX_SCALE", type := .int, accessFlags := 25, slot := 9, constantValue := 0 }, { name := "LOG2_BYTE_BIT_SIZE", type := .int, accessFlags := 26, slot := 10, constantValue := 0 }, { name := "T_BOOLEAN", type := .int, accessFlags := 25, slot := 11, constantValue := 0 }, { name := "T_CHAR", type := .int, accessFlags := 25, slot := 12, constantValue := 0 }, { name := "T_FLOAT", type := .int, accessFlags := 25, slot := 13, constantValue := 0 }, { name := "T_DOUBLE", type := .int, accessFlags := 25, slot := 14, constantValue := 0 }, { name := "T_BYTE", type := .int, accessFlags := 25, slot := 15, constantValue := 0 }, { name := "T_SHORT", type := .int, accessFlags := 25, slot := 16, constantValue := 0 }, { name := "T_INT", type := .int, accessFlags := 25, slot := 17, constantValue := 0 }, { name := "T_LONG", type := .int, accessFlags := 25, slot := 18, constantValue := 0 }, { name := "JLA", type := (.object "jdk/internal/access/JavaLangAccess"), accessFlags := 26, slot := 19, constantValue := 0 }, { name := "SOFT_MAX_ARRAY_LENGTH", type := .int, accessFlags := 25, slot := 20, constantValue := 0 }]
  methods := #[k16m0]
  instanceTypes := #[]
  staticTypes := #[(.object "jdk/internal/misc/Unsafe"), .boolean, .int, .int, .int, .int, .int, .int, .int, .int, .int, .int, .int, .int, .int, .int, .int, .int, .int, (.object "jdk/internal/access/JavaLangAccess"), .int]
  resolved := Array.replicate 378 none
  statics := none }

def pool17 : Array CpInfo := pool [(1, u "java/lang/Cloneable"), (0, .class_ 1), (0, u "java/lang/Object"), (0, .class_ 3)] 3

/-- java/lang/Cloneable -/
def k17 : Class := { plain "java/lang/Cloneable" (some 0) with
  accessFlags := 1537
  interfaces := #[]
  cf := some (fileOf pool17 2 #[] #[] 1537 4 #[] #[])
  fields := #[]
  methods := #[]
  instanceTypes := #[]
  staticTypes := #[]
  resolved := Array.replicate 8 none
  statics := none }

/-- the primitive byte -/
def k18 : Class := { plain "byte" none with kind := .primitive 'B', accessFlags := 0x411 }
/-- [B -/
def k19 : Class := { plain "[B" (some 0) with kind := .array 18 .byte, interfaces := #[17, 2], accessFlags := 1041 }

/-- the primitive char -/
def k20 : Class := { plain "char" none with kind := .primitive 'C', accessFlags := 0x411 }
/-- [C -/
def k21 : Class := { plain "[C" (some 0) with kind := .array 20 .char, interfaces := #[17, 2], accessFlags := 1041 }

/-- the primitive int -/
def k22 : Class := { plain "int" none with kind := .primitive 'I', accessFlags := 0x411 }
/-- [I -/
def k23 : Class := { plain "[I" (some 0) with kind := .array 22 .int, interfaces := #[17, 2], accessFlags := 1041 }

/-- [Ljava/lang/Integer; -/
def k24 : Class := { plain "[Ljava/lang/Integer;" (some 0) with kind := .array 12 (.object "java/lang/Integer"), interfaces := #[17, 2], accessFlags := 1041 }

def heap : Heap := #[{ cls := 7, slots := #[.long 0, .int 1, .null, .int 0, .null, .int 0, .int 0], vm := .statics 7 },
  { cls := 13, slots := #[.int 0, .int 127, .ref 3, .null, .int 0], vm := .statics 13 },
  { cls := 15, slots := #[.null, .null, .null], vm := .statics 15 },
  { cls := 24, slots := #[.ref 4, .ref 5, .ref 6, .ref 7, .ref 8, .ref 9, .ref 10, .ref 11, .ref 12, .ref 13, .ref 14, .ref 15, .ref 16, .ref 17, .ref 18, .ref 19, .ref 20, .ref 21, .ref 22, .ref 23, .ref 24, .ref 25, .ref 26, .ref 27, .ref 28, .ref 29, .ref 30, .ref 31, .ref 32, .ref 33, .ref 34, .ref 35, .ref 36, .ref 37, .ref 38, .ref 39, .ref 40, .ref 41, .ref 42, .ref 43, .ref 44, .ref 45, .ref 46, .ref 47, .ref 48, .ref 49, .ref 50, .ref 51, .ref 52, .ref 53, .ref 54, .ref 55, .ref 56, .ref 57, .ref 58, .ref 59, .ref 60, .ref 61, .ref 62, .ref 63, .ref 64, .ref 65, .ref 66, .ref 67, .ref 68, .ref 69, .ref 70, .ref 71, .ref 72, .ref 73, .ref 74, .ref 75, .ref 76, .ref 77, .ref 78, .ref 79, .ref 80, .ref 81, .ref 82, .ref 83, .ref 84, .ref 85, .ref 86, .ref 87, .ref 88, .ref 89, .ref 90, .ref 91, .ref 92, .ref 93, .ref 94, .ref 95, .ref 96, .ref 97, .ref 98, .ref 99, .ref 100, .ref 101, .ref 102, .ref 103, .ref 104, .ref 105, .ref 106, .ref 107, .ref 108, .ref 109, .ref 110, .ref 111, .ref 112, .ref 113, .ref 114, .ref 115, .ref 116, .ref 117, .ref 118, .ref 119, .ref 120, .ref 121, .ref 122, .ref 123, .ref 124, .ref 125, .ref 126, .ref 127, .ref 128, .ref 129, .ref 130, .ref 131, .ref 132, .ref 133, .ref 134, .ref 135, .ref 136, .ref 137, .ref 138, .ref 139, .ref 140, .ref 141, .ref 142, .ref 143, .ref 144, .ref 145, .ref 146, .ref 147, .ref 148, .ref 149, .ref 150, .ref 151, .ref 152, .ref 153, .ref 154, .ref 155, .ref 156, .ref 157, .ref 158, .ref 159, .ref 160, .ref 161, .ref 162, .ref 163, .ref 164, .ref 165, .ref 166, .ref 167, .ref 168, .ref 169, .ref 170, .ref 171, .ref 172, .ref 173, .ref 174, .ref 175, .ref 176, .ref 177, .ref 178, .ref 179, .ref 180, .ref 181, .ref 182, .ref 183, .ref 184, .ref 185, .ref 186, .ref 187, .ref 188, .ref 189, .ref 190, .ref 191, .ref 192, .ref 193, .ref 194, .ref 195, .ref 196, .ref 197, .ref 198, .ref 199, .ref 200, .ref 201, .ref 202, .ref 203, .ref 204, .ref 205, .ref 206, .ref 207, .ref 208, .ref 209, .ref 210, .ref 211, .ref 212, .ref 213, .ref 214, .ref 215, .ref 216, .ref 217, .ref 218, .ref 219, .ref 220, .ref 221, .ref 222, .ref 223, .ref 224, .ref 225, .ref 226, .ref 227, .ref 228, .ref 229, .ref 230, .ref 231, .ref 232, .ref 233, .ref 234, .ref 235, .ref 236, .ref 237, .ref 238, .ref 239, .ref 240, .ref 241, .ref 242, .ref 243, .ref 244, .ref 245, .ref 246, .ref 247, .ref 248, .ref 249, .ref 250, .ref 251, .ref 252, .ref 253, .ref 254, .ref 255, .ref 256, .ref 257, .ref 258, .ref 259], vm := .none },
  { cls := 12, slots := #[.int (-128)], vm := .none },
  { cls := 12, slots := #[.int (-127)], vm := .none },
  { cls := 12, slots := #[.int (-126)], vm := .none },
  { cls := 12, slots := #[.int (-125)], vm := .none },
  { cls := 12, slots := #[.int (-124)], vm := .none },
  { cls := 12, slots := #[.int (-123)], vm := .none },
  { cls := 12, slots := #[.int (-122)], vm := .none },
  { cls := 12, slots := #[.int (-121)], vm := .none },
  { cls := 12, slots := #[.int (-120)], vm := .none },
  { cls := 12, slots := #[.int (-119)], vm := .none },
  { cls := 12, slots := #[.int (-118)], vm := .none },
  { cls := 12, slots := #[.int (-117)], vm := .none },
  { cls := 12, slots := #[.int (-116)], vm := .none },
  { cls := 12, slots := #[.int (-115)], vm := .none },
  { cls := 12, slots := #[.int (-114)], vm := .none },
  { cls := 12, slots := #[.int (-113)], vm := .none },
  { cls := 12, slots := #[.int (-112)], vm := .none },
  { cls := 12, slots := #[.int (-111)], vm := .none },
  { cls := 12, slots := #[.int (-110)], vm := .none },
  { cls := 12, slots := #[.int (-109)], vm := .none },
  { cls := 12, slots := #[.int (-108)], vm := .none },
  { cls := 12, slots := #[.int (-107)], vm := .none },
  { cls := 12, slots := #[.int (-106)], vm := .none },
  { cls := 12, slots := #[.int (-105)], vm := .none },
  { cls := 12, slots := #[.int (-104)], vm := .none },
  { cls := 12, slots := #[.int (-103)], vm := .none },
  { cls := 12, slots := #[.int (-102)], vm := .none },
  { cls := 12, slots := #[.int (-101)], vm := .none },
  { cls := 12, slots := #[.int (-100)], vm := .none },
  { cls := 12, slots := #[.int (-99)], vm := .none },
  { cls := 12, slots := #[.int (-98)], vm := .none },
  { cls := 12, slots := #[.int (-97)], vm := .none },
  { cls := 12, slots := #[.int (-96)], vm := .none },
  { cls := 12, slots := #[.int (-95)], vm := .none },
  { cls := 12, slots := #[.int (-94)], vm := .none },
  { cls := 12, slots := #[.int (-93)], vm := .none },
  { cls := 12, slots := #[.int (-92)], vm := .none },
  { cls := 12, slots := #[.int (-91)], vm := .none },
  { cls := 12, slots := #[.int (-90)], vm := .none },
  { cls := 12, slots := #[.int (-89)], vm := .none },
  { cls := 12, slots := #[.int (-88)], vm := .none },
  { cls := 12, slots := #[.int (-87)], vm := .none },
  { cls := 12, slots := #[.int (-86)], vm := .none },
  { cls := 12, slots := #[.int (-85)], vm := .none },
  { cls := 12, slots := #[.int (-84)], vm := .none },
  { cls := 12, slots := #[.int (-83)], vm := .none },
  { cls := 12, slots := #[.int (-82)], vm := .none },
  { cls := 12, slots := #[.int (-81)], vm := .none },
  { cls := 12, slots := #[.int (-80)], vm := .none },
  { cls := 12, slots := #[.int (-79)], vm := .none },
  { cls := 12, slots := #[.int (-78)], vm := .none },
  { cls := 12, slots := #[.int (-77)], vm := .none },
  { cls := 12, slots := #[.int (-76)], vm := .none },
  { cls := 12, slots := #[.int (-75)], vm := .none },
  { cls := 12, slots := #[.int (-74)], vm := .none },
  { cls := 12, slots := #[.int (-73)], vm := .none },
  { cls := 12, slots := #[.int (-72)], vm := .none },
  { cls := 12, slots := #[.int (-71)], vm := .none },
  { cls := 12, slots := #[.int (-70)], vm := .none },
  { cls := 12, slots := #[.int (-69)], vm := .none },
  { cls := 12, slots := #[.int (-68)], vm := .none },
  { cls := 12, slots := #[.int (-67)], vm := .none },
  { cls := 12, slots := #[.int (-66)], vm := .none },
  { cls := 12, slots := #[.int (-65)], vm := .none },
  { cls := 12, slots := #[.int (-64)], vm := .none },
  { cls := 12, slots := #[.int (-63)], vm := .none },
  { cls := 12, slots := #[.int (-62)], vm := .none },
  { cls := 12, slots := #[.int (-61)], vm := .none },
  { cls := 12, slots := #[.int (-60)], vm := .none },
  { cls := 12, slots := #[.int (-59)], vm := .none },
  { cls := 12, slots := #[.int (-58)], vm := .none },
  { cls := 12, slots := #[.int (-57)], vm := .none },
  { cls := 12, slots := #[.int (-56)], vm := .none },
  { cls := 12, slots := #[.int (-55)], vm := .none },
  { cls := 12, slots := #[.int (-54)], vm := .none },
  { cls := 12, slots := #[.int (-53)], vm := .none },
  { cls := 12, slots := #[.int (-52)], vm := .none },
  { cls := 12, slots := #[.int (-51)], vm := .none },
  { cls := 12, slots := #[.int (-50)], vm := .none },
  { cls := 12, slots := #[.int (-49)], vm := .none },
  { cls := 12, slots := #[.int (-48)], vm := .none },
  { cls := 12, slots := #[.int (-47)], vm := .none },
  { cls := 12, slots := #[.int (-46)], vm := .none },
  { cls := 12, slots := #[.int (-45)], vm := .none },
  { cls := 12, slots := #[.int (-44)], vm := .none },
  { cls := 12, slots := #[.int (-43)], vm := .none },
  { cls := 12, slots := #[.int (-42)], vm := .none },
  { cls := 12, slots := #[.int (-41)], vm := .none },
  { cls := 12, slots := #[.int (-40)], vm := .none },
  { cls := 12, slots := #[.int (-39)], vm := .none },
  { cls := 12, slots := #[.int (-38)], vm := .none },
  { cls := 12, slots := #[.int (-37)], vm := .none },
  { cls := 12, slots := #[.int (-36)], vm := .none },
  { cls := 12, slots := #[.int (-35)], vm := .none },
  { cls := 12, slots := #[.int (-34)], vm := .none },
  { cls := 12, slots := #[.int (-33)], vm := .none },
  { cls := 12, slots := #[.int (-32)], vm := .none },
  { cls := 12, slots := #[.int (-31)], vm := .none },
  { cls := 12, slots := #[.int (-30)], vm := .none },
  { cls := 12, slots := #[.int (-29)], vm := .none },
  { cls := 12, slots := #[.int (-28)], vm := .none },
  { cls := 12, slots := #[.int (-27)], vm := .none },
  { cls := 12, slots := #[.int (-26)], vm := .none },
  { cls := 12, slots := #[.int (-25)], vm := .none },
  { cls := 12, slots := #[.int (-24)], vm := .none },
  { cls := 12, slots := #[.int (-23)], vm := .none },
  { cls := 12, slots := #[.int (-22)], vm := .none },
  { cls := 12, slots := #[.int (-21)], vm := .none },
  { cls := 12, slots := #[.int (-20)], vm := .none },
  { cls := 12, slots := #[.int (-19)], vm := .none },
  { cls := 12, slots := #[.int (-18)], vm := .none },
  { cls := 12, slots := #[.int (-17)], vm := .none },
  { cls := 12, slots := #[.int (-16)], vm := .none },
  { cls := 12, slots := #[.int (-15)], vm := .none },
  { cls := 12, slots := #[.int (-14)], vm := .none },
  { cls := 12, slots := #[.int (-13)], vm := .none },
  { cls := 12, slots := #[.int (-12)], vm := .none },
  { cls := 12, slots := #[.int (-11)], vm := .none },
  { cls := 12, slots := #[.int (-10)], vm := .none },
  { cls := 12, slots := #[.int (-9)], vm := .none },
  { cls := 12, slots := #[.int (-8)], vm := .none },
  { cls := 12, slots := #[.int (-7)], vm := .none },
  { cls := 12, slots := #[.int (-6)], vm := .none },
  { cls := 12, slots := #[.int (-5)], vm := .none },
  { cls := 12, slots := #[.int (-4)], vm := .none },
  { cls := 12, slots := #[.int (-3)], vm := .none },
  { cls := 12, slots := #[.int (-2)], vm := .none },
  { cls := 12, slots := #[.int (-1)], vm := .none },
  { cls := 12, slots := #[.int (0)], vm := .none },
  { cls := 12, slots := #[.int (1)], vm := .none },
  { cls := 12, slots := #[.int (2)], vm := .none },
  { cls := 12, slots := #[.int (3)], vm := .none },
  { cls := 12, slots := #[.int (4)], vm := .none },
  { cls := 12, slots := #[.int (5)], vm := .none },
  { cls := 12, slots := #[.int (6)], vm := .none },
  { cls := 12, slots := #[.int (7)], vm := .none },
  { cls := 12, slots := #[.int (8)], vm := .none },
  { cls := 12, slots := #[.int (9)], vm := .none },
  { cls := 12, slots := #[.int (10)], vm := .none },
  { cls := 12, slots := #[.int (11)], vm := .none },
  { cls := 12, slots := #[.int (12)], vm := .none },
  { cls := 12, slots := #[.int (13)], vm := .none },
  { cls := 12, slots := #[.int (14)], vm := .none },
  { cls := 12, slots := #[.int (15)], vm := .none },
  { cls := 12, slots := #[.int (16)], vm := .none },
  { cls := 12, slots := #[.int (17)], vm := .none },
  { cls := 12, slots := #[.int (18)], vm := .none },
  { cls := 12, slots := #[.int (19)], vm := .none },
  { cls := 12, slots := #[.int (20)], vm := .none },
  { cls := 12, slots := #[.int (21)], vm := .none },
  { cls := 12, slots := #[.int (22)], vm := .none },
  { cls := 12, slots := #[.int (23)], vm := .none },
  { cls := 12, slots := #[.int (24)], vm := .none },
  { cls := 12, slots := #[.int (25)], vm := .none },
  { cls := 12, slots := #[.int (26)], vm := .none },
  { cls := 12, slots := #[.int (27)], vm := .none },
  { cls := 12, slots := #[.int (28)], vm := .none },
  { cls := 12, slots := #[.int (29)], vm := .none },
  { cls := 12, slots := #[.int (30)], vm := .none },
  { cls := 12, slots := #[.int (31)], vm := .none },
  { cls := 12, slots := #[.int (32)], vm := .none },
  { cls := 12, slots := #[.int (33)], vm := .none },
  { cls := 12, slots := #[.int (34)], vm := .none },
  { cls := 12, slots := #[.int (35)], vm := .none },
  { cls := 12, slots := #[.int (36)], vm := .none },
  { cls := 12, slots := #[.int (37)], vm := .none },
  { cls := 12, slots := #[.int (38)], vm := .none },
  { cls := 12, slots := #[.int (39)], vm := .none },
  { cls := 12, slots := #[.int (40)], vm := .none },
  { cls := 12, slots := #[.int (41)], vm := .none },
  { cls := 12, slots := #[.int (42)], vm := .none },
  { cls := 12, slots := #[.int (43)], vm := .none },
  { cls := 12, slots := #[.int (44)], vm := .none },
  { cls := 12, slots := #[.int (45)], vm := .none },
  { cls := 12, slots := #[.int (46)], vm := .none },
  { cls := 12, slots := #[.int (47)], vm := .none },
  { cls := 12, slots := #[.int (48)], vm := .none },
  { cls := 12, slots := #[.int (49)], vm := .none },
  { cls := 12, slots := #[.int (50)], vm := .none },
  { cls := 12, slots := #[.int (51)], vm := .none },
  { cls := 12, slots := #[.int (52)], vm := .none },
  { cls := 12, slots := #[.int (53)], vm := .none },
  { cls := 12, slots := #[.int (54)], vm := .none },
  { cls := 12, slots := #[.int (55)], vm := .none },
  { cls := 12, slots := #[.int (56)], vm := .none },
  { cls := 12, slots := #[.int (57)], vm := .none },
  { cls := 12, slots := #[.int (58)], vm := .none },
  { cls := 12, slots := #[.int (59)], vm := .none },
  { cls := 12, slots := #[.int (60)], vm := .none },
  { cls := 12, slots := #[.int (61)], vm := .none },
  { cls := 12, slots := #[.int (62)], vm := .none },
  { cls := 12, slots := #[.int (63)], vm := .none },
  { cls := 12, slots := #[.int (64)], vm := .none },
  { cls := 12, slots := #[.int (65)], vm := .none },
  { cls := 12, slots := #[.int (66)], vm := .none },
  { cls := 12, slots := #[.int (67)], vm := .none },
  { cls := 12, slots := #[.int (68)], vm := .none },
  { cls := 12, slots := #[.int (69)], vm := .none },
  { cls := 12, slots := #[.int (70)], vm := .none },
  { cls := 12, slots := #[.int (71)], vm := .none },
  { cls := 12, slots := #[.int (72)], vm := .none },
  { cls := 12, slots := #[.int (73)], vm := .none },
  { cls := 12, slots := #[.int (74)], vm := .none },
  { cls := 12, slots := #[.int (75)], vm := .none },
  { cls := 12, slots := #[.int (76)], vm := .none },
  { cls := 12, slots := #[.int (77)], vm := .none },
  { cls := 12, slots := #[.int (78)], vm := .none },
  { cls := 12, slots := #[.int (79)], vm := .none },
  { cls := 12, slots := #[.int (80)], vm := .none },
  { cls := 12, slots := #[.int (81)], vm := .none },
  { cls := 12, slots := #[.int (82)], vm := .none },
  { cls := 12, slots := #[.int (83)], vm := .none },
  { cls := 12, slots := #[.int (84)], vm := .none },
  { cls := 12, slots := #[.int (85)], vm := .none },
  { cls := 12, slots := #[.int (86)], vm := .none },
  { cls := 12, slots := #[.int (87)], vm := .none },
  { cls := 12, slots := #[.int (88)], vm := .none },
  { cls := 12, slots := #[.int (89)], vm := .none },
  { cls := 12, slots := #[.int (90)], vm := .none },
  { cls := 12, slots := #[.int (91)], vm := .none },
  { cls := 12, slots := #[.int (92)], vm := .none },
  { cls := 12, slots := #[.int (93)], vm := .none },
  { cls := 12, slots := #[.int (94)], vm := .none },
  { cls := 12, slots := #[.int (95)], vm := .none },
  { cls := 12, slots := #[.int (96)], vm := .none },
  { cls := 12, slots := #[.int (97)], vm := .none },
  { cls := 12, slots := #[.int (98)], vm := .none },
  { cls := 12, slots := #[.int (99)], vm := .none },
  { cls := 12, slots := #[.int (100)], vm := .none },
  { cls := 12, slots := #[.int (101)], vm := .none },
  { cls := 12, slots := #[.int (102)], vm := .none },
  { cls := 12, slots := #[.int (103)], vm := .none },
  { cls := 12, slots := #[.int (104)], vm := .none },
  { cls := 12, slots := #[.int (105)], vm := .none },
  { cls := 12, slots := #[.int (106)], vm := .none },
  { cls := 12, slots := #[.int (107)], vm := .none },
  { cls := 12, slots := #[.int (108)], vm := .none },
  { cls := 12, slots := #[.int (109)], vm := .none },
  { cls := 12, slots := #[.int (110)], vm := .none },
  { cls := 12, slots := #[.int (111)], vm := .none },
  { cls := 12, slots := #[.int (112)], vm := .none },
  { cls := 12, slots := #[.int (113)], vm := .none },
  { cls := 12, slots := #[.int (114)], vm := .none },
  { cls := 12, slots := #[.int (115)], vm := .none },
  { cls := 12, slots := #[.int (116)], vm := .none },
  { cls := 12, slots := #[.int (117)], vm := .none },
  { cls := 12, slots := #[.int (118)], vm := .none },
  { cls := 12, slots := #[.int (119)], vm := .none },
  { cls := 12, slots := #[.int (120)], vm := .none },
  { cls := 12, slots := #[.int (121)], vm := .none },
  { cls := 12, slots := #[.int (122)], vm := .none },
  { cls := 12, slots := #[.int (123)], vm := .none },
  { cls := 12, slots := #[.int (124)], vm := .none },
  { cls := 12, slots := #[.int (125)], vm := .none },
  { cls := 12, slots := #[.int (126)], vm := .none },
  { cls := 12, slots := #[.int (127)], vm := .none }]
def classes : Array Class := #[k0, k1, k2, k3, k4, k5, k6, k7, k8, k9, k10, k11, k12, k13, k14, k15, k16, k17, k18, k19, k20, k21, k22, k23, k24]
def interned : List (Array UInt16 × Addr) := []
def slotsUsed : Nat := 527
def theMethod : MethodId := ⟨1, 2⟩
def args0 : Array Value := #[.int 5, .int 4, .int 3, .int 2, .int 1, .int 0]
def aboutOver (below : List Frame) : State where
  vm := { classes := classes, interned := interned.toArray }
  heap := heap
  slotsUsed := slotsUsed
  threads := #[{ frames := .invoking theMethod args0 :: below }]
def below0 : List Frame := [.native { method := ⟨0, 0⟩, args := #[] }]
def about1 : State := aboutOver below0
def p0 : Program := .bare "" "" ""
def e0 : Env := launch0.env 0 0 0
theorem w_frames : about1.frames = Frame.invoking theMethod args0 :: below0 := rfl
set_option maxRecDepth 65536 in
theorem w_args : argsFit about1.vm theMethod args0 = true := by decide +kernel
set_option maxRecDepth 65536 in
theorem w_heap : heapFits about1 = true := by decide +kernel
set_option maxRecDepth 65536 in
theorem w_runnable : about1.curStatus? = some .runnable := by decide +kernel
set_option maxRecDepth 65536 in
theorem w_alone : about1.alone = true := by decide +kernel
set_option maxRecDepth 65536 in
theorem w_named : about1.methodNamed? x = some theMethod := by decide +kernel
set_option maxRecDepth 65536 in
theorem w_hears : about1.hears theMethod below0 = true := by decide +kernel
set_option maxRecDepth 65536 in
theorem w_ripe : about1.ripe theMethod args0 below0 = true := by decide +kernel
theorem w_running : about1.status = .running := rfl
set_option maxRecDepth 65536 in
theorem w_room : about1.hasRoom e0.platform room_1 = true :=
  launch0.hasRoom_least _ room_1 (by decide +kernel) (by decide +kernel) (by decide +kernel) (by decide +kernel) (by decide +kernel) (by decide +kernel)
theorem allAtoms_all (ts : List Jvm.Cond) (a : Array Jvm.Value) (st : Jvm.State) : (allAtoms ts).before a st = ts.all (fun c => c.before a st) := by
  induction ts with
  | nil => rfl
  | cons c t ih =>
    show (Jvm.Cond.and c (allAtoms t)).before a st = _
    rw [Jvm.Cond.before_and, ih, List.all_cons]
def words1 : List Jvm.Cond := Jvm.Cond.code x code maxLocals ret :: tables_1
/-- a 'code' word, met by the world's own term for the bytes: nothing is compared byte by byte -/
theorem code_word {y : MethodName} {bytes : ByteArray} {mx : Nat} {rt : Option FieldType} {a : Array Value} {s : State} {m : MethodId} {meth : Method} {c : Code} (h1 : s.methodNamed? y = some m) (h2 : s.vm.method? m = some meth) (h3 : meth.code = some c) (h4 : c.code = bytes)
    (h5 : (c.maxLocals == mx && c.exceptionTable.isEmpty && decide (c.maxStack ≤ mostOperands) && decide (meth.sig.returnType = rt) && !meth.locks && decide (parseMethodDescriptor y.desc = some meth.sig)) = true) : (Jvm.Cond.code y bytes mx rt).before a s = true := by
  simp only [Bool.and_eq_true, beq_iff_eq, Bool.not_eq_true', decide_eq_true_eq] at h5
  obtain ⟨⟨⟨⟨⟨g1, g2⟩, g3⟩, g4⟩, g5⟩, g6⟩ := h5
  simp [Cond.before, Cond.holds, Cond.value, h1, h2, h3, h4, g1, g2, g3, g4, g5, g6]
def isCode : Jvm.Cond → Bool
  | .code _ _ _ _ => true
  | _ => false
theorem all_split {L : List Jvm.Cond} {P : Jvm.Cond → Bool} (h1 : L.all (fun c => isCode c || P c) = true) (h2 : ∀ c ∈ L.filter isCode, P c = true) : L.all P = true := by
  refine List.all_eq_true.mpr fun c hc => ?_
  have h := List.all_eq_true.mp h1 c hc
  rcases Bool.eq_false_or_eq_true (isCode c) with hi | hi
  · exact h2 c (List.mem_filter.mpr ⟨hc, hi⟩)
  · simpa [hi] using h
set_option maxRecDepth 65536 in
theorem w_c0 : (Jvm.Cond.code x code maxLocals ret).before args0 about1 = true := code_word (m := ⟨1, 2⟩) (meth := k1m2) (c := k1c2) (by decide +kernel) rfl rfl rfl (by decide +kernel)
set_option maxRecDepth 65536 in
theorem w_c1 : (Jvm.Cond.code ({ cls := "com/example/whirligig/whirligig/UnreadableEqualsPinLaw", name := "chars", desc := "(III)[C" } : Jvm.MethodName) method_2_code (5 : Nat) (Option.some (Jvm.ClassFile.FieldType.array Jvm.ClassFile.FieldType.char))).before args0 about1 = true := code_word (m := ⟨1, 1⟩) (meth := k1m1) (c := k1c1) (by decide +kernel) rfl rfl rfl (by decide +kernel)
set_option maxRecDepth 65536 in
theorem w_c2 : (Jvm.Cond.code ({ cls := "java/lang/String", name := "<init>", desc := "([C)V" } : Jvm.MethodName) jdk_42_method_3_code (2 : Nat) (Option.none : Option Jvm.ClassFile.FieldType)).before args0 about1 = true := code_word (m := ⟨7, 1⟩) (meth := k7m1) (c := k7c1) (by decide +kernel) rfl rfl rfl (by decide +kernel)
set_option maxRecDepth 65536 in
theorem w_c3 : (Jvm.Cond.code ({ cls := "java/lang/String", name := "<init>", desc := "([CIILjava/lang/Void;)V" } : Jvm.MethodName) jdk_42_method_149_code (6 : Nat) (Option.none : Option Jvm.ClassFile.FieldType)).before args0 about1 = true := code_word (m := ⟨7, 3⟩) (meth := k7m3) (c := k7c3) (by decide +kernel) rfl rfl rfl (by decide +kernel)
set_option maxRecDepth 65536 in
theorem w_c4 : (Jvm.Cond.code ({ cls := "java/lang/Object", name := "<init>", desc := "()V" } : Jvm.MethodName) object_method_1_code (1 : Nat) (Option.none : Option Jvm.ClassFile.FieldType)).before args0 about1 = true := code_word (m := ⟨0, 0⟩) (meth := k0m0) (c := k0c0) (by decide +kernel) rfl rfl rfl (by decide +kernel)
set_option maxRecDepth 65536 in
theorem w_c5 : (Jvm.Cond.code ({ cls := "com/example/whirligig/whirligig/DownloadInfoIndication$Unreadable", name := "<init>", desc := "(IILjava/lang/String;)V" } : Jvm.MethodName) prog_44_method_1_code (4 : Nat) (Option.none : Option Jvm.ClassFile.FieldType)).before args0 about1 = true := code_word (m := ⟨9, 0⟩) (meth := k9m0) (c := k9c0) (by decide +kernel) rfl rfl rfl (by decide +kernel)
set_option maxRecDepth 65536 in
theorem w_c6 : (Jvm.Cond.code ({ cls := "java/lang/Record", name := "<init>", desc := "()V" } : Jvm.MethodName) jdk_30_method_1_code (1 : Nat) (Option.none : Option Jvm.ClassFile.FieldType)).before args0 about1 = true := code_word (m := ⟨8, 0⟩) (meth := k8m0) (c := k8c0) (by decide +kernel) rfl rfl rfl (by decide +kernel)
set_option maxRecDepth 65536 in
theorem w_c7 : (Jvm.Cond.code ({ cls := "com/example/whirligig/whirligig/DownloadInfoIndication$Unreadable", name := "equals", desc := "(Ljava/lang/Object;)Z" } : Jvm.MethodName) prog_44_method_2_code (3 : Nat) (Option.some Jvm.ClassFile.FieldType.boolean)).before args0 about1 = true := code_word (m := ⟨9, 1⟩) (meth := k9m1) (c := k9c1) (by decide +kernel) rfl rfl rfl (by decide +kernel)
set_option maxRecDepth 65536 in
theorem w_c8 : (Jvm.Cond.code ({ cls := "java/lang/String", name := "equals", desc := "(Ljava/lang/Object;)Z" } : Jvm.MethodName) jdk_42_method_66_code (3 : Nat) (Option.some Jvm.ClassFile.FieldType.boolean)).before args0 about1 = true := code_word (m := ⟨7, 2⟩) (meth := k7m2) (c := k7c2) (by decide +kernel) rfl rfl rfl (by decide +kernel)
set_option maxRecDepth 65536 in
theorem w_c9 : (Jvm.Cond.code ({ cls := "java/lang/StringLatin1", name := "equals", desc := "([B[B)Z" } : Jvm.MethodName) jdk_43_method_13_code (3 : Nat) (Option.some Jvm.ClassFile.FieldType.boolean)).before args0 about1 = true := code_word (m := ⟨10, 1⟩) (meth := k10m1) (c := k10c1) (by decide +kernel) rfl rfl rfl (by decide +kernel)
set_option maxRecDepth 65536 in
theorem w_c10 : (Jvm.Cond.code ({ cls := "java/lang/Integer", name := "valueOf", desc := "(I)Ljava/lang/Integer;" } : Jvm.MethodName) jdk_33_method_22_code (1 : Nat) (Option.some (Jvm.ClassFile.FieldType.object "java/lang/Integer"))).before args0 about1 = true := code_word (m := ⟨12, 0⟩) (meth := k12m0) (c := k12c0) (by decide +kernel) rfl rfl rfl (by decide +kernel)
set_option maxRecDepth 65536 in
theorem w_c11 : (Jvm.Cond.code ({ cls := "java/lang/StringUTF16", name := "compress", desc := "([CII)[B" } : Jvm.MethodName) jdk_52_method_16_code (6 : Nat) (Option.some (Jvm.ClassFile.FieldType.array Jvm.ClassFile.FieldType.byte))).before args0 about1 = true := code_word (m := ⟨14, 2⟩) (meth := k14m2) (c := k14c2) (by decide +kernel) rfl rfl rfl (by decide +kernel)
set_option maxRecDepth 65536 in
theorem w_c12 : (Jvm.Cond.code ({ cls := "java/lang/StringUTF16", name := "compress", desc := "([CI[BII)I" } : Jvm.MethodName) jdk_52_method_21_code (7 : Nat) (Option.some Jvm.ClassFile.FieldType.int)).before args0 about1 = true := code_word (m := ⟨14, 3⟩) (meth := k14m3) (c := k14c3) (by decide +kernel) rfl rfl rfl (by decide +kernel)
set_option maxRecDepth 65536 in
theorem w_c13 : (Jvm.Cond.code ({ cls := "java/lang/StringUTF16", name := "coderFromArrayLen", desc := "([BI)B" } : Jvm.MethodName) jdk_52_method_15_code (2 : Nat) (Option.some Jvm.ClassFile.FieldType.byte)).before args0 about1 = true := code_word (m := ⟨14, 1⟩) (meth := k14m1) (c := k14c1) (by decide +kernel) rfl rfl rfl (by decide +kernel)
set_option maxRecDepth 65536 in
theorem w_c14 : (Jvm.Cond.code ({ cls := "java/lang/Integer", name := "<init>", desc := "(I)V" } : Jvm.MethodName) jdk_33_method_23_code (2 : Nat) (Option.none : Option Jvm.ClassFile.FieldType)).before args0 about1 = true := code_word (m := ⟨12, 1⟩) (meth := k12m1) (c := k12c1) (by decide +kernel) rfl rfl rfl (by decide +kernel)
set_option maxRecDepth 65536 in
theorem w_c15 : (Jvm.Cond.code ({ cls := "java/lang/Number", name := "<init>", desc := "()V" } : Jvm.MethodName) jdk_18_method_1_code (1 : Nat) (Option.none : Option Jvm.ClassFile.FieldType)).before args0 about1 = true := code_word (m := ⟨11, 0⟩) (meth := k11m0) (c := k11c0) (by decide +kernel) rfl rfl rfl (by decide +kernel)
def codes1 : List Jvm.Cond := [Jvm.Cond.code x code maxLocals ret, Jvm.Cond.code ({ cls := "com/example/whirligig/whirligig/UnreadableEqualsPinLaw", name := "chars", desc := "(III)[C" } : Jvm.MethodName) method_2_code (5 : Nat) (Option.some (Jvm.ClassFile.FieldType.array Jvm.ClassFile.FieldType.char)), Jvm.Cond.code ({ cls := "java/lang/String", name := "<init>", desc := "([C)V" } : Jvm.MethodName) jdk_42_method_3_code (2 : Nat) (Option.none : Option Jvm.ClassFile.FieldType), Jvm.Cond.code ({ cls := "java/lang/String", name := "<init>", desc := "([CIILjava/lang/Void;)V" } : Jvm.MethodName) jdk_42_method_149_code (6 : Nat) (Option.none : Option Jvm.ClassFile.FieldType), Jvm.Cond.code ({ cls := "java/lang/Object", name := "<init>", desc := "()V" } : Jvm.MethodName) object_method_1_code (1 : Nat) (Option.none : Option Jvm.ClassFile.FieldType), Jvm.Cond.code ({ cls := "com/example/whirligig/whirligig/DownloadInfoIndication$Unreadable", name := "<init>", desc := "(IILjava/lang/String;)V" } : Jvm.MethodName) prog_44_method_1_code (4 : Nat) (Option.none : Option Jvm.ClassFile.FieldType), Jvm.Cond.code ({ cls := "java/lang/Record", name := "<init>", desc := "()V" } : Jvm.MethodName) jdk_30_method_1_code (1 : Nat) (Option.none : Option Jvm.ClassFile.FieldType), Jvm.Cond.code ({ cls := "com/example/whirligig/whirligig/DownloadInfoIndication$Unreadable", name := "equals", desc := "(Ljava/lang/Object;)Z" } : Jvm.MethodName) prog_44_method_2_code (3 : Nat) (Option.some Jvm.ClassFile.FieldType.boolean), Jvm.Cond.code ({ cls := "java/lang/String", name := "equals", desc := "(Ljava/lang/Object;)Z" } : Jvm.MethodName) jdk_42_method_66_code (3 : Nat) (Option.some Jvm.ClassFile.FieldType.boolean), Jvm.Cond.code ({ cls := "java/lang/StringLatin1", name := "equals", desc := "([B[B)Z" } : Jvm.MethodName) jdk_43_method_13_code (3 : Nat) (Option.some Jvm.ClassFile.FieldType.boolean), Jvm.Cond.code ({ cls := "java/lang/Integer", name := "valueOf", desc := "(I)Ljava/lang/Integer;" } : Jvm.MethodName) jdk_33_method_22_code (1 : Nat) (Option.some (Jvm.ClassFile.FieldType.object "java/lang/Integer")), Jvm.Cond.code ({ cls := "java/lang/StringUTF16", name := "compress", desc := "([CII)[B" } : Jvm.MethodName) jdk_52_method_16_code (6 : Nat) (Option.some (Jvm.ClassFile.FieldType.array Jvm.ClassFile.FieldType.byte)), Jvm.Cond.code ({ cls := "java/lang/StringUTF16", name := "compress", desc := "([CI[BII)I" } : Jvm.MethodName) jdk_52_method_21_code (7 : Nat) (Option.some Jvm.ClassFile.FieldType.int), Jvm.Cond.code ({ cls := "java/lang/StringUTF16", name := "coderFromArrayLen", desc := "([BI)B" } : Jvm.MethodName) jdk_52_method_15_code (2 : Nat) (Option.some Jvm.ClassFile.FieldType.byte), Jvm.Cond.code ({ cls := "java/lang/Integer", name := "<init>", desc := "(I)V" } : Jvm.MethodName) jdk_33_method_23_code (2 : Nat) (Option.none : Option Jvm.ClassFile.FieldType), Jvm.Cond.code ({ cls := "java/lang/Number", name := "<init>", desc := "()V" } : Jvm.MethodName) jdk_18_method_1_code (1 : Nat) (Option.none : Option Jvm.ClassFile.FieldType)]
set_option maxRecDepth 65536 in
theorem codes_eq : words1.filter isCode = codes1 := rfl
theorem w_codes : ∀ c ∈ words1.filter isCode, c.before args0 about1 = true := by
  rw [codes_eq]
  intro c hc
  simp only [codes1, List.mem_cons, List.not_mem_nil, or_false] at hc
  rcases hc with rfl | rfl | rfl | rfl | rfl | rfl | rfl | rfl | rfl | rfl | rfl | rfl | rfl | rfl | rfl | rfl
  · exact w_c0
  · exact w_c1
  · exact w_c2
  · exact w_c3
  · exact w_c4
  · exact w_c5
  · exact w_c6
  · exact w_c7
  · exact w_c8
  · exact w_c9
  · exact w_c10
  · exact w_c11
  · exact w_c12
  · exact w_c13
  · exact w_c14
  · exact w_c15
set_option maxRecDepth 65536 in
theorem w_t1 : (words1.take 24).all (fun c => isCode c || c.before args0 about1) = true := by decide +kernel
set_option maxRecDepth 65536 in
theorem w_t2 : ((words1.drop 24).take 24).all (fun c => isCode c || c.before args0 about1) = true := by decide +kernel
set_option maxRecDepth 65536 in
theorem w_t3 : (((words1.drop 24).drop 24).take 24).all (fun c => isCode c || c.before args0 about1) = true := by decide +kernel
set_option maxRecDepth 65536 in
theorem w_t4 : ((((words1.drop 24).drop 24).drop 24).take 24).all (fun c => isCode c || c.before args0 about1) = true := by decide +kernel
set_option maxRecDepth 65536 in
theorem w_t5 : ((((words1.drop 24).drop 24).drop 24).drop 24).all (fun c => isCode c || c.before args0 about1) = true := by decide +kernel
theorem w_tables : (allAtoms (Jvm.Cond.code x code maxLocals ret :: tables_1)).before args0 about1 = true := by
  rw [allAtoms_all]
  show words1.all (fun c => c.before args0 about1) = true
  refine all_split ?_ w_codes
  rw [← List.take_append_drop 24 words1, List.all_append, w_t1, ← List.take_append_drop 24 (words1.drop 24), List.all_append, w_t2, ← List.take_append_drop 24 ((words1.drop 24).drop 24), List.all_append, w_t3, ← List.take_append_drop 24 (((words1.drop 24).drop 24).drop 24), List.all_append, w_t4, w_t5]
  rfl
set_option maxRecDepth 65536 in
theorem w_rest : rest_1_c.before args0 about1 = true := by decide +kernel
set_option maxRecDepth 65536 in
theorem w_case : (Jvm.Cond.and given_1 narrow_1).before args0 about1 = true := by decide +kernel
set_option maxRecDepth 65536 in
theorem w_consts : constsHeld consts_1 about1 := Jvm.Lit.constsHeldB_iff.mp (by decide +kernel)
theorem w_applies : (headSpec (Jvm.Cond.code x code maxLocals ret :: tables_1) room_1).applies x e0.platform about1 = true :=
  (Spec.applies_iff w_frames).mpr ⟨w_running, w_runnable, w_alone, w_named, w_hears, w_ripe, w_room, w_tables⟩
theorem atStart : AtStart classFile x code maxLocals ret World_1 tables_1 room_1 Calls_1 rest_1 Pre_1 launch0 p0 e0 about1 theMethod args0 below0 :=
  ⟨lists_1, trivial, launch0.admits_env _ _ _, launch0.least_env, fairChoices_fair.cas, fairChoices_fair.clock, w_frames, w_args, w_heap, w_applies, ⟨w_consts, trivial⟩, w_rest, w_case⟩
end start1
theorem witness_1 : WitnessClaimed_1 := ⟨start1.p0, start1.e0, start1.about1, start1.theMethod, start1.args0, start1.below0, start1.atStart⟩
end Jvm.Pilot.@@N@@
