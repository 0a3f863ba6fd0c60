import JvmDerived
import JvmDerived.Pilot.@@N@@Statement
import JvmDerived.Pilot.@@N@@Code
set_option linter.unusedVariables false
set_option linter.unusedSimpArgs false
namespace Jvm.RoadKit
open Sem ClassFile Op Lib Jvm.Stand Jvm.Free Jvm.LawKit
section New
variable {p : Program} {l : Launch} {e : Env} {R : Room} {s : State} {m : MethodId} {args : Array Value} {below : List Frame} {meth : Method} {c : Code} {T : State} {locs : List Loc} {cells slots : Nat}
theorem retI (X : Stand p l e R s m args below meth c T locs cells slots) (hx : p.tables.exec = Jvm.exec) {pc : Nat} {Ls : Array Slot} {z : Int32} {rest : List Value} (hret : meth.sig.returnType = some .int) (hd : decode c.code pc = .ok (.ireturn, 1)) {fs : List Frame}
    (hl : ∀ (f : JFrame) (acts : List Action), f.method = m → f.locked = none → f.entered = [] → (doReturn e (T.setTop f) acts (some (.int z))).1 = T.setFrames fs) : Steps p.tables e below (T.setTop (mkF m pc Ls (.int z :: rest))) (T.setFrames fs) := by
  have hm' : T.vm.method? m = some meth := X.method'
  have hn : narrow .int (.int z) = .int z := rfl
  show Steps p.tables e below (T.setTop { method := m, pc := pc, locals := Ls, stack := _ :: rest, locked := none }) _
  jvm_step X.here [X.here.top, hx, hd, hm', hret, hn]
  first | (intro acts; rw [hl _ acts rfl rfl rfl]) | rw [hl _ _ rfl rfl rfl]
  exact Steps.refl _
end New
end Jvm.RoadKit
/- laws to paste: Road.backV, Road.eqW, Road.codOf (cut by pick.py; bodies as the Statement names them) -/
namespace Jvm.Pilot.@@N@@
namespace StrChars
open Jvm Sem ClassFile Op Lib Jvm.Stand Jvm.Free.XT Jvm.Free.ALB Jvm.Free.JM Jvm.Free
open Jvm.Lib.Cold (StaticIs)
/-- a char array whose places are chars -/
def Ch (a : Addr) (A : Cell) (U : State) : Prop := Arr .char a A U ∧ Typed .char A
theorem Ch.mv {a : Addr} {A : Cell} {U U' : State} (h : Ch a A U) (hal : U.vm.Alike U'.vm) (hh : U'.heap = U.heap) : Ch a A U' := ⟨h.1.mv hal hh, h.2⟩
theorem Ch.keep {a : Addr} {A : Cell} {U U' : State} (h : Ch a A U) (hal : U.vm.Alike U'.vm) (hk : U'.heap[a]? = some A) : Ch a A U' := ⟨h.1.keep hal hk, h.2⟩
/-- what place i of a char[]'s cell holds -/
def cv (A : Cell) (i : Nat) : Int32 := match A.slots[i]? with | some (.int x) => x | _ => 0
theorem Ch.get {a : Addr} {A : Cell} {U : State} (h : Ch a A U) {i : Nat} (hi : i < A.slots.size) : A.slots[i]? = some (.int (cv A i)) := by
  have e := Array.getElem?_eq_getElem hi
  have f := h.2 i _ e
  unfold cv; rw [e]
  generalize A.slots[i] = v at f
  cases v <;> simp [fits] at f ⊢
/-- the byte that i2b leaves of a char -/
def lo8 (x : Int32) : Int32 := x.toInt8.toInt32
theorem fits_lo8 (y : Int32) : fits .byte (.int (lo8 y)) = true := by
  have h1 := y.toInt8.le_toInt
  have h2 := y.toInt8.toInt_lt
  simp only [lo8, fits, Bool.and_eq_true, decide_eq_true_eq, Int32.le_iff_toInt_le, Int8.toInt_toInt32, show (-128 : Int32).toInt = -128 from by decide, show (127 : Int32).toInt = 127 from by decide]
  omega
/-- A' is A but that each place j of lo .. hi - 1 holds f j -/
def Laid (A A' : Cell) (lo hi : Nat) (f : Nat → Value) : Prop := A'.cls = A.cls ∧ A'.vm = A.vm ∧ A'.slots.size = A.slots.size ∧ ∀ i, A'.slots[i]? = if lo ≤ i ∧ i < hi then some (f i) else A.slots[i]?
theorem Laid.zero (A : Cell) (lo : Nat) (f : Nat → Value) : Laid A A lo (lo + 0) f := ⟨rfl, rfl, rfl, fun i => by rw [if_neg (by omega)]⟩
theorem Laid.step {A Ak : Cell} {lo k : Nat} {f : Nat → Value} {v : Value} (h : Laid A Ak lo k f) (hlo : lo ≤ k) (hk : k < Ak.slots.size) (hv : v = f k) : Laid A (Ak.setSlot k v) lo (k + 1) f := by
  refine ⟨h.1, h.2.1, by simpa [Cell.setSlot] using h.2.2.1, fun i => ?_⟩
  by_cases e : k = i
  · subst e; rw [Cell.slots_setSlot_self v hk, if_pos (by omega), hv]
  · rw [Cell.slots_setSlot_ne v e, h.2.2.2 i]
    by_cases q : lo ≤ i ∧ i < k
    · rw [if_pos q, if_pos (by omega)]
    · rw [if_neg q, if_neg (by omega)]
def U16 : String := "java/lang/StringUTF16"
namespace Cmp5
def yN : MethodName := ⟨"java/lang/StringUTF16", "compress", "([CI[BII)I"⟩
abbrev yB : ByteArray := jdk_52_method_21_code
theorem d0 : decode yB 0 = .ok (.iconst 0, 1) := by decide +kernel
theorem d1 : decode yB 1 = .ok (.istore 5, 2) := by decide +kernel
theorem d3 : decode yB 3 = .ok (.iload 5, 2) := by decide +kernel
theorem d5 : decode yB 5 = .ok (.iload 4, 2) := by decide +kernel
theorem d7 : decode yB 7 = .ok (.if_icmp (.ge) 37, 3) := by decide +kernel
theorem d10 : decode yB 10 = .ok (.aload_n 0, 1) := by decide +kernel
theorem d11 : decode yB 11 = .ok (.iload_n 1, 1) := by decide +kernel
theorem d12 : decode yB 12 = .ok (.caload, 1) := by decide +kernel
theorem d13 : decode yB 13 = .ok (.istore 6, 2) := by decide +kernel
theorem d15 : decode yB 15 = .ok (.iload 6, 2) := by decide +kernel
theorem d17 : decode yB 17 = .ok (.sipush 255, 3) := by decide +kernel
theorem d20 : decode yB 20 = .ok (.if_icmp (.le) 6, 3) := by decide +kernel
theorem d26 : decode yB 26 = .ok (.aload_n 2, 1) := by decide +kernel
theorem d27 : decode yB 27 = .ok (.iload_n 3, 1) := by decide +kernel
theorem d28 : decode yB 28 = .ok (.iload 6, 2) := by decide +kernel
theorem d30 : decode yB 30 = .ok (.i2b, 1) := by decide +kernel
theorem d31 : decode yB 31 = .ok (.bastore, 1) := by decide +kernel
theorem d32 : decode yB 32 = .ok (.iinc 1 1, 3) := by decide +kernel
theorem d35 : decode yB 35 = .ok (.iinc 3 1, 3) := by decide +kernel
theorem d38 : decode yB 38 = .ok (.iinc 5 1, 3) := by decide +kernel
theorem d41 : decode yB 41 = .ok (.goto (-38), 3) := by decide +kernel
theorem d44 : decode yB 44 = .ok (.iload 4, 2) := by decide +kernel
theorem d46 : decode yB 46 = .ok (.ireturn, 1) := by decide +kernel
def site : List Cond := []
def tab : Cond := tabOf yN yB 7 (some .int) site
def P (b : Addr) (A : Cell) (d : Addr) (B : Cell) (o q len : Nat) (args : Array Value) (s : State) : Prop := args = #[.ref b, .int (Int32.ofNat o), .ref d, .int (Int32.ofNat q), .int (Int32.ofNat len)] ∧ Ch b A s ∧ Arr .byte d B s ∧ b ≠ d ∧ o + len ≤ A.slots.size ∧ q + len ≤ B.slots.size ∧ ∀ i, i < len → ¬ 255 < cv A (o + i)
def E (b : Addr) (A : Cell) (d : Addr) (B : Cell) (o q len : Nat) (r : Option Value) (s u : State) : Prop := r = some (.int (Int32.ofNat len)) ∧ ∃ B', Put d B' s u ∧ Laid B B' q (q + len) (fun j => Value.int (lo8 (cv A (o + (j - q)))))
/-- no char of the range above 255: len; the places written hold each char's low byte -/
theorem law (l : Launch) (b : Addr) (A : Cell) (d : Addr) (B : Cell) (o q len : Nat) : Law l yN 5 5 0 0 yB 7 (some .int) site (P b A d B o q len) (E b A d B o q len) (copyLocs d q len) 0 0 := by
  refine Law.of_walk (plainFor_of_name (by decide +kernel)) (by decide +kernel) (by decide +kernel) (by decide) (fun _ _ h => by rw [h.1]; rfl) (fun _ U U' hal hh h => ⟨h.1, h.2.1.mv hal hh, h.2.2.1.mv hal hh, h.2.2.2⟩) (fun r U U' V V' h1 hal h2 h => ⟨h.1, h.2.elim fun B' q => ⟨B', q.1.mv h1 h2, q.2⟩⟩) ?_
  intro p e s m args below meth c s₁ X0 hexec hbytes hml hret hlk hnm hown hh0 W hP
  obtain ⟨rfl, hA, hB, hne, l1, l2, hp⟩ := hP
  have c1 : Steps p.tables e below (s₁.setTop (entryFrame m #[.ref b, .int (Int32.ofNat o), .ref d, .int (Int32.ofNat q), .int (Int32.ofNat len)] 7)) (s₁.setTop (mkF m 0 #[.val (.ref b), .val (.int (Int32.ofNat o)), .val (.ref d), .val (.int (Int32.ofNat q)), .val (.int (Int32.ofNat len)), .unset, .unset] [])) := entry rfl
  have hA0 := hA.1.mv X0.warmed.alike hh0
  have hB0 := hB.mv X0.warmed.alike hh0
  have a31 := hA.1.2.2.2
  have c2 : Steps p.tables e below (s₁.setTop (entryFrame m #[.ref b, .int (Int32.ofNat o), .ref d, .int (Int32.ofNat q), .int (Int32.ofNat len)] 7)) (s₁.setTop (mkF m 3 #[.val (.ref b), .val (.int (Int32.ofNat o)), .val (.ref d), .val (.int (Int32.ofNat q)), .val (.int (Int32.ofNat len)), .val (.int 0), .unset] [])) := c1.trans (by
    refine iconstV X0.here hexec rfl 0 (hb hbytes d0) (by decide) ?_
    refine XS.istore X0.here hexec rfl (hb hbytes d1) rfl rfl ?_
    exact Steps.refl _)
  have loop : ∀ (r i : Nat), i + r = len → ∀ (z : Slot), (z = .unset ∨ ∃ w, z = .val w ∧ w.category = 1) → ∀ (Tl : State) (Bk : Cell), Stand p l e { frames := 0, locals := 0, cells := 0, slots := 0 } s m #[.ref b, .int (Int32.ofNat o), .ref d, .int (Int32.ofNat q), .int (Int32.ofNat len)] below meth c Tl ([] ++ copyLocs d q i) 0 0 → Put d Bk s₁ Tl → Laid B Bk q (q + i) (fun j => Value.int (lo8 (cv A (o + (j - q))))) →
      Steps p.tables e below (s₁.setTop (entryFrame m #[.ref b, .int (Int32.ofNat o), .ref d, .int (Int32.ofNat q), .int (Int32.ofNat len)] 7)) (Tl.setTop (mkF m 3 #[.val (.ref b), .val (.int (Int32.ofNat (o + i))), .val (.ref d), .val (.int (Int32.ofNat (q + i))), .val (.int (Int32.ofNat len)), .val (.int (Int32.ofNat i)), z] [])) → ∃ (T' : State) (B' : Cell) (z' : Slot), Stand p l e { frames := 0, locals := 0, cells := 0, slots := 0 } s m #[.ref b, .int (Int32.ofNat o), .ref d, .int (Int32.ofNat q), .int (Int32.ofNat len)] below meth c T' ([] ++ copyLocs d q len) 0 0 ∧ Put d B' s₁ T' ∧ Laid B B' q (q + len) (fun j => Value.int (lo8 (cv A (o + (j - q))))) ∧
      Steps p.tables e below (s₁.setTop (entryFrame m #[.ref b, .int (Int32.ofNat o), .ref d, .int (Int32.ofNat q), .int (Int32.ofNat len)] 7)) (T'.setTop (mkF m 3 #[.val (.ref b), .val (.int (Int32.ofNat (o + len))), .val (.ref d), .val (.int (Int32.ofNat (q + len))), .val (.int (Int32.ofNat len)), .val (.int (Int32.ofNat len)), z'] [])) := by
    intro r
    induction r with
    | zero =>
      intro i hi z hz Tl Bk Xl pl fl cl
      have hil : i = len := by omega
      rw [hil] at Xl fl cl
      exact ⟨Tl, Bk, z, Xl, pl, fl, cl⟩
    | succ r ih =>
      intro i hi z hz Tl Bk Xl pl fl cl
      have all := X0.warmed.alike.symm.trans Xl.warmed.alike
      have hAl := hA0.keep all (pl.other hne hA0.1)
      have hBk := hB0.like all pl.1 fl.1 fl.2.1 fl.2.2.1
      have hlt : q + i < Bk.slots.size := by rw [fl.2.2.1]; omega
      have c3 : Steps p.tables e below (s₁.setTop (entryFrame m #[.ref b, .int (Int32.ofNat o), .ref d, .int (Int32.ofNat q), .int (Int32.ofNat len)] 7)) (Tl.setTop (mkF m 12 #[.val (.ref b), .val (.int (Int32.ofNat (o + i))), .val (.ref d), .val (.int (Int32.ofNat (q + i))), .val (.int (Int32.ofNat len)), .val (.int (Int32.ofNat i)), z] [.int (Int32.ofNat (o + i)), .ref b])) := cl.trans (by
        refine XS.iload Xl.here hexec rfl (hb hbytes d3) rfl ?_
        refine XS.iload Xl.here hexec rfl (hb hbytes d5) rfl ?_
        refine XS.icmpNo Xl.here hexec rfl (hb hbytes d7) rfl (ii_ge_f (lt32 (by omega) (by omega))) ?_
        refine XS.aloadN Xl.here hexec rfl (hb hbytes d10) rfl rfl ?_
        refine XS.iloadN Xl.here hexec rfl (hb hbytes d11) rfl ?_
        exact Steps.refl _)
      have c4 : Steps p.tables e below (s₁.setTop (entryFrame m #[.ref b, .int (Int32.ofNat o), .ref d, .int (Int32.ofNat q), .int (Int32.ofNat len)] 7)) (Tl.setTop (mkF m 13 #[.val (.ref b), .val (.int (Int32.ofNat (o + i))), .val (.ref d), .val (.int (Int32.ofNat (q + i))), .val (.int (Int32.ofNat len)), .val (.int (Int32.ofNat i)), z] [.int (cv A (o + i))])) := c3.trans (by
        refine Xl.aget hexec hAl rfl (hA.get (i := o + i) (by omega)) rfl rfl (hb hbytes d12) ?_
        exact Steps.refl _)
      have c5 : Steps p.tables e below (s₁.setTop (entryFrame m #[.ref b, .int (Int32.ofNat o), .ref d, .int (Int32.ofNat q), .int (Int32.ofNat len)] 7)) (Tl.setTop (mkF m 15 #[.val (.ref b), .val (.int (Int32.ofNat (o + i))), .val (.ref d), .val (.int (Int32.ofNat (q + i))), .val (.int (Int32.ofNat len)), .val (.int (Int32.ofNat i)), .val (.int (cv A (o + i)))] [])) := c4.trans (by
        refine XS.istoreS Xl.here hexec rfl (hb hbytes d13) rfl rfl hz ?_
        exact Steps.refl _)
      have c6 : Steps p.tables e below (s₁.setTop (entryFrame m #[.ref b, .int (Int32.ofNat o), .ref d, .int (Int32.ofNat q), .int (Int32.ofNat len)] 7)) (Tl.setTop (mkF m 31 #[.val (.ref b), .val (.int (Int32.ofNat (o + i))), .val (.ref d), .val (.int (Int32.ofNat (q + i))), .val (.int (Int32.ofNat len)), .val (.int (Int32.ofNat i)), .val (.int (cv A (o + i)))] [.int (lo8 (cv A (o + i))), .int (Int32.ofNat (q + i)), .ref d])) := c5.trans (by
        refine XS.iload Xl.here hexec rfl (hb hbytes d15) rfl ?_
        refine sipushV Xl.here hexec rfl 255 (hb hbytes d17) (by decide) ?_
        refine XS.icmpYes Xl.here hexec rfl (pc0 := 20) rfl (hb hbytes d20) rfl (ii_le_t (hp i (by omega))) (by decide) rfl ?_
        refine XS.aloadN Xl.here hexec rfl (hb hbytes d26) rfl rfl ?_
        refine XS.iloadN Xl.here hexec rfl (hb hbytes d27) rfl ?_
        refine XS.iload Xl.here hexec rfl (hb hbytes d28) rfl ?_
        refine i2b Xl.here hexec rfl (hb hbytes d30) rfl ?_
        exact Steps.refl _)
      obtain ⟨T7, X7, p7, st7⟩ := Xl.aput hexec hBk rfl hlt rfl (fits_lo8 (cv A (o + i))) (g := (mkF m 31 #[.val (.ref b), .val (.int (Int32.ofNat (o + i))), .val (.ref d), .val (.int (Int32.ofNat (q + i))), .val (.int (Int32.ofNat len)), .val (.int (Int32.ofNat i)), .val (.int (cv A (o + i)))] [.int (lo8 (cv A (o + i))), .int (Int32.ofNat (q + i)), .ref d])) rfl (rest := []) rfl (hb hbytes d31)
      have c8 : Steps p.tables e below (s₁.setTop (entryFrame m #[.ref b, .int (Int32.ofNat o), .ref d, .int (Int32.ofNat q), .int (Int32.ofNat len)] 7)) (T7.setTop (mkF m 32 #[.val (.ref b), .val (.int (Int32.ofNat (o + i))), .val (.ref d), .val (.int (Int32.ofNat (q + i))), .val (.int (Int32.ofNat len)), .val (.int (Int32.ofNat i)), .val (.int (cv A (o + i)))] [])) := c6.trans (st7 _ (Steps.refl _))
      have c9 : Steps p.tables e below (s₁.setTop (entryFrame m #[.ref b, .int (Int32.ofNat o), .ref d, .int (Int32.ofNat q), .int (Int32.ofNat len)] 7)) (T7.setTop (mkF m 3 #[.val (.ref b), .val (.int (Int32.ofNat (o + i) + 1)), .val (.ref d), .val (.int (Int32.ofNat (q + i) + 1)), .val (.int (Int32.ofNat len)), .val (.int (Int32.ofNat i + 1)), .val (.int (cv A (o + i)))] [])) := c8.trans (by
        refine iincV X7.here hexec rfl 1 (hb hbytes d32) (by decide) rfl rfl ?_
        refine iincV X7.here hexec rfl 1 (hb hbytes d35) (by decide) rfl rfl ?_
        refine iincV X7.here hexec rfl 1 (hb hbytes d38) (by decide) rfl rfl ?_
        refine XS.goto X7.here hexec rfl (pc0 := 41) rfl (hb hbytes d41) (by decide) rfl ?_
        exact Steps.refl _)
      have c10 : Steps p.tables e below (s₁.setTop (entryFrame m #[.ref b, .int (Int32.ofNat o), .ref d, .int (Int32.ofNat q), .int (Int32.ofNat len)] 7)) (T7.setTop (mkF m 3 #[.val (.ref b), .val (.int (Int32.ofNat (o + (i + 1)))), .val (.ref d), .val (.int (Int32.ofNat (q + (i + 1)))), .val (.int (Int32.ofNat len)), .val (.int (Int32.ofNat (i + 1))), .val (.int (cv A (o + i)))] [])) := by
        have := c9
        rw [succ32, succ32, succ32] at this
        exact this
      exact ih (i + 1) (by omega) _ (Or.inr ⟨_, rfl, rfl⟩) T7 _ (by rw [copyLocs_step, ← List.append_assoc]; exact X7) (pl.trans p7) (fl.step (by omega) hlt (by simp)) c10
  obtain ⟨T9, B9, z9, X9, p9, f9, g9⟩ := loop len 0 (by omega) .unset (Or.inl rfl) s₁ B (by simpa [copyLocs] using X0) ⟨hB0.1, fun _ _ => rfl, rfl⟩ (Laid.zero _ _ _) c2
  have c11 : Steps p.tables e below (s₁.setTop (entryFrame m #[.ref b, .int (Int32.ofNat o), .ref d, .int (Int32.ofNat q), .int (Int32.ofNat len)] 7)) (T9.setTop (mkF m 46 #[.val (.ref b), .val (.int (Int32.ofNat (o + len))), .val (.ref d), .val (.int (Int32.ofNat (q + len))), .val (.int (Int32.ofNat len)), .val (.int (Int32.ofNat len)), z9] [.int (Int32.ofNat len)])) := g9.trans (by
    refine XS.iload X9.here hexec rfl (hb hbytes d3) rfl ?_
    refine XS.iload X9.here hexec rfl (hb hbytes d5) rfl ?_
    refine XS.icmpYes X9.here hexec rfl (pc0 := 7) rfl (hb hbytes d7) rfl (ii_ge_t (nlt32 (by omega) (Nat.le_refl _))) (by decide) rfl ?_
    refine XS.iload X9.here hexec rfl (hb hbytes d44) rfl ?_
    exact Steps.refl _)
  exact ⟨T9, some (.int (Int32.ofNat len)), _, _, _, X9, by simp, rfl, rfl, (fun h => by cases h), ⟨rfl, B9, p9.from hh0, f9⟩, fun fs hl => c11.trans (X9.ireturnOut hexec hret rfl (Or.inl rfl) (hb hbytes d46) hl)⟩
end Cmp5
namespace Cmp3
def yN : MethodName := ⟨"java/lang/StringUTF16", "compress", "([CII)[B"⟩
abbrev yB : ByteArray := jdk_52_method_16_code
theorem d0 : decode yB 0 = .ok (.iload_n 2, 1) := by decide +kernel
theorem d1 : decode yB 1 = .ok (.newarray .byte, 2) := by decide +kernel
theorem d3 : decode yB 3 = .ok (.astore_n 3, 1) := by decide +kernel
theorem d4 : decode yB 4 = .ok (.aload_n 0, 1) := by decide +kernel
theorem d5 : decode yB 5 = .ok (.iload_n 1, 1) := by decide +kernel
theorem d6 : decode yB 6 = .ok (.aload_n 3, 1) := by decide +kernel
theorem d7 : decode yB 7 = .ok (.iconst 0, 1) := by decide +kernel
theorem d8 : decode yB 8 = .ok (.iload_n 2, 1) := by decide +kernel
theorem d9 : decode yB 9 = .ok (.invokestatic 115, 3) := by decide +kernel
theorem d12 : decode yB 12 = .ok (.istore 4, 2) := by decide +kernel
theorem d14 : decode yB 14 = .ok (.iload 4, 2) := by decide +kernel
theorem d16 : decode yB 16 = .ok (.iload_n 2, 1) := by decide +kernel
theorem d17 : decode yB 17 = .ok (.if_icmp (.eq) 40, 3) := by decide +kernel
theorem d57 : decode yB 57 = .ok (.aload_n 3, 1) := by decide +kernel
theorem d58 : decode yB 58 = .ok (.areturn, 1) := by decide +kernel
def site : List Cond := [.arrayClass .byte, Cmp5.tab] ++ staticW U16 115 Cmp5.yN
def tab : Cond := tabOf yN yB 6 (some (.array .byte)) site
def P (b : Addr) (A : Cell) (o len : Nat) (args : Array Value) (s : State) : Prop := args = #[.ref b, .int (Int32.ofNat o), .int (Int32.ofNat len)] ∧ Ch b A s ∧ o + len ≤ A.slots.size ∧ len ≤ 536870912 ∧ ∀ i, i < len → ¬ 255 < cv A (o + i)
def E (b : Addr) (A : Cell) (o len : Nat) (r : Option Value) (s u : State) : Prop := NewArr .byte "[B" len (fun j => .int (lo8 (cv A (o + j)))) r s u ∧ u.heap.size = s.heap.size + 1
/-- no char of the range above 255: a new byte[] of their low bytes -/
theorem law (l : Launch) (b : Addr) (A : Cell) (o len : Nat) : Law l yN 3 3 1 18 yB 6 (some (.array .byte)) site (P b A o len) (E b A o len) [] 1 len := by
  refine Law.of_walk (plainFor_of_name (by decide +kernel)) (by decide +kernel) (by decide +kernel) (by decide) (fun _ _ h => by rw [h.1]; rfl) (fun _ U U' hal hh h => ⟨h.1, h.2.1.mv hal hh, h.2.2⟩) (fun r U U' V V' h1 hal h2 h => ⟨NewArr.mv r U U' V V' h1 hal h2 h.1, by rw [h1, h2]; exact h.2⟩) ?_
  intro p e s m args below meth c s₁ X0 hexec hbytes hml hret hlk hnm hown hh0 W hP
  obtain ⟨rfl, hA, l1, l2, hp⟩ := hP
  have a31 := hA.1.2.2.2
  have c1 : Steps p.tables e below (s₁.setTop (entryFrame m #[.ref b, .int (Int32.ofNat o), .int (Int32.ofNat len)] 6)) (s₁.setTop (mkF m 0 #[.val (.ref b), .val (.int (Int32.ofNat o)), .val (.int (Int32.ofNat len)), .unset, .unset, .unset] [])) := entry rfl
  have c2 : Steps p.tables e below (s₁.setTop (entryFrame m #[.ref b, .int (Int32.ofNat o), .int (Int32.ofNat len)] 6)) (s₁.setTop (mkF m 1 #[.val (.ref b), .val (.int (Int32.ofNat o)), .val (.int (Int32.ofNat len)), .unset, .unset, .unset] [.int (Int32.ofNat len)])) := c1.trans (by
    refine XS.iloadN X0.here hexec rfl (hb hbytes d0) rfl ?_
    exact Steps.refl _)
  obtain ⟨T3, B3, X3, ba3, bs3, bv3, bh3, bf3, st3⟩ := X0.anew hexec (atype := .byte) (wk W (.arrayClass .byte)) rfl (by show len * 1 ≤ _; omega) (by omega) (g := (mkF m 1 #[.val (.ref b), .val (.int (Int32.ofNat o)), .val (.int (Int32.ofNat len)), .unset, .unset, .unset] [.int (Int32.ofNat len)])) rfl (hb hbytes d1) (rest := []) rfl (Nat.le_refl _) (by show 0 + len ≤ len; omega)
  rw [hh0] at ba3 st3
  have kp3 : XT.Kept s T3 := (XT.Kept.of_eq hh0).push bh3
  have hA3 := hA.keep X3.warmed.alike (kp3 _ _ hA.1.1)
  have hne : b ≠ s.heap.size := hA.1.ne
  have c4 : Steps p.tables e below (s₁.setTop (entryFrame m #[.ref b, .int (Int32.ofNat o), .int (Int32.ofNat len)] 6)) (T3.setTop (mkF m 3 #[.val (.ref b), .val (.int (Int32.ofNat o)), .val (.int (Int32.ofNat len)), .unset, .unset, .unset] [.ref s.heap.size])) := c2.trans (st3 _ (Steps.refl _))
  have c5 : Steps p.tables e below (s₁.setTop (entryFrame m #[.ref b, .int (Int32.ofNat o), .int (Int32.ofNat len)] 6)) (T3.setTop (mkF m 9 #[.val (.ref b), .val (.int (Int32.ofNat o)), .val (.int (Int32.ofNat len)), .val (.ref s.heap.size), .unset, .unset] [.int (Int32.ofNat len), .int 0, .ref s.heap.size, .int (Int32.ofNat o), .ref b])) := c4.trans (by
    refine XS.astoreN X3.here hexec rfl (hb hbytes d3) rfl rfl rfl ?_
    refine XS.aloadN X3.here hexec rfl (hb hbytes d4) rfl rfl ?_
    refine XS.iloadN X3.here hexec rfl (hb hbytes d5) rfl ?_
    refine XS.aloadN X3.here hexec rfl (hb hbytes d6) rfl rfl ?_
    refine iconstV X3.here hexec rfl 0 (hb hbytes d7) (by decide) ?_
    refine XS.iloadN X3.here hexec rfl (hb hbytes d8) rfl ?_
    exact Steps.refl _)
  obtain ⟨v6, T6, X6, E6, g6⟩ := X3.callS hexec (Cmp5.law l b A s.heap.size B3 o 0 len) hown (wks W (staticW U16 115 Cmp5.yN)) (wk W Cmp5.tab) (W := 0) (Nat.le_of_ble_eq_true rfl) (Nat.le_of_ble_eq_true rfl) (Nat.le_refl _) (by show 0 + len + 0 ≤ len; omega) (g := (mkF m 9 #[.val (.ref b), .val (.int (Int32.ofNat o)), .val (.int (Int32.ofNat len)), .val (.ref s.heap.size), .unset, .unset] [.int (Int32.ofNat len), .int (Int32.ofNat 0), .ref s.heap.size, .int (Int32.ofNat o), .ref b])) rfl (by rw [hml]; rfl) c5 (argsL := [.ref b, .int (Int32.ofNat o), .ref s.heap.size, .int (Int32.ofNat 0), .int (Int32.ofNat len)]) (rest := []) rfl rfl (by show 2 * 0 + 0 ≤ _; decide) (hb hbytes d9) (⟨rfl, hA3, ba3, hne, l1, by rw [bs3]; simp, hp⟩)
  obtain ⟨rfl, B6, p6, f6⟩ := E6
  have c7 : Steps p.tables e below (s₁.setTop (entryFrame m #[.ref b, .int (Int32.ofNat o), .int (Int32.ofNat len)] 6)) (T6.setTop (mkF m 12 #[.val (.ref b), .val (.int (Int32.ofNat o)), .val (.int (Int32.ofNat len)), .val (.ref s.heap.size), .unset, .unset] [.int (Int32.ofNat len)])) := g6
  have c8 : Steps p.tables e below (s₁.setTop (entryFrame m #[.ref b, .int (Int32.ofNat o), .int (Int32.ofNat len)] 6)) (T6.setTop (mkF m 58 #[.val (.ref b), .val (.int (Int32.ofNat o)), .val (.int (Int32.ofNat len)), .val (.ref s.heap.size), .val (.int (Int32.ofNat len)), .unset] [.ref s.heap.size])) := c7.trans (by
    refine XS.istore X6.here hexec rfl (hb hbytes d12) rfl rfl ?_
    refine XS.iload X6.here hexec rfl (hb hbytes d14) rfl ?_
    refine XS.iloadN X6.here hexec rfl (hb hbytes d16) rfl ?_
    refine XS.icmpYes X6.here hexec rfl (pc0 := 17) rfl (hb hbytes d17) rfl (ii_eq_t rfl) (by decide) rfl ?_
    refine XS.aloadN X6.here hexec rfl (hb hbytes d57) rfl rfl ?_
    exact Steps.refl _)
  have X8 := X6.wide (L' := []) (cells' := 1) (slots' := len) (fun x hx hlt => by
    simp only [List.nil_append, copyLocs, List.mem_map, List.mem_range] at hx
    obtain ⟨i, -, rfl⟩ := hx
    exact absurd hlt (Nat.lt_irrefl _)) (Nat.le_refl _) (by omega)
  exact ⟨T6, some (.ref s.heap.size), _, _, _, X8, rfl, rfl, rfl, (fun h => by cases h), ⟨⟨rfl, B6, ba3.like (X3.warmed.alike.symm.trans X6.warmed.alike) p6.1 f6.1 f6.2.1 f6.2.2.1, f6.2.1.trans bv3, by rw [X6.warmed.alike.findClass, f6.1]; exact bf3, by rw [f6.2.2.1, bs3]; simp, fun j hj => by rw [f6.2.2.2 j, if_pos (by omega)]; rfl, kp3.put p6 (Nat.le_refl _)⟩, by rw [p6.2.2, bh3, hh0]; simp⟩, fun fs hl => c8.trans (X8.areturnOut hexec rfl hret rfl (hb hbytes d58) hl)⟩
end Cmp3
namespace CodL
def yN : MethodName := ⟨"java/lang/StringUTF16", "coderFromArrayLen", "([BI)B"⟩
abbrev yB : ByteArray := jdk_52_method_15_code
theorem d0 : decode yB 0 = .ok (.iload_n 1, 1) := by decide +kernel
theorem d1 : decode yB 1 = .ok (.aload_n 0, 1) := by decide +kernel
theorem d2 : decode yB 2 = .ok (.arraylength, 1) := by decide +kernel
theorem d3 : decode yB 3 = .ok (.isub, 1) := by decide +kernel
theorem d4 : decode yB 4 = .ok (.bipush 31, 2) := by decide +kernel
theorem d6 : decode yB 6 = .ok (.iushr, 1) := by decide +kernel
theorem d7 : decode yB 7 = .ok (.i2b, 1) := by decide +kernel
theorem d8 : decode yB 8 = .ok (.ireturn, 1) := by decide +kernel
def site : List Cond := []
def tab : Cond := tabOf yN yB 2 (some .byte) site
def P (d : Addr) (B : Cell) (args : Array Value) (s : State) : Prop := args = #[.ref d, .int (Int32.ofNat B.slots.size)] ∧ Arr .byte d B s
def E (r : Option Value) (s u : State) : Prop := XT.PureE (some (.int 0)) r s u
/-- an array as long as the number of chars: LATIN1 -/
theorem law (l : Launch) (d : Addr) (B : Cell) : Law l yN 2 2 0 0 yB 2 (some .byte) site (P d B) E [] 0 0 := by
  refine Law.of_walk (plainFor_of_name (by decide +kernel)) (by decide +kernel) (by decide +kernel) (by decide) (fun _ _ h => by rw [h.1]; rfl) (fun _ U U' hal hh h => ⟨h.1, h.2.mv hal hh⟩) (fun r U U' V V' h1 hal h2 h => XT.PureE.mv r U U' V V' h1 hal h2 h) ?_
  intro p e s m args below meth c s₁ X0 hexec hbytes hml hret hlk hnm hown hh0 W hP
  obtain ⟨rfl, hB⟩ := hP
  have hB0 := hB.mv X0.warmed.alike hh0
  have c1 : Steps p.tables e below (s₁.setTop (entryFrame m #[.ref d, .int (Int32.ofNat B.slots.size)] 2)) (s₁.setTop (mkF m 0 #[.val (.ref d), .val (.int (Int32.ofNat B.slots.size))] [])) := entry rfl
  have c2 : Steps p.tables e below (s₁.setTop (entryFrame m #[.ref d, .int (Int32.ofNat B.slots.size)] 2)) (s₁.setTop (mkF m 2 #[.val (.ref d), .val (.int (Int32.ofNat B.slots.size))] [.ref d, .int (Int32.ofNat B.slots.size)])) := c1.trans (by
    refine XS.iloadN X0.here hexec rfl (hb hbytes d0) rfl ?_
    refine XS.aloadN X0.here hexec rfl (hb hbytes d1) rfl rfl ?_
    exact Steps.refl _)
  have c3 : Steps p.tables e below (s₁.setTop (entryFrame m #[.ref d, .int (Int32.ofNat B.slots.size)] 2)) (s₁.setTop (mkF m 8 #[.val (.ref d), .val (.int (Int32.ofNat B.slots.size))] [.int (lo8 (ushr (Int32.ofNat B.slots.size - Int32.ofNat B.slots.size) 31))])) := c2.trans (by
    refine X0.alen hexec hB0 rfl rfl (hb hbytes d2) ?_
    refine XS.isub X0.here hexec rfl (hb hbytes d3) rfl ?_
    refine bipushV X0.here hexec rfl 31 (hb hbytes d4) (by decide) ?_
    refine iushr X0.here hexec rfl (hb hbytes d6) rfl ?_
    refine i2b X0.here hexec rfl (hb hbytes d7) rfl ?_
    exact Steps.refl _)
  have e0 : lo8 (ushr (Int32.ofNat B.slots.size - Int32.ofNat B.slots.size) 31) = 0 := by rw [Int32.sub_self]; decide
  rw [e0] at c3
  exact ⟨s₁, some (.int 0), _, _, _, X0, rfl, rfl, rfl, (fun h => by cases h), ⟨rfl, hh0⟩, fun fs hl => c3.trans (X0.ireturnOut hexec hret rfl (Or.inr (Or.inr (Or.inl rfl))) (hb hbytes d8) hl)⟩
end CodL
/-- the String at a is Latin-1 over a new byte[] (the heap's one new cell): the low bytes of the len chars of A from o on; every cell but a is kept -/
def Got (a : Addr) (D : Cell) (fV fC : Field) (A : Cell) (o len : Nat) (r : Option Value) (s u : State) : Prop := r = none ∧ ∃ D' V : Cell, Blank "java/lang/String" a D' u ∧ Same D D' [fV.slot, fC.slot] ∧ D'.slots[fV.slot]? = some (.ref s.heap.size) ∧ D'.slots[fC.slot]? = some (.int 0) ∧ Arr .byte s.heap.size V u ∧ V.vm = .none ∧ u.vm.findClass "[B" = some V.cls ∧ V.slots.size = len ∧ (∀ j, j < len → V.slots[j]? = some (.int (lo8 (cv A (o + j))))) ∧ (∀ (y : Addr) (c : Cell), y ≠ a → s.heap[y]? = some c → u.heap[y]? = some c) ∧ u.heap.size = s.heap.size + 1
theorem Got.mv {a : Addr} {D A : Cell} {fV fC : Field} {o len : Nat} : ∀ r (U U' V V' : State), U'.heap = U.heap → V.vm.Alike V'.vm → V'.heap = V.heap → Got a D fV fC A o len r U V → Got a D fV fC A o len r U' V' :=
  fun r U U' V V' h1 hal h2 ⟨e0, D', X, a1, a2, a3, a4, a5, a6, a7, a8, a9, a10, a11⟩ => ⟨e0, D', X, a1.mv hal h2, a2, by rw [h1]; exact a3, a4, by rw [h1]; exact a5.mv hal h2, a6, by rw [hal.findClass]; exact a7, a8, a9, by rw [h1, h2]; exact a10, by rw [h1, h2]; exact a11⟩
namespace New4
def yN : MethodName := ⟨"java/lang/String", "<init>", "([CIILjava/lang/Void;)V"⟩
abbrev yB : ByteArray := jdk_42_method_149_code
theorem d0 : decode yB 0 = .ok (.aload_n 0, 1) := by decide +kernel
theorem d1 : decode yB 1 = .ok (.invokespecial 1, 3) := by decide +kernel
theorem d4 : decode yB 4 = .ok (.iload_n 3, 1) := by decide +kernel
theorem d5 : decode yB 5 = .ok (.ifCond (.ne) 22, 3) := by decide +kernel
theorem d27 : decode yB 27 = .ok (.getstatic 38, 3) := by decide +kernel
theorem d30 : decode yB 30 = .ok (.ifCond (.eq) 28, 3) := by decide +kernel
theorem d33 : decode yB 33 = .ok (.aload_n 1, 1) := by decide +kernel
theorem d34 : decode yB 34 = .ok (.iload_n 2, 1) := by decide +kernel
theorem d35 : decode yB 35 = .ok (.iload_n 3, 1) := by decide +kernel
theorem d36 : decode yB 36 = .ok (.invokestatic 177, 3) := by decide +kernel
theorem d39 : decode yB 39 = .ok (.astore 5, 2) := by decide +kernel
theorem d41 : decode yB 41 = .ok (.aload_n 0, 1) := by decide +kernel
theorem d42 : decode yB 42 = .ok (.aload 5, 2) := by decide +kernel
theorem d44 : decode yB 44 = .ok (.iload_n 3, 1) := by decide +kernel
theorem d45 : decode yB 45 = .ok (.invokestatic 47, 3) := by decide +kernel
theorem d48 : decode yB 48 = .ok (.putfield 15, 3) := by decide +kernel
theorem d51 : decode yB 51 = .ok (.aload_n 0, 1) := by decide +kernel
theorem d52 : decode yB 52 = .ok (.aload 5, 2) := by decide +kernel
theorem d54 : decode yB 54 = .ok (.putfield 9, 3) := by decide +kernel
theorem d57 : decode yB 57 = .ok (.return_, 1) := by decide +kernel
def site : List Cond := [.fieldLink "java/lang/String" 38 "java/lang/String" "COMPACT_STRINGS" "Z", Cmp3.tab, CodL.tab, .laysFinal "java/lang/String" "java/lang/String" "value" "[B", .fieldLink "java/lang/String" 9 "java/lang/String" "value" "[B", .laysFinal "java/lang/String" "java/lang/String" "coder" "B", .fieldLink "java/lang/String" 15 "java/lang/String" "coder" "B"] ++ objW "java/lang/String" 1 ++ staticW "java/lang/String" 177 Cmp3.yN ++ staticW "java/lang/String" 47 CodL.yN
def tab : Cond := tabOf yN yB 6 none site
def P (a : Addr) (D : Cell) (fV fC : Field) (b : Addr) (A : Cell) (z : Int32) (o len : Nat) (args : Array Value) (s : State) : Prop := args = #[.ref a, .ref b, .int (Int32.ofNat o), .int (Int32.ofNat len), .null] ∧ Blank "java/lang/String" a D s ∧ Found "java/lang/String" "value" "[B" fV s ∧ Found "java/lang/String" "coder" "B" fC s ∧ Ch b A s ∧ StaticIs s "java/lang/String" "COMPACT_STRINGS" "Z" (.int z) ∧ ¬ z = 0 ∧ 0 < len ∧ o + len ≤ A.slots.size ∧ len ≤ 536870912 ∧ ∀ i, i < len → ¬ 255 < cv A (o + i)
def E (a : Addr) (D : Cell) (fV fC : Field) (A : Cell) (o len : Nat) (r : Option Value) (s u : State) : Prop := Got a D fV fC A o len r s u
/-- len > 0, no char of the range above 255: a Latin-1 String of their low bytes -/
theorem law (l : Launch) (a : Addr) (D : Cell) (fV fC : Field) (b : Addr) (A : Cell) (z : Int32) (o len : Nat) : Law l yN 5 4 2 35 yB 6 none site (P a D fV fC b A z o len) (E a D fV fC A o len) [⟨a, fC.slot⟩, ⟨a, fV.slot⟩] 1 len := by
  refine Law.of_walk (plainFor_of_name (by decide +kernel)) (by decide +kernel) (by decide +kernel) (by decide) (fun _ _ h => by rw [h.1]; rfl) (fun _ U U' hal hh h => ⟨h.1, h.2.1.mv hal hh, h.2.2.1.al hal, h.2.2.2.1.al hal, h.2.2.2.2.1.mv hal hh, h.2.2.2.2.2.1.there hal hh, h.2.2.2.2.2.2⟩) (fun r U U' V V' h1 hal h2 h => Got.mv r U U' V V' h1 hal h2 h) ?_
  intro p e s m args below meth c s₁ X0 hexec hbytes hml hret hlk hnm hown hh0 W hP
  obtain ⟨rfl, hB, f1, f2, hA, s1, hz, l0, l1, l2, hp⟩ := hP
  have a31 := hA.1.2.2.2
  have c1 : Steps p.tables e below (s₁.setTop (entryFrame m #[.ref a, .ref b, .int (Int32.ofNat o), .int (Int32.ofNat len), .null] 6)) (s₁.setTop (mkF m 0 #[.val (.ref a), .val (.ref b), .val (.int (Int32.ofNat o)), .val (.int (Int32.ofNat len)), .val .null, .unset] [])) := entry rfl
  have c2 : Steps p.tables e below (s₁.setTop (entryFrame m #[.ref a, .ref b, .int (Int32.ofNat o), .int (Int32.ofNat len), .null] 6)) (s₁.setTop (mkF m 1 #[.val (.ref a), .val (.ref b), .val (.int (Int32.ofNat o)), .val (.int (Int32.ofNat len)), .val .null, .unset] [.ref a])) := c1.trans (by
    refine XS.aloadN X0.here hexec rfl (hb hbytes d0) rfl rfl ?_
    exact Steps.refl _)
  obtain ⟨T3, X3, q3, st3⟩ := X0.oinit hexec hown (wks W (objW "java/lang/String" 1)) (g := (mkF m 1 #[.val (.ref a), .val (.ref b), .val (.int (Int32.ofNat o)), .val (.int (Int32.ofNat len)), .val .null, .unset] [.ref a])) rfl (by rw [hml]; rfl) (rest := []) rfl (hb hbytes d1) (W := 0) (by show 2 * 0 + 0 ≤ _; decide) (Nat.le_of_ble_eq_true rfl) (Nat.le_of_ble_eq_true rfl)
  have hh3 := q3.trans hh0
  have c4 : Steps p.tables e below (s₁.setTop (entryFrame m #[.ref a, .ref b, .int (Int32.ofNat o), .int (Int32.ofNat len), .null] 6)) (T3.setTop (mkF m 27 #[.val (.ref a), .val (.ref b), .val (.int (Int32.ofNat o)), .val (.int (Int32.ofNat len)), .val .null, .unset] [])) := (c2.trans (st3 _ (Steps.refl _))).trans (by
    refine XS.iloadN X3.here hexec rfl (hb hbytes d4) rfl ?_
    refine XS.ifYes X3.here hexec rfl (pc0 := 5) rfl (hb hbytes d5) rfl (i0_ne_t (nz32 (by omega) l0)) (by decide) rfl ?_
    exact Steps.refl _)
  obtain ⟨T5, X5, q5, st5⟩ := X3.sget hexec hown (wk W (.fieldLink "java/lang/String" 38 "java/lang/String" "COMPACT_STRINGS" "Z")) s1 (fun _ _ h => by rw [hh3]; exact h) (g := (mkF m 27 #[.val (.ref a), .val (.ref b), .val (.int (Int32.ofNat o)), .val (.int (Int32.ofNat len)), .val .null, .unset] [])) rfl (hb hbytes d27)
  have hh5 := q5.trans hh3
  have c6 : Steps p.tables e below (s₁.setTop (entryFrame m #[.ref a, .ref b, .int (Int32.ofNat o), .int (Int32.ofNat len), .null] 6)) (T5.setTop (mkF m 30 #[.val (.ref a), .val (.ref b), .val (.int (Int32.ofNat o)), .val (.int (Int32.ofNat len)), .val .null, .unset] [.int z])) := c4.trans (st5 _ (Steps.refl _))
  have c7 : Steps p.tables e below (s₁.setTop (entryFrame m #[.ref a, .ref b, .int (Int32.ofNat o), .int (Int32.ofNat len), .null] 6)) (T5.setTop (mkF m 36 #[.val (.ref a), .val (.ref b), .val (.int (Int32.ofNat o)), .val (.int (Int32.ofNat len)), .val .null, .unset] [.int (Int32.ofNat len), .int (Int32.ofNat o), .ref b])) := c6.trans (by
    refine XS.ifNo X5.here hexec rfl (hb hbytes d30) rfl (i0_eq_f hz) ?_
    refine XS.aloadN X5.here hexec rfl (hb hbytes d33) rfl rfl ?_
    refine XS.iloadN X5.here hexec rfl (hb hbytes d34) rfl ?_
    refine XS.iloadN X5.here hexec rfl (hb hbytes d35) rfl ?_
    exact Steps.refl _)
  obtain ⟨v8, T8, X8, E8, g8⟩ := X5.callS hexec (Cmp3.law l b A o len) hown (wks W (staticW "java/lang/String" 177 Cmp3.yN)) (wk W Cmp3.tab) (W := 0) (Nat.le_of_ble_eq_true rfl) (Nat.le_of_ble_eq_true rfl) (Nat.le_refl _) (by show 0 + len ≤ len; omega) (g := (mkF m 36 #[.val (.ref a), .val (.ref b), .val (.int (Int32.ofNat o)), .val (.int (Int32.ofNat len)), .val .null, .unset] [.int (Int32.ofNat len), .int (Int32.ofNat o), .ref b])) rfl (by rw [hml]; rfl) c7 (argsL := [.ref b, .int (Int32.ofNat o), .int (Int32.ofNat len)]) (rest := []) rfl rfl (by show 2 * 0 + 0 ≤ _; decide) (hb hbytes d36) (⟨rfl, hA.mv X5.warmed.alike hh5, l1, l2, hp⟩)
  obtain ⟨e8, z8⟩ := E8
  obtain ⟨rfl, N, n1, n2, n3, n4, n5, n6⟩ := NewArr.mv _ T5 s _ _ hh5.symm (Vm.Alike.refl _) rfl e8
  rw [hh5] at z8
  have hB1 := hB.keep X8.warmed.alike (n6 _ _ hB.1)
  have hne : s.heap.size ≠ a := (Nat.ne_of_lt (Array.getElem?_eq_some_iff.mp hB.1).1).symm
  have c9 : Steps p.tables e below (s₁.setTop (entryFrame m #[.ref a, .ref b, .int (Int32.ofNat o), .int (Int32.ofNat len), .null] 6)) (T8.setTop (mkF m 39 #[.val (.ref a), .val (.ref b), .val (.int (Int32.ofNat o)), .val (.int (Int32.ofNat len)), .val .null, .unset] [.ref s.heap.size])) := g8
  have c10 : Steps p.tables e below (s₁.setTop (entryFrame m #[.ref a, .ref b, .int (Int32.ofNat o), .int (Int32.ofNat len), .null] 6)) (T8.setTop (mkF m 45 #[.val (.ref a), .val (.ref b), .val (.int (Int32.ofNat o)), .val (.int (Int32.ofNat len)), .val .null, .val (.ref s.heap.size)] [.int (Int32.ofNat N.slots.size), .ref s.heap.size, .ref a])) := by
    have hc : Steps p.tables e below (s₁.setTop (entryFrame m #[.ref a, .ref b, .int (Int32.ofNat o), .int (Int32.ofNat len), .null] 6)) (T8.setTop (mkF m 45 #[.val (.ref a), .val (.ref b), .val (.int (Int32.ofNat o)), .val (.int (Int32.ofNat len)), .val .null, .val (.ref s.heap.size)] [.int (Int32.ofNat len), .ref s.heap.size, .ref a])) := c9.trans (by
      refine XS.astore X8.here hexec rfl (hb hbytes d39) rfl rfl rfl ?_
      refine XS.aloadN X8.here hexec rfl (hb hbytes d41) rfl rfl ?_
      refine XS.aload X8.here hexec rfl (hb hbytes d42) rfl rfl ?_
      refine XS.iloadN X8.here hexec rfl (hb hbytes d44) rfl ?_
      exact Steps.refl _)
    rw [n4]; exact hc
  obtain ⟨v11, T11, X11, E11, g11⟩ := X8.callS hexec (CodL.law l s.heap.size N) hown (wks W (staticW "java/lang/String" 47 CodL.yN)) (wk W CodL.tab) (W := 1) (Nat.le_of_ble_eq_true rfl) (Nat.le_of_ble_eq_true rfl) (Nat.le_refl _) (by show 0 + len + 0 ≤ len; omega) (g := (mkF m 45 #[.val (.ref a), .val (.ref b), .val (.int (Int32.ofNat o)), .val (.int (Int32.ofNat len)), .val .null, .val (.ref s.heap.size)] [.int (Int32.ofNat N.slots.size), .ref s.heap.size, .ref a])) rfl (by rw [hml]; rfl) c10 (argsL := [.ref s.heap.size, .int (Int32.ofNat N.slots.size)]) (rest := [.ref a]) rfl rfl (by show 2 * 0 + (1 + 0) ≤ _; decide) (hb hbytes d45) (⟨rfl, n1⟩)
  obtain ⟨rfl, q11⟩ := E11
  have hB11 := hB1.mv (X8.warmed.alike.symm.trans X11.warmed.alike) q11
  have c12 : Steps p.tables e below (s₁.setTop (entryFrame m #[.ref a, .ref b, .int (Int32.ofNat o), .int (Int32.ofNat len), .null] 6)) (T11.setTop (mkF m 48 #[.val (.ref a), .val (.ref b), .val (.int (Int32.ofNat o)), .val (.int (Int32.ofNat len)), .val .null, .val (.ref s.heap.size)] [.int 0, .ref a])) := g11
  obtain ⟨T13, X13, p13, bl13, sl13, st13⟩ := X11.finit hexec hown (wk W (.fieldLink "java/lang/String" 15 "java/lang/String" "coder" "B")) (Or.inr ⟨_, (wk W (.laysFinal "java/lang/String" "java/lang/String" "coder" "B"))⟩) (Or.inl ⟨rfl, hnm⟩) f2 (Or.inl rfl) hB11 (t := .byte) (by decide +kernel) rfl (g := (mkF m 48 #[.val (.ref a), .val (.ref b), .val (.int (Int32.ofNat o)), .val (.int (Int32.ofNat len)), .val .null, .val (.ref s.heap.size)] [.int 0, .ref a])) rfl (rest := []) rfl (hb hbytes d48)
  have c14 : Steps p.tables e below (s₁.setTop (entryFrame m #[.ref a, .ref b, .int (Int32.ofNat o), .int (Int32.ofNat len), .null] 6)) (T13.setTop (mkF m 54 #[.val (.ref a), .val (.ref b), .val (.int (Int32.ofNat o)), .val (.int (Int32.ofNat len)), .val .null, .val (.ref s.heap.size)] [.ref s.heap.size, .ref a])) := (c12.trans (st13 _ (Steps.refl _))).trans (by
    refine XS.aloadN X13.here hexec rfl (hb hbytes d51) rfl rfl ?_
    refine XS.aload X13.here hexec rfl (hb hbytes d52) rfl rfl ?_
    exact Steps.refl _)
  obtain ⟨T15, X15, p15, bl15, sl15, st15⟩ := X13.finit hexec hown (wk W (.fieldLink "java/lang/String" 9 "java/lang/String" "value" "[B")) (Or.inr ⟨_, (wk W (.laysFinal "java/lang/String" "java/lang/String" "value" "[B"))⟩) (Or.inl ⟨rfl, hnm⟩) f1 (Or.inl rfl) bl13 (t := (.array .byte)) (by decide +kernel) rfl (g := (mkF m 54 #[.val (.ref a), .val (.ref b), .val (.int (Int32.ofNat o)), .val (.int (Int32.ofNat len)), .val .null, .val (.ref s.heap.size)] [.ref s.heap.size, .ref a])) rfl (rest := []) rfl (hb hbytes d54)
  have c16 : Steps p.tables e below (s₁.setTop (entryFrame m #[.ref a, .ref b, .int (Int32.ofNat o), .int (Int32.ofNat len), .null] 6)) (T15.setTop (mkF m 57 #[.val (.ref a), .val (.ref b), .val (.int (Int32.ofNat o)), .val (.int (Int32.ofNat len)), .val .null, .val (.ref s.heap.size)] [])) := c14.trans (st15 _ (Steps.refl _))
  have ap := apart (Or.inr ⟨_, (wk W (.laysFinal "java/lang/String" "java/lang/String" "value" "[B"))⟩) (Or.inr ⟨_, (wk W (.laysFinal "java/lang/String" "java/lang/String" "coder" "B"))⟩) f1 f2 (t₁ := .array .byte) (t₂ := .byte) (by decide +kernel) (by decide +kernel) (by decide)
  have al := X8.warmed.alike.symm.trans X15.warmed.alike
  have n7 : T11.heap[s.heap.size]? = some N := by rw [q11]; exact n1.1
  exact ⟨T15, none, _, _, _, X15, by simp, rfl, by omega, (fun _ => rfl), ⟨rfl, _, N, bl15, ((Same.refl D _).set _ (by simp)).set _ (by simp), sl15, (Cell.slots_setSlot_ne _ ap).trans sl13, n1.keep al (p15.other hne (p13.other hne n7)), n2, by rw [al.findClass]; exact n3, n4, n5, fun y c h1 h2 => p15.other h1 (p13.other h1 (by rw [q11]; exact n6 y c h2)), by rw [p15.2.2, p13.2.2, q11]; exact z8⟩, fun fs hl => c16.trans (X15.returnOut hexec hret (hb hbytes d57) hl)⟩
end New4
namespace New1
def yN : MethodName := ⟨"java/lang/String", "<init>", "([C)V"⟩
abbrev yB : ByteArray := jdk_42_method_3_code
theorem d0 : decode yB 0 = .ok (.aload_n 0, 1) := by decide +kernel
theorem d1 : decode yB 1 = .ok (.aload_n 1, 1) := by decide +kernel
theorem d2 : decode yB 2 = .ok (.iconst 0, 1) := by decide +kernel
theorem d3 : decode yB 3 = .ok (.aload_n 1, 1) := by decide +kernel
theorem d4 : decode yB 4 = .ok (.arraylength, 1) := by decide +kernel
theorem d5 : decode yB 5 = .ok (.aconst_null, 1) := by decide +kernel
theorem d6 : decode yB 6 = .ok (.invokespecial 27, 3) := by decide +kernel
theorem d9 : decode yB 9 = .ok (.return_, 1) := by decide +kernel
def site : List Cond := [New4.tab] ++ initW "java/lang/String" 27 New4.yN
def tab : Cond := tabOf yN yB 2 none site
def P (a : Addr) (D : Cell) (fV fC : Field) (b : Addr) (A : Cell) (z : Int32) (args : Array Value) (s : State) : Prop := args = #[.ref a, .ref b] ∧ Blank "java/lang/String" a D s ∧ Found "java/lang/String" "value" "[B" fV s ∧ Found "java/lang/String" "coder" "B" fC s ∧ Ch b A s ∧ StaticIs s "java/lang/String" "COMPACT_STRINGS" "Z" (.int z) ∧ ¬ z = 0 ∧ 0 < A.slots.size ∧ A.slots.size ≤ 536870912 ∧ ∀ i, i < A.slots.size → ¬ 255 < cv A i
def E (a : Addr) (D : Cell) (fV fC : Field) (A : Cell) (r : Option Value) (s u : State) : Prop := Got a D fV fC A 0 A.slots.size r s u
/-- new String(chars), not empty, no char above 255: a Latin-1 String of their low bytes -/
theorem law (l : Launch) (a : Addr) (D : Cell) (fV fC : Field) (b : Addr) (A : Cell) (z : Int32) : Law l yN 2 1 3 52 yB 2 none site (P a D fV fC b A z) (E a D fV fC A) [⟨a, fC.slot⟩, ⟨a, fV.slot⟩] 1 A.slots.size := by
  refine Law.of_walk (plainFor_of_name (by decide +kernel)) (by decide +kernel) (by decide +kernel) (by decide) (fun _ _ h => by rw [h.1]; rfl) (fun _ U U' hal hh h => ⟨h.1, h.2.1.mv hal hh, h.2.2.1.al hal, h.2.2.2.1.al hal, h.2.2.2.2.1.mv hal hh, h.2.2.2.2.2.1.there hal hh, h.2.2.2.2.2.2⟩) (fun r U U' V V' h1 hal h2 h => Got.mv r U U' V V' h1 hal h2 h) ?_
  intro p e s m args below meth c s₁ X0 hexec hbytes hml hret hlk hnm hown hh0 W hP
  obtain ⟨rfl, hB, f1, f2, hA, s1, hz, l0, l2, hp⟩ := hP
  have c1 : Steps p.tables e below (s₁.setTop (entryFrame m #[.ref a, .ref b] 2)) (s₁.setTop (mkF m 0 #[.val (.ref a), .val (.ref b)] [])) := entry rfl
  have c2 : Steps p.tables e below (s₁.setTop (entryFrame m #[.ref a, .ref b] 2)) (s₁.setTop (mkF m 6 #[.val (.ref a), .val (.ref b)] [.null, .int (Int32.ofNat A.slots.size), .int 0, .ref b, .ref a])) := c1.trans (by
    refine XS.aloadN X0.here hexec rfl (hb hbytes d0) rfl rfl ?_
    refine XS.aloadN X0.here hexec rfl (hb hbytes d1) rfl rfl ?_
    refine iconstV X0.here hexec rfl 0 (hb hbytes d2) (by decide) ?_
    refine XS.aloadN X0.here hexec rfl (hb hbytes d3) rfl rfl ?_
    refine X0.alen hexec (hA.1.mv X0.warmed.alike hh0) rfl rfl (hb hbytes d4) ?_
    refine XS.aconstNull X0.here hexec rfl (hb hbytes d5) ?_
    exact Steps.refl _)
  obtain ⟨v3, T3, X3, E3, g3⟩ := X0.callN hexec (New4.law l a D fV fC b A z 0 A.slots.size) rfl hown (wks W (initW "java/lang/String" 27 New4.yN)) (W New4.tab (by simp only [site, List.mem_cons, List.mem_append, true_or, or_true])) (W := 0) (Nat.le_of_ble_eq_true rfl) (Nat.le_of_ble_eq_true rfl) (Nat.le_refl _) (by show 0 + A.slots.size ≤ A.slots.size; omega) (g := (mkF m 6 #[.val (.ref a), .val (.ref b)] [.null, .int (Int32.ofNat A.slots.size), .int (Int32.ofNat 0), .ref b, .ref a])) rfl (by rw [hml]; rfl) c2 (argsL := [.ref b, .int (Int32.ofNat 0), .int (Int32.ofNat A.slots.size), .null]) (rest := []) rfl rfl (by show 2 * 0 + 0 ≤ _; decide) (hb hbytes d6) (⟨rfl, hB.mv X0.warmed.alike hh0, f1.al X0.warmed.alike, f2.al X0.warmed.alike, hA.mv X0.warmed.alike hh0, s1.there X0.warmed.alike hh0, hz, l0, by omega, l2, fun i hi => by rw [Nat.zero_add]; exact hp i hi⟩)
  have e0 := Got.mv _ s₁ s _ _ hh0.symm (Vm.Alike.refl _) rfl E3
  obtain rfl := e0.1
  have c4 : Steps p.tables e below (s₁.setTop (entryFrame m #[.ref a, .ref b] 2)) (T3.setTop (mkF m 9 #[.val (.ref a), .val (.ref b)] [])) := g3
  exact ⟨T3, none, _, _, _, X3, by simp, rfl, by omega, (fun _ => rfl), e0, fun fs hl => c4.trans (X3.returnOut hexec hret (hb hbytes d9) hl)⟩
theorem pays {l : Launch} {R : Room} {p : Program} {e : Env} {below : List Frame} {s : State} {sargs : Array Value} {len W : Nat} (a : Addr) (D : Cell) (fV fC : Field) (b : Addr) (A : Cell) (z : Int32) (htab : tab.before sargs s = true) (hfr : 4 ≤ R.frames) (hlo : W + 65 ≤ R.locals) :
    Back l R p e below s sargs yN len W (fun A₁ a₁ => A₁.cells + 1 ≤ R.cells ∧ A₁.slots + A.slots.size ≤ R.slots ∧ P a D fV fC b A z a₁ A₁.U) (fun A₁ _ v₁ B₁ => E a D fV fC A v₁ A₁.U B₁.U ∧ B₁.locs = A₁.locs ++ [⟨a, fC.slot⟩, ⟨a, fV.slot⟩] ∧ B₁.cells = A₁.cells + 1 ∧ B₁.slots = A₁.slots + A.slots.size) :=
  (law l a D fV fC b A z).pays htab hfr (by omega)
end New1
/-- the byte, read back as charAt reads it, is the char -/
theorem lo8_mask {x : Int32} (h0 : ¬ x < 0) (h1 : ¬ 255 < x) : lo8 x &&& 255 = x := by
  have t : ∀ k : Fin 256, lo8 (Int32.ofNat k.val) &&& 255 = Int32.ofNat k.val := by decide +kernel
  rw [Int32.lt_iff_toInt_lt] at h0 h1
  have e0 : (0 : Int32).toInt = 0 := rfl
  have e1 : (255 : Int32).toInt = 255 := rfl
  obtain ⟨k, hk⟩ : ∃ k : Nat, x.toInt = k := ⟨x.toInt.toNat, by omega⟩
  have hx : x = Int32.ofNat k := Int32.toInt_inj.mp (by rw [hk, Int32.toInt_ofNat_small (by omega)])
  rw [hx]
  exact t ⟨k, by omega⟩
end StrChars
namespace StrChars.Road
open Jvm Sem ClassFile Op Lib Jvm.Stand Jvm.Free Jvm.Free.XT
open Jvm.Lib.Cold (StaticIs)
abbrev ST : String := "java/lang/String"
/-- every table word that New1's law asks, flat -/
abbrev words : List Jvm.Cond := [.code New1.yN New1.yB 2 none, .initialized ST, .methodLink ST 27 New4.yN, .instanceMethod New4.yN,
  .code New4.yN New4.yB 6 none, .fieldLink ST 38 ST "COMPACT_STRINGS" "Z", .laysFinal ST ST "value" "[B", .fieldLink ST 9 ST "value" "[B", .laysFinal ST ST "coder" "B", .fieldLink ST 15 ST "coder" "B",
  .methodLink ST 1 Lib.objectInit, .instanceMethod Lib.objectInit, .code Lib.objectInit ⟨#[0xb1]⟩ 1 none, .methodLink ST 177 Cmp3.yN, .static Cmp3.yN, .methodLink ST 47 CodL.yN, .static CodL.yN,
  .code Cmp3.yN Cmp3.yB 6 (some (.array .byte)), .initialized U16, .arrayClass .byte, .methodLink U16 115 Cmp5.yN, .static Cmp5.yN, .code Cmp5.yN Cmp5.yB 7 (some .int), .code CodL.yN CodL.yB 2 (some .byte)]
theorem tab_of {a : Array Value} {s : State} (h : ∀ w ∈ words, w.before a s = true) : New1.tab.before a s = true := by
  have h5 : Cmp5.tab.before a s = true := unparts (wk h (.code Cmp5.yN Cmp5.yB 7 (some .int))) (wks h (.initialized Cmp5.yN.cls :: Cmp5.site))
  have hc : CodL.tab.before a s = true := unparts (wk h (.code CodL.yN CodL.yB 2 (some .byte))) (wks h (.initialized CodL.yN.cls :: CodL.site))
  have q5 : ∀ w ∈ Cmp5.tab :: words, w.before a s = true := fun w hw => (List.mem_cons.mp hw).elim (fun e => e ▸ h5) (h w)
  have h3 : Cmp3.tab.before a s = true := unparts (wk q5 (.code Cmp3.yN Cmp3.yB 6 (some (.array .byte)))) (wks q5 (.initialized Cmp3.yN.cls :: Cmp3.site))
  have q3 : ∀ w ∈ Cmp3.tab :: CodL.tab :: words, w.before a s = true := fun w hw => (List.mem_cons.mp hw).elim (fun e => e ▸ h3) fun hw => (List.mem_cons.mp hw).elim (fun e => e ▸ hc) (h w)
  have h4 : New4.tab.before a s = true := unparts (wk q3 (.code New4.yN New4.yB 6 none)) (wks q3 (.initialized New4.yN.cls :: New4.site))
  have q4 : ∀ w ∈ New4.tab :: words, w.before a s = true := fun w hw => (List.mem_cons.mp hw).elim (fun e => e ▸ h4) (h w)
  exact unparts (wk q4 (.code New1.yN New1.yB 2 none)) (wks q4 (.initialized New1.yN.cls :: New1.site))
/-- the words ride from the start Z to the walk's own state -/
theorem moved {Z s : State} {a0 args : Array Value} (hZ : Z.Warmed39 s.vm) (hw : ∀ d ∈ words, d.before a0 Z = true) : ∀ d ∈ words, d.before args s = true := fun d hd => by
  have q := hw d hd
  have t : ∀ d ∈ words, d = .arrayClass .byte ∨ (d.onTables && d.keepsFace) = true := by decide +kernel
  rcases t d hd with rfl | t
  · exact RoadKit.mvA hZ q
  · exact RoadKit.mv hZ q t
/-- WHAT COMES BACK, over the tables of the start Z: h the heap at the call, h' behind it -/
def Q (Z : State) (x : Addr) (A : Cell) (h : Heap) (v : Option Value) (h' : Heap) (L : List Loc) : Prop := v = none ∧ (∀ y ∈ L, y.base = x) ∧ RoadKit.Keep h h' [x] ∧ h'.size = h.size + 1 ∧ RoadKit.Exa Z h' x ST ∧ RoadKit.Fld Z h' x ST "value" "[B" (.ref h.size) ∧ RoadKit.Fld Z h' x ST "coder" "B" (.int 0) ∧
  (∃ V : Cell, RoadKit.Arr Z h' h.size V .byte ∧ V.vm = .none ∧ Z.vm.findClass "[B" = some V.cls ∧ V.slots.size = A.slots.size ∧ ∀ j, j < A.slots.size → V.slots[j]? = some (.int (lo8 (cv A j)))) ∧
  ∀ (O n d : String) (w : Value), RoadKit.Fld Z h x O n d w → RoadKit.slotOf Z O n d ≠ RoadKit.slotOf Z ST "value" "[B" → RoadKit.slotOf Z O n d ≠ RoadKit.slotOf Z ST "coder" "B" → RoadKit.Fld Z h' x O n d w
/-- **new String(chars) AT A CALL, IN THE ROAD'S FORM**: for specialBack behind newO: x the fresh String, b the char[] with the cell A -/
theorem back {p : Program} {l : Launch} {e : Env} {R : Room} {s : State} {args : Array Value} {below : List Frame} {len W : Nat} {Z : State} {a0 : Array Value} {h : Heap} (hZ : Z.Warmed39 s.vm) (hw : ∀ d ∈ words, d.before a0 Z = true) {kI : Nat} (wi : (Jvm.Cond.instantiable ST kI).before a0 Z = true)
    {x b : Addr} {A : Cell} {z : Int32} {v0 c0 : Value} (E : RoadKit.Exa Z h x ST) (V : RoadKit.Fld Z h x ST "value" "[B" v0) (C : RoadKit.Fld Z h x ST "coder" "B" c0) (K : RoadKit.Arr Z h b A .char) (hty : Typed .char A) (S : RoadKit.Sta Z h ST "COMPACT_STRINGS" "Z" (.int z)) (hz : ¬ z = 0)
    (l0 : 0 < A.slots.size) (l2 : A.slots.size ≤ 536870912) (hp : ∀ i, i < A.slots.size → ¬ 255 < cv A i) (hfr : 4 ≤ R.frames) (hlo : W + 65 ≤ R.locals) :
    Back l R p e below s args New1.yN len W (fun P a => a = #[.ref x, .ref b] ∧ P.U.heap = h ∧ P.cells + 1 ≤ R.cells ∧ P.slots + A.slots.size ≤ R.slots)
      (fun P _ v B => ∃ L, Q Z x A h v B.U.heap L ∧ B.locs = P.locs ++ L ∧ B.cells = P.cells + 1 ∧ B.slots = P.slots + A.slots.size) := by
  intro m meth c P g ig mk a X hg hsize hdg hW hn hp'
  obtain ⟨rfl, rfl, r1, r2⟩ := hp'
  have al : Z.vm.Alike P.U.vm := hZ.alike.trans X.warmed.alike
  obtain ⟨D, cfV, kV, iV, fV, hD, gV, stV, knV, obV, asV, slV⟩ := id V
  obtain ⟨D', cfC, kC, iC, fC, hD', gC, stC, -, -, asC, slC⟩ := id C
  cases hD.symm.trans hD'
  obtain ⟨D2, kD, e1, e2, e3, e4, e5⟩ := id E
  cases hD.symm.trans e1
  obtain ⟨c2, k2, i1, i2, i3, -⟩ := Cond.instantiable_spec wi
  cases e2.symm.trans i1
  cases e3.symm.trans i2
  obtain ⟨kU, u1, u2⟩ := al.2.2 _ _ e3
  have hB : Blank ST x D P.U := ⟨hD, ⟨knV, fun q hq => by rw [hq] at obV; cases obV⟩, by rw [al.findClass]; exact e2, kU, u1, by rw [u2]; exact i3, by rw [u2]; exact e5 i3⟩
  have F1 : Found ST "value" "[B" fV P.U := ⟨SBG.found_only al ⟨cfV, kV, iV, gV⟩, stV⟩
  have F2 : Found ST "coder" "B" fC P.U := ⟨SBG.found_only al ⟨cfC, kC, iC, gC⟩, stC⟩
  have hA : Ch b A P.U := ⟨⟨K.1, State.isArrayOf_alike al K.2.1, K.2.2, by omega⟩, hty⟩
  have hS : StaticIs P.U ST "COMPACT_STRINGS" "Z" (.int z) := by
    obtain ⟨cfS, iS, kS, fS, st, cS, t1, t2, t3, t4, t5, t6, t7⟩ := S
    exact StaticIs.there (s := { Z with heap := P.U.heap }) ⟨cfS, iS, kS, fS, st, cS, t1, t2, t3, t4, t5, (fun q => by rw [q] at t6; cases t6), t7⟩ al rfl
  obtain ⟨v, B, X', ⟨⟨hv, E', V', q1, q2, q3, q4, q5, q6, q7, q8, q9, q10, q11⟩, hl, hc, hs⟩, st⟩ := New1.pays x D fV fC b A z (tab_of (moved hZ hw)) hfr hlo m meth c P g ig mk _ X hg hsize hdg hW hn ⟨r1, r2, rfl, hB, F1, F2, hA, hS, hz, l0, l2, hp⟩
  have al' : Z.vm.Alike B.U.vm := hZ.alike.trans X'.warmed.alike
  have hsz : E'.slots.size = D.slots.size := by
    obtain ⟨-, -, -, kB, w1, w2, w3⟩ := q1
    obtain ⟨kB', y1, y2⟩ := al'.2.2 _ _ e3
    rw [q2.2.1] at w1
    cases w1.symm.trans y1
    rw [w3, e5 i3, y2]
  refine ⟨v, B, X', ⟨_, ⟨hv, ?_, ⟨by omega, fun y cy hy hn' => q10 y cy (by simpa using hn') hy, fun y cy hy => ?_⟩, q11, ⟨E', _, q1.1, by rw [q2.2.1]; exact e2, by rw [q2.2.1]; exact e3, by rw [q2.1]; exact obV, fun _ => by rw [hsz]; exact e5 i3⟩,
    ⟨E', cfV, kV, iV, fV, q1.1, gV, stV, by rw [q2.1]; exact knV, by rw [q2.1]; exact obV, by rw [q2.2.1]; exact asV, q3⟩, ⟨E', cfC, kC, iC, fC, q1.1, gC, stC, by rw [q2.1]; exact knV, by rw [q2.1]; exact obV, by rw [q2.2.1]; exact asC, q4⟩,
    ⟨V', ⟨q5.1, State.isArrayOf_alike al'.symm q5.2.1, q5.2.2.1⟩, q6, by rw [← al'.findClass]; exact q7, q8, fun j hj => by have := q9 j hj; rwa [Nat.zero_add] at this⟩, fun O n d w F n1 n2 => ?_⟩, hl, hc, hs⟩, st⟩
  · intro y hy
    simp only [List.mem_cons, List.not_mem_nil, or_false] at hy
    rcases hy with rfl | rfl <;> rfl
  · by_cases q : y = x
    · subst q
      cases hD.symm.trans hy
      exact ⟨E', q1.1, q2.2.1, q2.1, hsz⟩
    · exact ⟨cy, q10 y cy q hy, rfl, rfl, rfl⟩
  · obtain ⟨D3, cf, k, i, f, g1, g2, g3, g4, g5, g6, g7⟩ := F
    cases hD.symm.trans g1
    simp only [RoadKit.slotOf, g2, gV, gC, Option.map_some, Option.getD_some] at n1 n2
    exact ⟨E', cf, k, i, f, q1.1, g2, g3, by rw [q2.1]; exact g4, by rw [q2.1]; exact g5, by rw [q2.2.1]; exact g6, by rw [q2.2.2 f.slot (by simp [n1, n2])]; exact g7⟩
end StrChars.Road
namespace StrChars.Road
open Jvm Sem ClassFile Op Lib Jvm.Stand Jvm.Free Jvm.Free.XT
/-- WHAT COMES BACK, the byte[] as a list of values -/
def QA (Z : State) (x : Addr) (zn : Int32) (cs : List Int32) (h : Heap) (v : Option Value) (h' : Heap) (L : List Loc) : Prop := v = none ∧ (∀ y ∈ L, y.base = x) ∧ RoadKit.Keep h h' [x] ∧ h'.size = h.size + 1 ∧ RoadKit.Exa Z h' x ST ∧ RoadKit.Fld Z h' x ST "value" "[B" (.ref h.size) ∧ RoadKit.Fld Z h' x ST "coder" "B" (.int 0) ∧
  (∃ kb, Z.vm.findClass "[B" = some kb ∧ RoadKit.Arv Z h' h.size kb .byte zn (cs.map fun c => .int (lo8 c)) (.int 0)) ∧
  ∀ (O n d : String) (w : Value), RoadKit.Fld Z h x O n d w → RoadKit.slotOf Z O n d ≠ RoadKit.slotOf Z ST "value" "[B" → RoadKit.slotOf Z O n d ≠ RoadKit.slotOf Z ST "coder" "B" → RoadKit.Fld Z h' x O n d w
/-- **new String(chars) AT A CALL, THE ARRAYS AS LISTS**: the char[] at b holds cs, not empty, no char above 255 -/
theorem backArv {p : Program} {l : Launch} {e : Env} {R : Room} {s : State} {args : Array Value} {below : List Frame} {len W : Nat} {Z : State} {a0 : Array Value} {h : Heap} (hZ : Z.Warmed39 s.vm) (hw : ∀ d ∈ words, d.before a0 Z = true) {kI : Nat} (wi : (Jvm.Cond.instantiable ST kI).before a0 Z = true)
    {x b : Addr} {k : ClassId} {zn z : Int32} {cs : List Int32} {dv v0 c0 : Value} (E : RoadKit.Exa Z h x ST) (V : RoadKit.Fld Z h x ST "value" "[B" v0) (C : RoadKit.Fld Z h x ST "coder" "B" c0) (K : RoadKit.Arv Z h b k .char zn (cs.map Value.int) dv) (S : RoadKit.Sta Z h ST "COMPACT_STRINGS" "Z" (.int z)) (hz : ¬ z = 0)
    (hlen : zn.toNatClampNeg = cs.length) (h0 : 0 < cs.length) (hbig : cs.length ≤ 536870912) (hall : ∀ c ∈ cs, ¬ 255 < c) (hfr : 4 ≤ R.frames) (hlo : W + 65 ≤ R.locals) :
    Back l R p e below s args New1.yN len W (fun P a => a = #[.ref x, .ref b] ∧ P.U.heap = h ∧ P.cells + 1 ≤ R.cells ∧ P.slots + cs.length ≤ R.slots)
      (fun P _ v B => ∃ L, QA Z x zn cs h v B.U.heap L ∧ B.locs = P.locs ++ L ∧ B.cells = P.cells + 1 ∧ B.slots = P.slots + cs.length) := by
  obtain ⟨A, K1, K2, K3, K4, K5, K6⟩ := K
  have e : A.slots.size = cs.length := K3.trans hlen
  have hat : ∀ (i : Nat) (hi : i < cs.length), A.slots[i]? = some (.int cs[i]) := fun i hi => by rw [K5 i (by omega)]; simp [List.getD_eq_getElem?_getD, hi]
  have hcv : ∀ (i : Nat) (hi : i < cs.length), cv A i = cs[i] := fun i hi => by unfold cv; rw [hat i hi]
  have hty : Typed .char A := fun i v hv => by
    have hi : i < A.slots.size := (Array.getElem?_eq_some_iff.mp hv).1
    have q := K5 i hi
    rw [hv] at q
    rw [Option.some.inj q]
    exact K6 i hi
  refine Back.mono (back hZ hw wi E V C K1 hty S hz (by omega) (by omega) (fun i hi => by rw [hcv i (by omega)]; exact hall _ (List.getElem_mem _)) hfr hlo) (fun P a hp => ⟨hp.1, hp.2.1, hp.2.2.1, by rw [e]; exact hp.2.2.2⟩) (fun P a v B hp hq => ?_)
  obtain ⟨L, ⟨q1, q2, q3, q4, q5, q6, q7, ⟨V', v1, v2, v3, v4, v5⟩, q9⟩, hl, hc, hs⟩ := hq
  refine ⟨L, ⟨q1, q2, q3, q4, q5, q6, q7, ⟨V'.cls, v3, V', v1, rfl, by rw [v4, e, hlen], K4, fun i hi => ?_, fun i hi => ?_⟩, q9⟩, hl, hc, by rw [hs, e]⟩
  · have hi' : i < cs.length := by omega
    rw [v5 i (by omega), hcv i hi']; simp [List.getD_eq_getElem?_getD, hi']
  · have hi' : i < cs.length := by omega
    simp only [List.getD_eq_getElem?_getD, List.getElem?_map, List.getElem?_eq_getElem hi', Option.map_some, Option.getD_some]
    exact fits_lo8 _
end StrChars.Road
namespace StrChars.Road
open Jvm Sem ClassFile Op Lib Jvm.Stand Jvm.Free Jvm.Free.XT
/-- WHAT COMES BACK, in the writer's own shape -/
def QV (Z : State) (x : Addr) (N : Int32) (bs : List Int32) (h : Heap) (n0 : Nat) (v : Option Value) (h' : Heap) (L : List Loc) : Prop := v = none ∧ RoadKit.Fr n0 L ∧ RoadKit.Keep h h' [x] ∧ RoadKit.Exa Z h' x ST ∧ RoadKit.Fld Z h' x ST "coder" "B" (.int 0) ∧
  ∃ (t : Addr) (kb : ClassId), n0 ≤ t ∧ h.size ≤ t ∧ ¬ t = x ∧ RoadKit.Fld Z h' x ST "value" "[B" (.ref t) ∧ RoadKit.Arv Z h' t kb .byte N (bs.map Value.int) (.int 0)
/-- **new String(chars) AT A CALL, FOR THE WRITER**: a char[] of n known ints, each 0 to 255 -/
theorem backV {p : Program} {l : Launch} {e : Env} {R : Room} {s : State} {args : Array Value} {below : List Frame} {len W : Nat} {Z : State} {a0 : Array Value} {h : Heap} (hZ : Z.Warmed39 s.vm) (hw : ∀ d ∈ words, d.before a0 Z = true) {kI : Nat} (wi : (Jvm.Cond.instantiable ST kI).before a0 Z = true)
    {x b : Addr} {kC : ClassId} {cs bs : List Int32} {d v0 c0 : Value} {z N : Int32} {n n0 : Nat} (hx0 : n0 ≤ x) (hh0 : n0 ≤ h.size) (E : RoadKit.Exa Z h x ST) (V : RoadKit.Fld Z h x ST "value" "[B" v0) (C : RoadKit.Fld Z h x ST "coder" "B" c0) (K : RoadKit.Arv Z h b kC .char N (cs.map Value.int) d) (S : RoadKit.Sta Z h ST "COMPACT_STRINGS" "Z" (.int z)) (hz : ¬ z = 0)
    (hn : cs.length = n) (hN : N = Int32.ofNat n) (l0 : 0 < n) (l2 : n ≤ 4000) (hp : ∀ c ∈ cs, ¬ c < 0 ∧ ¬ (255 : Int32) < c) (hb : bs = cs.map (fun c => c.toInt8.toInt32)) (hfr : 4 ≤ R.frames) (hlo : W + 65 ≤ R.locals) :
    Back l R p e below s args (⟨"java/lang/String", "<init>", "([C)V"⟩ : MethodName) len W (fun P a => a = #[.ref x, .ref b] ∧ P.U.heap = h ∧ P.cells + 1 ≤ R.cells ∧ P.slots + n ≤ R.slots)
      (fun P _ v B => ∃ L, QV Z x N bs h n0 v B.U.heap L ∧ B.locs = P.locs ++ L ∧ B.cells = P.cells + 1 ∧ B.slots = P.slots + n) := by
  subst hn hN hb
  refine Back.mono (backArv hZ hw wi E V C K S hz (n32 (by omega)) l0 (by omega) (fun c hc => (hp c hc).2) hfr hlo) (fun P a hp => hp) (fun P a v B hp hq => ?_)
  obtain ⟨L, ⟨q1, q2, q3, q4, q5, q6, q7, ⟨kb, v1, v2⟩, q9⟩, hl, hc, hs⟩ := hq
  exact ⟨L, ⟨q1, fun y hy => by rw [q2 y hy]; exact hx0, q3, q5, q7, h.size, kb, hh0, Nat.le_refl _, Nat.ne_of_gt E.lt, q6, by rw [List.map_map]; exact v2⟩, hl, hc, hs⟩
end StrChars.Road
namespace StrChars
open Jvm Sem ClassFile Op Lib Jvm.Stand Jvm.Free.XT Jvm.Free.ALB Jvm.Free.JM Jvm.Free
open Jvm.Lib.Cold (StaticIs)
def hi8 (x : Int32) : Int32 := lo8 (x >>> ((8 : Int32) &&& 31))
/-- what StringUTF16.getChar makes of two bytes -/
def pairCh (u v : Int32) : Int32 := (((u &&& 255) <<< ((0 : Int32) &&& 31)) ||| ((v &&& 255) <<< ((8 : Int32) &&& 31))).toUInt32.toUInt16.toUInt32.toInt32
theorem lo8_and (x : Int32) : (lo8 x &&& 255).toBitVec.toNat = x.toBitVec.toNat % 256 := by
  have h : (lo8 x).toBitVec = (x.toBitVec.signExtend 8).signExtend 32 := by rw [lo8, Int8.toBitVec_toInt32, Int32.toBitVec_toInt8]
  rw [Int32.toBitVec_and, BitVec.toNat_and, h]
  have e : ((x.toBitVec.signExtend 8).signExtend 32).toNat % 256 = x.toBitVec.toNat % 256 := by
    rw [BitVec.toNat_signExtend]
    have hlt := x.toBitVec.isLt
    simp only [BitVec.toNat_setWidth, BitVec.toNat_signExtend]
    split <;> split <;> omega
  rw [← e]
  exact Nat.and_two_pow_sub_one_eq_mod _ 8
theorem pair_says {c : Int32} (h0 : ¬ c < 0) (h1 : ¬ 65535 < c) : pairCh (lo8 c) (hi8 c) = c := by
  rw [Int32.lt_iff_toInt_lt] at h0 h1
  have e0 : (0 : Int32).toInt = 0 := rfl
  have e1 : (65535 : Int32).toInt = 65535 := rfl
  have hc : c.toInt = c.toBitVec.toNat := by
    have := c.toBitVec.isLt
    have e : c.toInt = c.toBitVec.toInt := rfl
    rw [e] at h0 h1
    rw [e]
    rw [BitVec.toInt_eq_toNat_cond] at h0 h1 ⊢
    split at h0 <;> split <;> omega
  have hn : c.toBitVec.toNat < 65536 := by omega
  have a1 := lo8_and c
  have a2 : (hi8 c &&& 255).toBitVec.toNat = c.toBitVec.toNat / 256 := by
    rw [hi8, lo8_and]
    have e : ((8 : Int32) &&& 31) = 8 := by decide
    rw [e, Int32.toBitVec_shiftRight]
    have e2 : ((8 : Int32).toBitVec.smod 32) = 8#32 := by decide
    rw [e2, BitVec.sshiftRight_eq', BitVec.toNat_sshiftRight_of_msb_false (by rw [BitVec.msb_eq_false_iff_two_mul_lt]; omega)]
    show c.toBitVec.toNat >>> 8 % 256 = _
    rw [Nat.shiftRight_eq_div_pow]
    omega
  unfold pairCh
  apply Int32.toBitVec_inj.mp
  apply BitVec.eq_of_toNat_eq
  have f0 : ((0 : Int32) &&& 31) = 0 := by decide
  have f8 : ((8 : Int32) &&& 31) = 8 := by decide
  rw [f0, f8]
  have g : (((lo8 c &&& 255) <<< (0 : Int32)) ||| ((hi8 c &&& 255) <<< (8 : Int32))).toBitVec.toNat = c.toBitVec.toNat := by
    rw [Int32.toBitVec_or, Int32.toBitVec_shiftLeft, Int32.toBitVec_shiftLeft]
    have s0 : ((0 : Int32).toBitVec.smod 32) = 0#32 := by decide
    have s8 : ((8 : Int32).toBitVec.smod 32) = 8#32 := by decide
    rw [s0, s8, BitVec.toNat_or]
    simp only [BitVec.shiftLeft_eq', BitVec.toNat_shiftLeft, a1, a2]
    show (c.toBitVec.toNat % 256) <<< 0 % 2 ^ 32 ||| (c.toBitVec.toNat / 256) <<< 8 % 2 ^ 32 = _
    rw [Nat.shiftLeft_zero, Nat.mod_eq_of_lt (show c.toBitVec.toNat % 256 < 2 ^ 32 by omega), Nat.mod_eq_of_lt (show (c.toBitVec.toNat / 256) <<< 8 < 2 ^ 32 by rw [Nat.shiftLeft_eq]; omega), Nat.or_comm, ← Nat.shiftLeft_add_eq_or_of_lt (by omega), Nat.shiftLeft_eq]
    omega
  show BitVec.toNat (((((lo8 c &&& 255) <<< (0 : Int32)) ||| ((hi8 c &&& 255) <<< (8 : Int32))).toBitVec.setWidth 16).setWidth 32) = _
  rw [BitVec.toNat_setWidth, BitVec.toNat_setWidth, g]
  omega
end StrChars
namespace StrChars
open Jvm Sem ClassFile Op Lib Jvm.Stand Jvm.Free.XT Jvm.Free.ALB Jvm.Free.JM Jvm.Free
open Jvm.Lib.Cold (StaticIs)
/-- the array's cell V codes the n chars f 0 .. f (n - 1) by the coder cd, as the JDK does: coder 1 just where some char is above 255 -/
def Cod (cd : Int32) (n : Nat) (f : Nat → Int32) (V : Cell) : Prop := (cd = 0 ∧ V.slots.size = n ∧ ∀ j, j < n → V.slots[j]? = some (.int (lo8 (f j))) ∧ ¬ 255 < f j) ∨ (cd = 1 ∧ V.slots.size = 2 * n ∧ (∀ j, j < n → V.slots[2 * j]? = some (.int (lo8 (f j))) ∧ V.slots[2 * j + 1]? = some (.int (hi8 (f j)))) ∧ ∃ j, j < n ∧ 255 < f j)
/-- **x is a String of the n chars f 0 .. f (n - 1)**, Latin-1 or UTF-16; its array at t has the cell V -/
def Txt (x t : Addr) (V : Cell) (cd : Int32) (n : Nat) (f : Nat → Int32) (U : State) : Prop := Exact "java/lang/String" x U ∧ Has x "java/lang/String" "value" "[B" (.ref t) U ∧ Has x "java/lang/String" "coder" "B" (.int cd) U ∧ XT.Arr .byte t V U ∧ Cod cd n f V ∧ ∀ j, j < n → ¬ f j < 0 ∧ ¬ 65535 < f j
theorem Txt.mv {x t : Addr} {V : Cell} {cd : Int32} {n : Nat} {f : Nat → Int32} {U U' : State} (h : Txt x t V cd n f U) (hal : U.vm.Alike U'.vm) (hh : U'.heap = U.heap) : Txt x t V cd n f U' := ⟨h.1.mv hal hh, h.2.1.mv hal hh, h.2.2.1.mv hal hh, h.2.2.2.1.mv hal hh, h.2.2.2.2⟩
end StrChars
namespace StrChars.Road
open Jvm Sem ClassFile Op Lib Jvm.Stand Jvm.Free Jvm.Free.XT
open Jvm.Lib.Cold (StaticIs)
theorem consq {a : Array Value} {s : State} {c : Jvm.Cond} {L : List Jvm.Cond} (h0 : c.before a s = true) (h : ∀ w ∈ L, w.before a s = true) : ∀ w ∈ c :: L, w.before a s = true := fun w hw => (List.mem_cons.mp hw).elim (fun e => e ▸ h0) (h w)
/-- the bytes of the chars cs, low before high -/
def wideBytes : List Int32 → List Value
  | [] => []
  | c :: cs => .int (lo8 c) :: .int (hi8 c) :: wideBytes cs
theorem wide_lo (d : Value) : ∀ (cs : List Int32) (j : Nat), j < cs.length → (wideBytes cs).getD (2 * j) d = .int (lo8 (cs.getD j 0))
  | [], j, h => absurd h (Nat.not_lt_zero j)
  | c :: cs, 0, _ => rfl
  | c :: cs, j + 1, h => by
    have q := wide_lo d cs j (by simpa using h)
    rw [show 2 * (j + 1) = 2 * j + 1 + 1 from by omega]
    simpa [wideBytes] using q
theorem wide_hi (d : Value) : ∀ (cs : List Int32) (j : Nat), j < cs.length → (wideBytes cs).getD (2 * j + 1) d = .int (hi8 (cs.getD j 0))
  | [], j, h => absurd h (Nat.not_lt_zero j)
  | c :: cs, 0, _ => rfl
  | c :: cs, j + 1, h => by
    have q := wide_hi d cs j (by simpa using h)
    rw [show 2 * (j + 1) + 1 = 2 * j + 1 + 1 + 1 from by omega]
    simpa [wideBytes] using q
theorem low_at (d : Value) (cs : List Int32) (j : Nat) (h : j < cs.length) : (cs.map fun c => Value.int (lo8 c)).getD j d = .int (lo8 (cs.getD j 0)) := by
  simp [List.getD_eq_getElem?_getD, h]
/-- an array of N2 bytes vs codes the chars cs by the coder cd -/
def CodA (cs : List Int32) (cd N2 : Int32) (vs : List Value) : Prop := (cd = 0 ∧ N2 = Int32.ofNat cs.length ∧ vs = (cs.map fun c => Value.int (lo8 c)) ∧ ∀ c ∈ cs, ¬ 255 < c) ∨ (cd = 1 ∧ N2 = Int32.ofNat (2 * cs.length) ∧ vs = wideBytes cs ∧ ∃ c ∈ cs, 255 < c)
theorem CodA.cod {cs : List Int32} {cd N2 : Int32} {vs : List Value} {V : Cell} (h : CodA cs cd N2 vs) (hn : 2 * cs.length < 2 ^ 31) (hs : V.slots.size = N2.toNatClampNeg) (hv : RoadKit.Has V vs (.int 0)) : Cod cd cs.length (fun j => cs.getD j 0) V := by
  rcases h with ⟨rfl, rfl, rfl, h⟩ | ⟨rfl, rfl, rfl, c, hc, hw⟩
  · rw [n32 (by omega)] at hs
    exact Or.inl ⟨rfl, hs, fun j hj => ⟨by rw [hv j (by omega), low_at _ _ _ hj], by
      have e : cs.getD j 0 = cs[j] := by simp [List.getD_eq_getElem?_getD, hj]
      show ¬ 255 < cs.getD j 0
      rw [e]; exact h _ (List.getElem_mem _)⟩⟩
  · rw [n32 (by omega)] at hs
    obtain ⟨j, hj, rfl⟩ := List.getElem_of_mem hc
    exact Or.inr ⟨rfl, hs, fun j hj => ⟨by rw [hv _ (by omega), wide_lo _ _ _ hj], by rw [hv _ (by omega), wide_hi _ _ _ hj]⟩, j, hj, by
      have e : cs.getD j 0 = cs[j] := by simp [List.getD_eq_getElem?_getD, hj]
      show 255 < cs.getD j 0
      rw [e]; exact hw⟩
/-- an object of exactly java/lang/String, its two fields found: as the laws ask it -/
theorem strObj {Z U : State} {a0 : Array Value} {kI : Nat} (wi : (Jvm.Cond.instantiable ST kI).before a0 Z = true) (al : Z.vm.Alike U.vm) {x : Addr} {v0 c0 : Value} (E : RoadKit.Exa Z U.heap x ST) (V : RoadKit.Fld Z U.heap x ST "value" "[B" v0) (C : RoadKit.Fld Z U.heap x ST "coder" "B" c0) :
    ∃ (D : Cell) (fV fC : Field), Blank ST x D U ∧ Found ST "value" "[B" fV U ∧ Found ST "coder" "B" fC U ∧ D.slots[fV.slot]? = some v0 ∧ D.slots[fC.slot]? = some c0 ∧ RoadKit.slotOf Z ST "value" "[B" = fV.slot ∧ RoadKit.slotOf Z ST "coder" "B" = fC.slot := by
  obtain ⟨D, cfV, kV, iV, fV, hD, gV, stV, knV, obV, asV, slV⟩ := V
  obtain ⟨D', cfC, kC, iC, fC, hD', gC, stC, -, -, asC, slC⟩ := C
  cases hD.symm.trans hD'
  obtain ⟨D2, kD, e1, e2, e3, e4, e5⟩ := E
  cases hD.symm.trans e1
  obtain ⟨c2, k2, i1, i2, i3, -⟩ := Cond.instantiable_spec wi
  cases e2.symm.trans i1
  cases e3.symm.trans i2
  obtain ⟨kU, u1, u2⟩ := al.2.2 _ _ e3
  exact ⟨D, fV, fC, ⟨hD, ⟨knV, fun q hq => by rw [hq] at obV; cases obV⟩, by rw [al.findClass]; exact e2, kU, u1, by rw [u2]; exact i3, by rw [u2]; exact e5 i3⟩, ⟨SBG.found_only al ⟨cfV, kV, iV, gV⟩, stV⟩, ⟨SBG.found_only al ⟨cfC, kC, iC, gC⟩, stC⟩, slV, slC, by simp [RoadKit.slotOf, gV], by simp [RoadKit.slotOf, gC]⟩
theorem sta_is {Z U : State} (al : Z.vm.Alike U.vm) {C n d : String} {v : Value} (S : RoadKit.Sta Z U.heap C n d v) : StaticIs U C n d v := by
  obtain ⟨cfS, iS, kS, fS, st, cS, t1, t2, t3, t4, t5, t6, t7⟩ := S
  exact StaticIs.there (s := { Z with heap := U.heap }) ⟨cfS, iS, kS, fS, st, cS, t1, t2, t3, t4, t5, (fun q => by rw [q] at t6; cases t6), t7⟩ al rfl
end StrChars.Road
namespace StrChars
open Jvm Sem ClassFile Op Lib Jvm.Stand Jvm.Free.XT Jvm.Free.ALB Jvm.Free.JM Jvm.Free
open Jvm.Lib.Cold (StaticIs)
/-- what place i of a byte[]'s cell holds -/
def yv (A : Cell) (i : Nat) : Int32 := match A.slots[i]? with | some (.int x) => x | _ => 0
theorem yv_get {a : Addr} {A : Cell} {U : State} (h : XT.Arr .byte a A U) (ht : Typed .byte A) {i : Nat} (hi : i < A.slots.size) : A.slots[i]? = some (.int (yv A i)) := by
  have e := Array.getElem?_eq_getElem hi
  have f := ht i _ e
  unfold yv; rw [e]
  generalize A.slots[i] = v at f
  cases v <;> simp [fits] at f ⊢
/-- the two arrays are equal, place for place -/
def EqC (A B : Cell) : Prop := A.slots.size = B.slots.size ∧ ∀ i, i < A.slots.size → yv A i = yv B i
/-- a boolean that says whether p -/
def Says01 (q : Prop) (r : Option Value) (s u : State) : Prop := ∃ v : Int32, r = some (.int v) ∧ u.heap = s.heap ∧ ((v = 1 ∧ q) ∨ (v = 0 ∧ ¬ q))
theorem Says01.mv {q : Prop} : ∀ r (U U' V V' : State), U'.heap = U.heap → V.vm.Alike V'.vm → V'.heap = V.heap → Says01 q r U V → Says01 q r U' V' :=
  fun r U U' V V' h1 _ h2 ⟨v, a, b, c⟩ => ⟨v, a, by rw [h1, h2]; exact b, c⟩
namespace LEq
def yN : MethodName := ⟨"java/lang/StringLatin1", "equals", "([B[B)Z"⟩
abbrev yB : ByteArray := jdk_43_method_13_code
theorem d0 : decode yB 0 = .ok (.aload_n 0, 1) := by decide +kernel
theorem d1 : decode yB 1 = .ok (.arraylength, 1) := by decide +kernel
theorem d2 : decode yB 2 = .ok (.aload_n 1, 1) := by decide +kernel
theorem d3 : decode yB 3 = .ok (.arraylength, 1) := by decide +kernel
theorem d4 : decode yB 4 = .ok (.if_icmp (.ne) 30, 3) := by decide +kernel
theorem d7 : decode yB 7 = .ok (.iconst 0, 1) := by decide +kernel
theorem d8 : decode yB 8 = .ok (.istore_n 2, 1) := by decide +kernel
theorem d9 : decode yB 9 = .ok (.iload_n 2, 1) := by decide +kernel
theorem d10 : decode yB 10 = .ok (.aload_n 0, 1) := by decide +kernel
theorem d11 : decode yB 11 = .ok (.arraylength, 1) := by decide +kernel
theorem d12 : decode yB 12 = .ok (.if_icmp (.ge) 20, 3) := by decide +kernel
theorem d15 : decode yB 15 = .ok (.aload_n 0, 1) := by decide +kernel
theorem d16 : decode yB 16 = .ok (.iload_n 2, 1) := by decide +kernel
theorem d17 : decode yB 17 = .ok (.baload, 1) := by decide +kernel
theorem d18 : decode yB 18 = .ok (.aload_n 1, 1) := by decide +kernel
theorem d19 : decode yB 19 = .ok (.iload_n 2, 1) := by decide +kernel
theorem d20 : decode yB 20 = .ok (.baload, 1) := by decide +kernel
theorem d21 : decode yB 21 = .ok (.if_icmp (.eq) 5, 3) := by decide +kernel
theorem d24 : decode yB 24 = .ok (.iconst 0, 1) := by decide +kernel
theorem d25 : decode yB 25 = .ok (.ireturn, 1) := by decide +kernel
theorem d26 : decode yB 26 = .ok (.iinc 2 1, 3) := by decide +kernel
theorem d29 : decode yB 29 = .ok (.goto (-20), 3) := by decide +kernel
theorem d32 : decode yB 32 = .ok (.iconst 1, 1) := by decide +kernel
theorem d33 : decode yB 33 = .ok (.ireturn, 1) := by decide +kernel
theorem d34 : decode yB 34 = .ok (.iconst 0, 1) := by decide +kernel
theorem d35 : decode yB 35 = .ok (.ireturn, 1) := by decide +kernel
def site : List Cond := []
def tab : Cond := tabOf yN yB 3 (some .boolean) site
def P (a : Addr) (A : Cell) (b : Addr) (B : Cell) (args : Array Value) (s : State) : Prop := args = #[.ref a, .ref b] ∧ XT.Arr .byte a A s ∧ Typed .byte A ∧ XT.Arr .byte b B s ∧ Typed .byte B
/-- whether two byte[] are equal, place for place -/
theorem law (l : Launch) (a : Addr) (A : Cell) (b : Addr) (B : Cell) : Law l yN 2 2 0 0 yB 3 (some .boolean) site (P a A b B) (Says01 (EqC A B)) [] 0 0 := by
  refine Law.of_walk (plainFor_of_name (by decide +kernel)) (by decide +kernel) (by decide +kernel) (by decide) (fun _ _ h => by rw [h.1]; rfl) (fun _ U U' hal hh h => ⟨h.1, h.2.1.mv hal hh, h.2.2.1, h.2.2.2.1.mv hal hh, h.2.2.2.2⟩) (fun r U U' V V' h1 hal h2 h => Says01.mv r U U' V V' h1 hal h2 h) ?_
  intro p e s m args below meth c s₁ X0 hexec hbytes hml hret hlk hnm hown hh0 W hP
  obtain ⟨rfl, hA, tA, hB, tB⟩ := hP
  have a31 := hA.2.2.2
  have b31 := hB.2.2.2
  have hA0 := hA.mv X0.warmed.alike hh0
  have hB0 := hB.mv X0.warmed.alike hh0
  have c1 : Steps p.tables e below (s₁.setTop (entryFrame m #[.ref a, .ref b] 3)) (s₁.setTop (mkF m 0 #[.val (.ref a), .val (.ref b), .unset] [])) := entry rfl
  have c2 : Steps p.tables e below (s₁.setTop (entryFrame m #[.ref a, .ref b] 3)) (s₁.setTop (mkF m 4 #[.val (.ref a), .val (.ref b), .unset] [.int (Int32.ofNat B.slots.size), .int (Int32.ofNat A.slots.size)])) := c1.trans (by
    refine XS.aloadN X0.here hexec rfl (hb hbytes d0) rfl rfl ?_
    refine X0.alen hexec hA0 rfl rfl (hb hbytes d1) ?_
    refine XS.aloadN X0.here hexec rfl (hb hbytes d2) rfl rfl ?_
    refine X0.alen hexec hB0 rfl rfl (hb hbytes d3) ?_
    exact Steps.refl _)
  by_cases hs : A.slots.size = B.slots.size
  · have c3 : Steps p.tables e below (s₁.setTop (entryFrame m #[.ref a, .ref b] 3)) (s₁.setTop (mkF m 9 #[.val (.ref a), .val (.ref b), .val (.int 0)] [])) := c2.trans (by
      refine XS.icmpNo X0.here hexec rfl (hb hbytes d4) rfl (ii_ne_f (by rw [hs])) ?_
      refine iconstV X0.here hexec rfl 0 (hb hbytes d7) (by decide) ?_
      refine XS.istoreN X0.here hexec rfl (hb hbytes d8) rfl rfl ?_
      exact Steps.refl _)
    have loop : ∀ (r i : Nat), i + r = A.slots.size → (∀ j, j < i → yv A j = yv B j) → Steps p.tables e below (s₁.setTop (entryFrame m #[.ref a, .ref b] 3)) (s₁.setTop (mkF m 9 #[.val (.ref a), .val (.ref b), .val (.int (Int32.ofNat i))] [])) → ∃ (pc : Nat) (Ls : Array Slot) (v : Int32), (pc = 25 ∨ pc = 33) ∧ ((v = 1 ∧ EqC A B) ∨ (v = 0 ∧ ¬ EqC A B)) ∧ Steps p.tables e below (s₁.setTop (entryFrame m #[.ref a, .ref b] 3)) (s₁.setTop (mkF m pc Ls [.int v])) := by
      intro r
      induction r with
      | zero =>
        intro i hi he cl
        exact ⟨33, _, 1, Or.inr rfl, Or.inl ⟨rfl, hs, fun j hj => he j (by omega)⟩, cl.trans (by
          refine XS.iloadN X0.here hexec rfl (hb hbytes d9) rfl ?_
          refine XS.aloadN X0.here hexec rfl (hb hbytes d10) rfl rfl ?_
          refine X0.alen hexec hA0 rfl rfl (hb hbytes d11) ?_
          refine XS.icmpYes X0.here hexec rfl (pc0 := 12) rfl (hb hbytes d12) rfl (ii_ge_t (nlt32 (by omega) (by omega))) (by decide) rfl ?_
          refine iconstV X0.here hexec rfl 1 (hb hbytes d32) (by decide) ?_
          exact Steps.refl _)⟩
      | succ r ih =>
        intro i hi he cl
        have c4 : Steps p.tables e below (s₁.setTop (entryFrame m #[.ref a, .ref b] 3)) (s₁.setTop (mkF m 21 #[.val (.ref a), .val (.ref b), .val (.int (Int32.ofNat i))] [.int (yv B i), .int (yv A i)])) := cl.trans (by
          refine XS.iloadN X0.here hexec rfl (hb hbytes d9) rfl ?_
          refine XS.aloadN X0.here hexec rfl (hb hbytes d10) rfl rfl ?_
          refine X0.alen hexec hA0 rfl rfl (hb hbytes d11) ?_
          refine XS.icmpNo X0.here hexec rfl (hb hbytes d12) rfl (ii_ge_f (lt32 (by omega) (by omega))) ?_
          refine XS.aloadN X0.here hexec rfl (hb hbytes d15) rfl rfl ?_
          refine XS.iloadN X0.here hexec rfl (hb hbytes d16) rfl ?_
          refine X0.aget hexec hA0 rfl (yv_get hA tA (i := i) (by omega)) rfl rfl (hb hbytes d17) ?_
          refine XS.aloadN X0.here hexec rfl (hb hbytes d18) rfl rfl ?_
          refine XS.iloadN X0.here hexec rfl (hb hbytes d19) rfl ?_
          refine X0.aget hexec hB0 rfl (yv_get hB tB (i := i) (by omega)) rfl rfl (hb hbytes d20) ?_
          exact Steps.refl _)
        by_cases hv : yv A i = yv B i
        · have c5 : Steps p.tables e below (s₁.setTop (entryFrame m #[.ref a, .ref b] 3)) (s₁.setTop (mkF m 9 #[.val (.ref a), .val (.ref b), .val (.int (Int32.ofNat i + 1))] [])) := c4.trans (by
            refine XS.icmpYes X0.here hexec rfl (pc0 := 21) rfl (hb hbytes d21) rfl (ii_eq_t hv) (by decide) rfl ?_
            refine iincV X0.here hexec rfl 1 (hb hbytes d26) (by decide) rfl rfl ?_
            refine XS.goto X0.here hexec rfl (pc0 := 29) rfl (hb hbytes d29) (by decide) rfl ?_
            exact Steps.refl _)
          rw [succ32] at c5
          exact ih (i + 1) (by omega) (fun j hj => by
            by_cases e : j = i
            · rw [e]; exact hv
            · exact he j (by omega)) c5
        · exact ⟨25, _, 0, Or.inl rfl, Or.inr ⟨rfl, fun q => hv (q.2 i (by omega))⟩, c4.trans (by
            refine XS.icmpNo X0.here hexec rfl (hb hbytes d21) rfl (ii_eq_f hv) ?_
            refine iconstV X0.here hexec rfl 0 (hb hbytes d24) (by decide) ?_
            exact Steps.refl _)⟩
    obtain ⟨pc, Ls, v, hpc, hv, cz⟩ := loop A.slots.size 0 (by omega) (fun j hj => absurd hj (Nat.not_lt_zero j)) c3
    have nv : narrow .boolean (.int v) = .int v := by rcases hv with ⟨rfl, -⟩ | ⟨rfl, -⟩ <;> rfl
    rcases hpc with rfl | rfl
    · exact ⟨s₁, some (.int v), _, _, _, X0, rfl, rfl, rfl, (fun h => by cases h), ⟨v, rfl, hh0, hv⟩, fun fs hl => cz.trans (X0.ireturnOut hexec hret nv (Or.inr (Or.inl rfl)) (hb hbytes d25) hl)⟩
    · exact ⟨s₁, some (.int v), _, _, _, X0, rfl, rfl, rfl, (fun h => by cases h), ⟨v, rfl, hh0, hv⟩, fun fs hl => cz.trans (X0.ireturnOut hexec hret nv (Or.inr (Or.inl rfl)) (hb hbytes d33) hl)⟩
  · have c3 : Steps p.tables e below (s₁.setTop (entryFrame m #[.ref a, .ref b] 3)) (s₁.setTop (mkF m 35 #[.val (.ref a), .val (.ref b), .unset] [.int 0])) := c2.trans (by
      refine XS.icmpYes X0.here hexec rfl (pc0 := 4) rfl (hb hbytes d4) rfl (ii_ne_t (ne32 a31 b31 hs)) (by decide) rfl ?_
      refine iconstV X0.here hexec rfl 0 (hb hbytes d34) (by decide) ?_
      exact Steps.refl _)
    exact ⟨s₁, some (.int 0), _, _, _, X0, rfl, rfl, rfl, (fun h => by cases h), ⟨0, rfl, hh0, Or.inr ⟨rfl, fun q => hs q.1⟩⟩, fun fs hl => c3.trans (X0.ireturnOut hexec hret rfl (Or.inr (Or.inl rfl)) (hb hbytes d35) hl)⟩
end LEq
theorem Cod.ty {cd : Int32} {n : Nat} {f : Nat → Int32} {V : Cell} (h : Cod cd n f V) : Typed .byte V := fun i v hv => by
  have hi : i < V.slots.size := (Array.getElem?_eq_some_iff.mp hv).1
  rcases h with ⟨-, k1, k2⟩ | ⟨-, k1, k2, -⟩
  · rw [(k2 i (by omega)).1] at hv; cases hv; exact fits_lo8 _
  · rcases Nat.mod_two_eq_zero_or_one i with e | e
    · obtain ⟨j, rfl⟩ : ∃ j, i = 2 * j := ⟨i / 2, by omega⟩
      rw [(k2 j (by omega)).1] at hv; cases hv; exact fits_lo8 _
    · obtain ⟨j, rfl⟩ : ∃ j, i = 2 * j + 1 := ⟨i / 2, by omega⟩
      rw [(k2 j (by omega)).2] at hv; cases hv; exact fits_lo8 _
/-- the same text -/
def SameT (n : Nat) (f : Nat → Int32) (k : Nat) (g : Nat → Int32) : Prop := n = k ∧ ∀ j, j < n → f j = g j
theorem lo8_inj {x y : Int32} (h0 : ¬ x < 0) (h1 : ¬ 255 < x) (k0 : ¬ y < 0) (k1 : ¬ 255 < y) (h : lo8 x = lo8 y) : x = y := by
  rw [← lo8_mask h0 h1, ← lo8_mask k0 k1, h]
/-- arrays coded by one coder are equal just where the texts are -/
theorem Cod.eqv {cd : Int32} {n k : Nat} {f g : Nat → Int32} {V V' : Cell} (h : Cod cd n f V) (h' : Cod cd k g V') (hf : ∀ j, j < n → ¬ f j < 0 ∧ ¬ 65535 < f j) (hg : ∀ j, j < k → ¬ g j < 0 ∧ ¬ 65535 < g j) : EqC V V' ↔ SameT n f k g := by
  have yvv : ∀ {W : Cell} {i : Nat} {x : Int32}, W.slots[i]? = some (.int x) → yv W i = x := fun q => by unfold yv; rw [q]
  rcases h with ⟨rfl, k1, k2⟩ | ⟨rfl, k1, k2, -⟩
  · rcases h' with ⟨-, m1, m2⟩ | ⟨e, -⟩
    · constructor
      · rintro ⟨e1, e2⟩
        refine ⟨by omega, fun j hj => ?_⟩
        have q := e2 j (by omega)
        rw [yvv (k2 j hj).1, yvv (m2 j (by omega)).1] at q
        exact lo8_inj (hf j hj).1 (k2 j hj).2 (hg j (by omega)).1 (m2 j (by omega)).2 q
      · rintro ⟨rfl, e2⟩
        refine ⟨by omega, fun j hj => ?_⟩
        rw [yvv (k2 j (by omega)).1, yvv (m2 j (by omega)).1, e2 j (by omega)]
    · exact absurd e (by decide)
  · rcases h' with ⟨e, -⟩ | ⟨-, m1, m2, -⟩
    · exact absurd e (by decide)
    · constructor
      · rintro ⟨e1, e2⟩
        refine ⟨by omega, fun j hj => ?_⟩
        have q1 := e2 (2 * j) (by omega)
        have q2 := e2 (2 * j + 1) (by omega)
        rw [yvv (k2 j hj).1, yvv (m2 j (by omega)).1] at q1
        rw [yvv (k2 j hj).2, yvv (m2 j (by omega)).2] at q2
        rw [← pair_says (hf j hj).1 (hf j hj).2, ← pair_says (hg j (by omega)).1 (hg j (by omega)).2, q1, q2]
      · rintro ⟨rfl, e2⟩
        refine ⟨by omega, fun i hi => ?_⟩
        rcases Nat.mod_two_eq_zero_or_one i with e | e
        · obtain ⟨j, rfl⟩ : ∃ j, i = 2 * j := ⟨i / 2, by omega⟩
          rw [yvv (k2 j (by omega)).1, yvv (m2 j (by omega)).1, e2 j (by omega)]
        · obtain ⟨j, rfl⟩ : ∃ j, i = 2 * j + 1 := ⟨i / 2, by omega⟩
          rw [yvv (k2 j (by omega)).2, yvv (m2 j (by omega)).2, e2 j (by omega)]
/-- two codings differ: so do the texts -/
theorem Cod.dif {cd cd' : Int32} {n k : Nat} {f g : Nat → Int32} {V V' : Cell} (h : Cod cd n f V) (h' : Cod cd' k g V') (hne : ¬ cd = cd') : ¬ SameT n f k g := by
  rintro ⟨rfl, e⟩
  rcases h with ⟨rfl, -, k2⟩ | ⟨rfl, -, -, j, hj, hw⟩
  · rcases h' with ⟨rfl, -⟩ | ⟨-, -, -, j, hj, hw⟩
    · exact hne rfl
    · exact (k2 j hj).2 (by rw [e j hj]; exact hw)
  · rcases h' with ⟨-, -, m2⟩ | ⟨rfl, -⟩
    · exact (m2 j hj).2 (by rw [← e j hj]; exact hw)
    · exact hne rfl
/-- an object of exactly C is an instance of C -/
theorem cinst {p : Program} {l : Launch} {e : Env} {R : Room} {s : State} {m : MethodId} {args : Array Value} {below : List Frame} {meth : Method} {c : Code} {T : State} {locs : List Loc} {cells slots : Nat} (X : Stand p l e R s m args below meth c T locs cells slots) (hexec : p.tables.exec = Jvm.exec) {own C : String} {index : Nat} (hown : s.vm.findClass own = some m.cls) (hlink : (Cond.classLink own index C).before args s = true) {a : Addr} (hE : Exact C a T)
    {g : JFrame} (hg : g.method = m) {rest : List Value} (hstack : g.stack = .ref a :: rest) (hdg : decode c.code g.pc = .ok (.instanceof index, 3)) :
    ∃ T', Stand p l e R s m args below meth c T' locs cells slots ∧ T'.heap = T.heap ∧ ∀ target, Steps p.tables e below (T'.setTop { g with pc := g.pc + 3, stack := .int 1 :: rest }) target → Steps p.tables e below (T.setTop g) target := by
  obtain ⟨cB, h1, D, h2, h3, h4⟩ := hE
  have h1' : s.vm.findClass C = some cB := by rw [← X.warmed.alike.findClass]; exact h1
  obtain ⟨vm', X', st⟩ := X.instanceofYes hexec hown hlink h2 h4 h1' (by rw [h3]; exact Jvm.Free.SB.assignable_self _ _) hg hstack hdg
  exact ⟨_, X', rfl, st⟩
theorem cself {p : Program} {l : Launch} {e : Env} {R : Room} {s : State} {m : MethodId} {args : Array Value} {below : List Frame} {meth : Method} {c : Code} {T : State} {locs : List Loc} {cells slots : Nat} (X : Stand p l e R s m args below meth c T locs cells slots) (hexec : p.tables.exec = Jvm.exec) {own C : String} {index : Nat} (hown : s.vm.findClass own = some m.cls) (hlink : (Cond.classLink own index C).before args s = true) {a : Addr} (hE : Exact C a T)
    {g : JFrame} (hg : g.method = m) {rest : List Value} (hstack : g.stack = .ref a :: rest) (hdg : decode c.code g.pc = .ok (.checkcast index, 3)) :
    ∃ T', Stand p l e R s m args below meth c T' locs cells slots ∧ T'.heap = T.heap ∧ ∀ target, Steps p.tables e below (T'.setTop { g with pc := g.pc + 3, stack := .ref a :: rest }) target → Steps p.tables e below (T.setTop g) target := by
  obtain ⟨cB, h1, D, h2, h3, h4⟩ := hE
  have h1' : s.vm.findClass C = some cB := by rw [← X.warmed.alike.findClass]; exact h1
  obtain ⟨vm', X', st⟩ := X.checkcastYes hexec hown hlink h2 h4 h1' (by rw [h3]; exact Jvm.Free.SB.assignable_self _ _) hg hstack hdg
  exact ⟨_, X', rfl, fun t h => st t (by rw [← hstack] at h; exact h)⟩
namespace SEq
def yN : MethodName := ⟨"java/lang/String", "equals", "(Ljava/lang/Object;)Z"⟩
abbrev yB : ByteArray := jdk_42_method_66_code
theorem d0 : decode yB 0 = .ok (.aload_n 0, 1) := by decide +kernel
theorem d1 : decode yB 1 = .ok (.aload_n 1, 1) := by decide +kernel
theorem d2 : decode yB 2 = .ok (.if_acmp (.ne) 5, 3) := by decide +kernel
theorem d5 : decode yB 5 = .ok (.iconst 1, 1) := by decide +kernel
theorem d6 : decode yB 6 = .ok (.ireturn, 1) := by decide +kernel
theorem d7 : decode yB 7 = .ok (.aload_n 1, 1) := by decide +kernel
theorem d8 : decode yB 8 = .ok (.instanceof 10, 3) := by decide +kernel
theorem d11 : decode yB 11 = .ok (.ifCond (.eq) 43, 3) := by decide +kernel
theorem d14 : decode yB 14 = .ok (.aload_n 1, 1) := by decide +kernel
theorem d15 : decode yB 15 = .ok (.checkcast 10, 3) := by decide +kernel
theorem d18 : decode yB 18 = .ok (.astore_n 2, 1) := by decide +kernel
theorem d19 : decode yB 19 = .ok (.getstatic 38, 3) := by decide +kernel
theorem d22 : decode yB 22 = .ok (.ifCond (.eq) 14, 3) := by decide +kernel
theorem d25 : decode yB 25 = .ok (.aload_n 0, 1) := by decide +kernel
theorem d26 : decode yB 26 = .ok (.getfield 15, 3) := by decide +kernel
theorem d29 : decode yB 29 = .ok (.aload_n 2, 1) := by decide +kernel
theorem d30 : decode yB 30 = .ok (.getfield 15, 3) := by decide +kernel
theorem d33 : decode yB 33 = .ok (.if_icmp (.ne) 21, 3) := by decide +kernel
theorem d36 : decode yB 36 = .ok (.aload_n 0, 1) := by decide +kernel
theorem d37 : decode yB 37 = .ok (.getfield 9, 3) := by decide +kernel
theorem d40 : decode yB 40 = .ok (.aload_n 2, 1) := by decide +kernel
theorem d41 : decode yB 41 = .ok (.getfield 9, 3) := by decide +kernel
theorem d44 : decode yB 44 = .ok (.invokestatic 541, 3) := by decide +kernel
theorem d47 : decode yB 47 = .ok (.ifCond (.eq) 7, 3) := by decide +kernel
theorem d50 : decode yB 50 = .ok (.iconst 1, 1) := by decide +kernel
theorem d51 : decode yB 51 = .ok (.goto 4, 3) := by decide +kernel
theorem d54 : decode yB 54 = .ok (.iconst 0, 1) := by decide +kernel
theorem d55 : decode yB 55 = .ok (.ireturn, 1) := by decide +kernel
def site : List Cond := [.classLink "java/lang/String" 10 "java/lang/String", .fieldLink "java/lang/String" 38 "java/lang/String" "COMPACT_STRINGS" "Z", .fieldLink "java/lang/String" 15 "java/lang/String" "coder" "B", .fieldLink "java/lang/String" 9 "java/lang/String" "value" "[B", LEq.tab] ++ staticW "java/lang/String" 541 LEq.yN
def tab : Cond := tabOf yN yB 3 (some .boolean) site
def P (x t : Addr) (V : Cell) (cd : Int32) (n : Nat) (f : Nat → Int32) (y t' : Addr) (V' : Cell) (cd' : Int32) (k : Nat) (g : Nat → Int32) (z : Int32) (args : Array Value) (s : State) : Prop := args = #[.ref x, .ref y] ∧ Txt x t V cd n f s ∧ Txt y t' V' cd' k g s ∧ StaticIs s "java/lang/String" "COMPACT_STRINGS" "Z" (.int z) ∧ ¬ z = 0
/-- equals(Object) of two Strings: whether the texts are the same -/
theorem law (l : Launch) (x t : Addr) (V : Cell) (cd : Int32) (n : Nat) (f : Nat → Int32) (y t' : Addr) (V' : Cell) (cd' : Int32) (k : Nat) (g : Nat → Int32) (z : Int32) : Law l yN 2 1 1 14 yB 3 (some .boolean) site (P x t V cd n f y t' V' cd' k g z) (Says01 (SameT n f k g)) [] 0 0 := by
  refine Law.of_walk (plainFor_of_name (by decide +kernel)) (by decide +kernel) (by decide +kernel) (by decide) (fun _ _ h => by rw [h.1]; rfl) (fun _ U U' hal hh h => ⟨h.1, h.2.1.mv hal hh, h.2.2.1.mv hal hh, h.2.2.2.1.there hal hh, h.2.2.2.2⟩) (fun r U U' V V' h1 hal h2 h => Says01.mv r U U' V V' h1 hal h2 h) ?_
  intro p e s m args below meth c s₁ X0 hexec hbytes hml hret hlk hnm hown hh0 W hP
  obtain ⟨rfl, hx, hy, s1, hz⟩ := hP
  have c1 : Steps p.tables e below (s₁.setTop (entryFrame m #[.ref x, .ref y] 3)) (s₁.setTop (mkF m 2 #[.val (.ref x), .val (.ref y), .unset] [.ref y, .ref x])) := Steps.trans (entry rfl) (by
    show Steps p.tables e below (s₁.setTop (mkF m 0 #[.val (.ref x), .val (.ref y), .unset] [])) _
    refine XS.aloadN X0.here hexec rfl (hb hbytes d0) rfl rfl ?_
    refine XS.aloadN X0.here hexec rfl (hb hbytes d1) rfl rfl ?_
    exact Steps.refl _)
  by_cases hxy : x = y
  · have c2 : Steps p.tables e below (s₁.setTop (entryFrame m #[.ref x, .ref y] 3)) (s₁.setTop (mkF m 6 #[.val (.ref x), .val (.ref y), .unset] [.int 1])) := c1.trans (by
      refine acmpNo X0.here hexec rfl (hb hbytes d2) rfl rfl rfl (by simp [acmp, hxy]) ?_
      refine iconstV X0.here hexec rfl 1 (hb hbytes d5) (by decide) ?_
      exact Steps.refl _)
    subst hxy
    have ec : cd = cd' := by
      obtain ⟨D, fd, a1, a2, a3⟩ := hx.2.2.1
      obtain ⟨D', fd', b1, b2, b3⟩ := hy.2.2.1
      cases a1.symm.trans b1
      obtain ⟨q1, q2, q3, q4⟩ := a2.1
      obtain ⟨r1, r2, r3, r4⟩ := b2.1
      cases q4.symm.trans r4
      cases a3.symm.trans b3; rfl
    have et : t = t' := by
      obtain ⟨D, fd, a1, a2, a3⟩ := hx.2.1
      obtain ⟨D', fd', b1, b2, b3⟩ := hy.2.1
      cases a1.symm.trans b1
      obtain ⟨q1, q2, q3, q4⟩ := a2.1
      obtain ⟨r1, r2, r3, r4⟩ := b2.1
      cases q4.symm.trans r4
      cases a3.symm.trans b3; rfl
    subst ec et
    have ev : V = V' := by cases hx.2.2.2.1.1.symm.trans hy.2.2.2.1.1; rfl
    subst ev
    have hs : SameT n f k g := (Cod.eqv hx.2.2.2.2.1 hy.2.2.2.2.1 hx.2.2.2.2.2 hy.2.2.2.2.2).mp ⟨rfl, fun _ _ => rfl⟩
    exact ⟨s₁, some (.int 1), _, _, _, X0, rfl, rfl, rfl, (fun h => by cases h), ⟨1, rfl, hh0, Or.inl ⟨rfl, hs⟩⟩, fun fs hl => c2.trans (X0.ireturnOut hexec hret rfl (Or.inr (Or.inl rfl)) (hb hbytes d6) hl)⟩
  · have c2 : Steps p.tables e below (s₁.setTop (entryFrame m #[.ref x, .ref y] 3)) (s₁.setTop (mkF m 8 #[.val (.ref x), .val (.ref y), .unset] [.ref y])) := c1.trans (by
      refine acmpYes X0.here hexec rfl (pc0 := 2) rfl (hb hbytes d2) rfl rfl rfl (by simp [acmp, hxy]) (by decide) rfl ?_
      refine XS.aloadN X0.here hexec rfl (hb hbytes d7) rfl rfl ?_
      exact Steps.refl _)
    obtain ⟨T3, X3, q3, st3⟩ := cinst X0 hexec hown (wk W (.classLink "java/lang/String" 10 "java/lang/String")) (hy.mv X0.warmed.alike hh0).1 (g := (mkF m 8 #[.val (.ref x), .val (.ref y), .unset] [.ref y])) rfl (rest := []) rfl (hb hbytes d8)
    have hh3 := q3.trans hh0
    have c4 : Steps p.tables e below (s₁.setTop (entryFrame m #[.ref x, .ref y] 3)) (T3.setTop (mkF m 15 #[.val (.ref x), .val (.ref y), .unset] [.ref y])) := (c2.trans (st3 _ (Steps.refl _))).trans (by
      refine XS.ifNo X3.here hexec rfl (hb hbytes d11) rfl (i0_eq_f (by decide)) ?_
      refine XS.aloadN X3.here hexec rfl (hb hbytes d14) rfl rfl ?_
      exact Steps.refl _)
    obtain ⟨T5, X5, q5, st5⟩ := cself X3 hexec hown (wk W (.classLink "java/lang/String" 10 "java/lang/String")) (hy.mv X3.warmed.alike hh3).1 (g := (mkF m 15 #[.val (.ref x), .val (.ref y), .unset] [.ref y])) rfl (rest := []) rfl (hb hbytes d15)
    have hh5 := q5.trans hh3
    have c6 : Steps p.tables e below (s₁.setTop (entryFrame m #[.ref x, .ref y] 3)) (T5.setTop (mkF m 19 #[.val (.ref x), .val (.ref y), .val (.ref y)] [])) := (c4.trans (st5 _ (Steps.refl _))).trans (by
      refine XS.astoreN X5.here hexec rfl (hb hbytes d18) rfl rfl rfl ?_
      exact Steps.refl _)
    obtain ⟨T7, X7, q7, st7⟩ := X5.sget hexec hown (wk W (.fieldLink "java/lang/String" 38 "java/lang/String" "COMPACT_STRINGS" "Z")) s1 (fun _ _ h => by rw [hh5]; exact h) (g := (mkF m 19 #[.val (.ref x), .val (.ref y), .val (.ref y)] [])) rfl (hb hbytes d19)
    have hh7 := q7.trans hh5
    have c8 : Steps p.tables e below (s₁.setTop (entryFrame m #[.ref x, .ref y] 3)) (T7.setTop (mkF m 26 #[.val (.ref x), .val (.ref y), .val (.ref y)] [.ref x])) := (c6.trans (st7 _ (Steps.refl _))).trans (by
      refine XS.ifNo X7.here hexec rfl (hb hbytes d22) rfl (i0_eq_f hz) ?_
      refine XS.aloadN X7.here hexec rfl (hb hbytes d25) rfl rfl ?_
      exact Steps.refl _)
    obtain ⟨T9, X9, q9, st9⟩ := X7.hget hexec hown (wk W (.fieldLink "java/lang/String" 15 "java/lang/String" "coder" "B")) (hx.mv X7.warmed.alike hh7).2.2.1 (g := (mkF m 26 #[.val (.ref x), .val (.ref y), .val (.ref y)] [.ref x])) rfl (rest := []) rfl (hb hbytes d26)
    have hh9 := q9.trans hh7
    have c10 : Steps p.tables e below (s₁.setTop (entryFrame m #[.ref x, .ref y] 3)) (T9.setTop (mkF m 30 #[.val (.ref x), .val (.ref y), .val (.ref y)] [.ref y, .int cd])) := (c8.trans (st9 _ (Steps.refl _))).trans (by
      refine XS.aloadN X9.here hexec rfl (hb hbytes d29) rfl rfl ?_
      exact Steps.refl _)
    obtain ⟨T11, X11, q11, st11⟩ := X9.hget hexec hown (wk W (.fieldLink "java/lang/String" 15 "java/lang/String" "coder" "B")) (hy.mv X9.warmed.alike hh9).2.2.1 (g := (mkF m 30 #[.val (.ref x), .val (.ref y), .val (.ref y)] [.ref y, .int cd])) rfl (rest := [.int cd]) rfl (hb hbytes d30)
    have hh11 := q11.trans hh9
    have c12 : Steps p.tables e below (s₁.setTop (entryFrame m #[.ref x, .ref y] 3)) (T11.setTop (mkF m 33 #[.val (.ref x), .val (.ref y), .val (.ref y)] [.int cd', .int cd])) := c10.trans (st11 _ (Steps.refl _))
    by_cases hcd : cd = cd'
    · subst hcd
      have c13 : Steps p.tables e below (s₁.setTop (entryFrame m #[.ref x, .ref y] 3)) (T11.setTop (mkF m 37 #[.val (.ref x), .val (.ref y), .val (.ref y)] [.ref x])) := c12.trans (by
        refine XS.icmpNo X11.here hexec rfl (hb hbytes d33) rfl (ii_ne_f rfl) ?_
        refine XS.aloadN X11.here hexec rfl (hb hbytes d36) rfl rfl ?_
        exact Steps.refl _)
      obtain ⟨T14, X14, q14, st14⟩ := X11.hget hexec hown (wk W (.fieldLink "java/lang/String" 9 "java/lang/String" "value" "[B")) (hx.mv X11.warmed.alike hh11).2.1 (g := (mkF m 37 #[.val (.ref x), .val (.ref y), .val (.ref y)] [.ref x])) rfl (rest := []) rfl (hb hbytes d37)
      have hh14 := q14.trans hh11
      have c15 : Steps p.tables e below (s₁.setTop (entryFrame m #[.ref x, .ref y] 3)) (T14.setTop (mkF m 41 #[.val (.ref x), .val (.ref y), .val (.ref y)] [.ref y, .ref t])) := (c13.trans (st14 _ (Steps.refl _))).trans (by
        refine XS.aloadN X14.here hexec rfl (hb hbytes d40) rfl rfl ?_
        exact Steps.refl _)
      obtain ⟨T16, X16, q16, st16⟩ := X14.hget hexec hown (wk W (.fieldLink "java/lang/String" 9 "java/lang/String" "value" "[B")) (hy.mv X14.warmed.alike hh14).2.1 (g := (mkF m 41 #[.val (.ref x), .val (.ref y), .val (.ref y)] [.ref y, .ref t])) rfl (rest := [.ref t]) rfl (hb hbytes d41)
      have hh16 := q16.trans hh14
      have c17 : Steps p.tables e below (s₁.setTop (entryFrame m #[.ref x, .ref y] 3)) (T16.setTop (mkF m 44 #[.val (.ref x), .val (.ref y), .val (.ref y)] [.ref t', .ref t])) := c15.trans (st16 _ (Steps.refl _))
      obtain ⟨v18, T18, X18, E18, g18⟩ := X16.callS hexec (LEq.law l t V t' V') hown (wks W (staticW "java/lang/String" 541 LEq.yN)) (wk W LEq.tab) (W := 0) (Nat.le_of_ble_eq_true rfl) (Nat.le_of_ble_eq_true rfl) (Nat.le_refl _) (Nat.le_refl _) (g := (mkF m 44 #[.val (.ref x), .val (.ref y), .val (.ref y)] [.ref t', .ref t])) rfl (by rw [hml]; rfl) c17 (argsL := [.ref t, .ref t']) (rest := []) rfl rfl (by show 2 * 0 + 0 ≤ _; decide) (hb hbytes d44) (⟨rfl, hx.2.2.2.1.mv X16.warmed.alike hh16, hx.2.2.2.2.1.ty, hy.2.2.2.1.mv X16.warmed.alike hh16, hy.2.2.2.2.1.ty⟩)
      obtain ⟨v, rfl, q18, hv⟩ := E18
      have iff := Cod.eqv hx.2.2.2.2.1 hy.2.2.2.2.1 hx.2.2.2.2.2 hy.2.2.2.2.2
      rcases hv with ⟨rfl, he⟩ | ⟨rfl, he⟩
      · have c19 : Steps p.tables e below (s₁.setTop (entryFrame m #[.ref x, .ref y] 3)) (T18.setTop (mkF m 55 #[.val (.ref x), .val (.ref y), .val (.ref y)] [.int 1])) := Steps.trans g18 (by
          refine XS.ifNo X18.here hexec rfl (hb hbytes d47) rfl (i0_eq_f (by decide)) ?_
          refine iconstV X18.here hexec rfl 1 (hb hbytes d50) (by decide) ?_
          refine XS.goto X18.here hexec rfl (pc0 := 51) rfl (hb hbytes d51) (by decide) rfl ?_
          exact Steps.refl _)
        exact ⟨T18, some (.int 1), _, _, _, X18, rfl, rfl, rfl, (fun h => by cases h), ⟨1, rfl, q18.trans hh16, Or.inl ⟨rfl, iff.mp he⟩⟩, fun fs hl => c19.trans (X18.ireturnOut hexec hret rfl (Or.inr (Or.inl rfl)) (hb hbytes d55) hl)⟩
      · have c19 : Steps p.tables e below (s₁.setTop (entryFrame m #[.ref x, .ref y] 3)) (T18.setTop (mkF m 55 #[.val (.ref x), .val (.ref y), .val (.ref y)] [.int 0])) := Steps.trans g18 (by
          refine XS.ifYes X18.here hexec rfl (pc0 := 47) rfl (hb hbytes d47) rfl (i0_eq_t rfl) (by decide) rfl ?_
          refine iconstV X18.here hexec rfl 0 (hb hbytes d54) (by decide) ?_
          exact Steps.refl _)
        exact ⟨T18, some (.int 0), _, _, _, X18, rfl, rfl, rfl, (fun h => by cases h), ⟨0, rfl, q18.trans hh16, Or.inr ⟨rfl, fun q => he (iff.mpr q)⟩⟩, fun fs hl => c19.trans (X18.ireturnOut hexec hret rfl (Or.inr (Or.inl rfl)) (hb hbytes d55) hl)⟩
    · have c13 : Steps p.tables e below (s₁.setTop (entryFrame m #[.ref x, .ref y] 3)) (T11.setTop (mkF m 55 #[.val (.ref x), .val (.ref y), .val (.ref y)] [.int 0])) := c12.trans (by
        refine XS.icmpYes X11.here hexec rfl (pc0 := 33) rfl (hb hbytes d33) rfl (ii_ne_t hcd) (by decide) rfl ?_
        refine iconstV X11.here hexec rfl 0 (hb hbytes d54) (by decide) ?_
        exact Steps.refl _)
      exact ⟨T11, some (.int 0), _, _, _, X11, rfl, rfl, rfl, (fun h => by cases h), ⟨0, rfl, hh11, Or.inr ⟨rfl, Cod.dif hx.2.2.2.2.1 hy.2.2.2.2.1 hcd⟩⟩, fun fs hl => c13.trans (X11.ireturnOut hexec hret rfl (Or.inr (Or.inl rfl)) (hb hbytes d55) hl)⟩
theorem pays {l : Launch} {R : Room} {p : Program} {e : Env} {below : List Frame} {s : State} {sargs : Array Value} {len W : Nat} (x t : Addr) (V : Cell) (cd : Int32) (n : Nat) (f : Nat → Int32) (y t' : Addr) (V' : Cell) (cd' : Int32) (k : Nat) (g : Nat → Int32) (z : Int32) (htab : tab.before sargs s = true) (hfr : 2 ≤ R.frames) (hlo : W + 28 ≤ R.locals) :
    Back l R p e below s sargs yN len W (fun A₁ a₁ => A₁.cells + 0 ≤ R.cells ∧ A₁.slots + 0 ≤ R.slots ∧ P x t V cd n f y t' V' cd' k g z a₁ A₁.U) (fun A₁ _ v₁ B₁ => Says01 (SameT n f k g) v₁ A₁.U B₁.U ∧ B₁.locs = A₁.locs ++ [] ∧ B₁.cells = A₁.cells + 0 ∧ B₁.slots = A₁.slots + 0) :=
  (law l x t V cd n f y t' V' cd' k g z).pays htab hfr (by omega)
end SEq
end StrChars
namespace StrChars.Road
open Jvm Sem ClassFile Op Lib Jvm.Stand Jvm.Free Jvm.Free.XT
open Jvm.Lib.Cold (StaticIs)
/-- the words of String.equals(Object) -/
abbrev wordsEq : List Jvm.Cond := [.code SEq.yN SEq.yB 3 (some .boolean), .initialized ST, .classLink ST 10 ST, .fieldLink ST 38 ST "COMPACT_STRINGS" "Z", .fieldLink ST 15 ST "coder" "B", .fieldLink ST 9 ST "value" "[B", .methodLink ST 541 LEq.yN, .static LEq.yN, .code LEq.yN LEq.yB 3 (some .boolean), .initialized "java/lang/StringLatin1"]
theorem tabEq_of {a : Array Value} {s : State} (h : ∀ w ∈ wordsEq, w.before a s = true) : SEq.tab.before a s = true := by
  have hl : LEq.tab.before a s = true := unparts (wk h (.code LEq.yN LEq.yB 3 (some .boolean))) (wks h (.initialized LEq.yN.cls :: LEq.site))
  have q := consq hl h
  exact unparts (wk q (.code SEq.yN SEq.yB 3 (some .boolean))) (wks q (.initialized SEq.yN.cls :: SEq.site))
theorem movedEq {Z s : State} {a0 args : Array Value} (hZ : Z.Warmed39 s.vm) (hw : ∀ d ∈ wordsEq, d.before a0 Z = true) : ∀ d ∈ wordsEq, d.before args s = true := fun d hd => by
  have t : ∀ d ∈ wordsEq, (d.onTables && d.keepsFace) = true := by decide +kernel
  exact RoadKit.mv hZ (hw d hd) (t d hd)
/-- the road's facts of a String, as the laws ask it -/
theorem txt_of {Z U : State} {a0 : Array Value} {kI : Nat} (wi : (Jvm.Cond.instantiable ST kI).before a0 Z = true) (al : Z.vm.Alike U.vm) {x t : Addr} {kb : ClassId} {cs : List Int32} {cd N2 : Int32} {vs : List Value} (E : RoadKit.Exa Z U.heap x ST) (V : RoadKit.Fld Z U.heap x ST "value" "[B" (.ref t)) (C : RoadKit.Fld Z U.heap x ST "coder" "B" (.int cd)) (K : RoadKit.Arv Z U.heap t kb .byte N2 vs (.int 0)) (hc : CodA cs cd N2 vs) (hb : ∀ c ∈ cs, ¬ c < 0 ∧ ¬ (65535 : Int32) < c) (l2 : cs.length ≤ 4000) :
    ∃ A, Txt x t A cd cs.length (fun j => cs.getD j 0) U := by
  obtain ⟨A, K1, K2, K3, K4, K5, K6⟩ := K
  have hcod := hc.cod (by omega) K3 K5
  obtain ⟨D, fV, fC, hB, F1, F2, g1, g2, -, -⟩ := strObj wi al E V C
  exact ⟨A, ⟨_, hB.2.2.1, D, hB.1, rfl, by cases q : D.vm <;> first | rfl | exact absurd q (hB.2.1.2 _)⟩, Has.of hB F1 g1, Has.of hB F2 g2, ⟨K1.1, State.isArrayOf_alike al K1.2.1, K1.2.2, by rcases hcod with ⟨-, q, -⟩ | ⟨-, q, -⟩ <;> omega⟩, hcod, fun j hj => by
    have e : cs.getD j 0 = cs[j] := by simp [List.getD_eq_getElem?_getD, hj]
    show ¬ cs.getD j 0 < 0 ∧ ¬ 65535 < cs.getD j 0
    rw [e]; exact hb _ (List.getElem_mem _)⟩
theorem same_list (cs ds : List Int32) : SameT cs.length (fun j => cs.getD j 0) ds.length (fun j => ds.getD j 0) ↔ cs = ds := by
  constructor
  · rintro ⟨e, q⟩
    refine List.ext_getElem e fun j h1 h2 => ?_
    have := q j h1
    simpa [List.getD_eq_getElem?_getD, h1, h2] using this
  · rintro rfl
    exact ⟨rfl, fun _ _ => rfl⟩
/-- **equals(Object) OF TWO SUCH STRINGS**: 1 just where the chars are the same -/
theorem eqW {p : Program} {l : Launch} {e : Env} {R : Room} {s : State} {args : Array Value} {below : List Frame} {len W : Nat} {Z : State} {a0 : Array Value} {h : Heap} (hZ : Z.Warmed39 s.vm) (hw : ∀ d ∈ wordsEq, d.before a0 Z = true) {kI : Nat} (wi : (Jvm.Cond.instantiable ST kI).before a0 Z = true)
    {x t : Addr} {kb : ClassId} {cs : List Int32} {cd N2 : Int32} {vs : List Value} (E : RoadKit.Exa Z h x ST) (V : RoadKit.Fld Z h x ST "value" "[B" (.ref t)) (C : RoadKit.Fld Z h x ST "coder" "B" (.int cd)) (K : RoadKit.Arv Z h t kb .byte N2 vs (.int 0)) (hc : CodA cs cd N2 vs) (hb : ∀ c ∈ cs, ¬ c < 0 ∧ ¬ (65535 : Int32) < c) (l2 : cs.length ≤ 4000)
    {y t' : Addr} {kb' : ClassId} {ds : List Int32} {cd' N2' : Int32} {vs' : List Value} (E' : RoadKit.Exa Z h y ST) (V' : RoadKit.Fld Z h y ST "value" "[B" (.ref t')) (C' : RoadKit.Fld Z h y ST "coder" "B" (.int cd')) (K' : RoadKit.Arv Z h t' kb' .byte N2' vs' (.int 0)) (hc' : CodA ds cd' N2' vs') (hb' : ∀ c ∈ ds, ¬ c < 0 ∧ ¬ (65535 : Int32) < c) (l2' : ds.length ≤ 4000)
    {z : Int32} (S : RoadKit.Sta Z h ST "COMPACT_STRINGS" "Z" (.int z)) (hz : ¬ z = 0) (hfr : 2 ≤ R.frames) (hlo : W + 28 ≤ R.locals) :
    Back l R p e below s args (⟨"java/lang/String", "equals", "(Ljava/lang/Object;)Z"⟩ : MethodName) len W (fun P a => a = #[.ref x, .ref y] ∧ P.U.heap = h ∧ P.cells + 0 ≤ R.cells ∧ P.slots + 0 ≤ R.slots)
      (fun P _ v B => ∃ L, (((v = some (.int 1) ∧ cs = ds) ∨ (v = some (.int 0) ∧ ¬ cs = ds)) ∧ L = [] ∧ B.U.heap = h) ∧ B.locs = P.locs ++ L ∧ B.cells = P.cells + 0 ∧ B.slots = P.slots + 0) := by
  intro m meth c P g ig mk a X hg hsize hdg hW hn hp'
  obtain ⟨rfl, rfl, r1, r2⟩ := hp'
  have al : Z.vm.Alike P.U.vm := hZ.alike.trans X.warmed.alike
  obtain ⟨A, hx⟩ := txt_of wi al E V C K hc hb l2
  obtain ⟨A', hy⟩ := txt_of wi al E' V' C' K' hc' hb' l2'
  obtain ⟨v, B, X', ⟨⟨w, hv, hh, hq⟩, hl, hk, hs⟩, st⟩ := SEq.pays x t A cd cs.length (fun j => cs.getD j 0) y t' A' cd' ds.length (fun j => ds.getD j 0) z (tabEq_of (movedEq hZ hw)) hfr hlo m meth c P g ig mk _ X hg hsize hdg hW hn ⟨r1, r2, rfl, hx, hy, sta_is al S, hz⟩
  refine ⟨v, B, X', ⟨[], ⟨?_, rfl, hh⟩, hl, hk, hs⟩, st⟩
  rcases hq with ⟨rfl, q⟩ | ⟨rfl, q⟩
  · exact Or.inl ⟨hv, (same_list cs ds).mp q⟩
  · exact Or.inr ⟨hv, fun e => q ((same_list cs ds).mpr e)⟩
end StrChars.Road
namespace StrChars.Road
open Jvm Sem ClassFile Op Lib Jvm.Stand Jvm.Free Jvm.Free.XT
open Jvm.Lib.Cold (StaticIs)
/-- what backV says of its String, as the contracts of this text ask it: cs's low bytes, coder 0 -/
theorem codOf {cs : List Int32} {n : Nat} (hn : cs.length = n) (hb : ∀ c ∈ cs, ¬ 255 < c) : CodA cs 0 (Int32.ofNat n) ((cs.map lo8).map Value.int) := Or.inl ⟨rfl, by rw [hn], by simp [List.map_map, Function.comp_def], hb⟩
end StrChars.Road
end Jvm.Pilot.@@N@@

namespace Jvm.Pilot.@@N@@
open Jvm Jvm.ClassFile Sem Op Lib Jvm.Free Jvm.Stand Jvm.LawKit Jvm.RoadKit Bundle Jvm.Pilot.@@N@@.Jvm.D
theorem own_safeN {Z : State} {EL : List (String × Nat)} {vm : Vm} {h h' : Heap} {x : Addr} (H : CHv Z EL vm h) (E : Ext h h') (hx : h.size ≤ x) : Safe Z EL vm h' x := fun B => Safe.new hx ((H.step fun _ _ _ q => E.2 _ _ q).2 _ B)
theorem own_since (s : State) (n : Nat) : s.Since s.vm n := (State.WarmedH.refl s).since n
theorem own_mono {s t : State} {o : Outcome} {L : List Loc} {k n k' n' : Nat} (h : ReturnedEndW s o t L k n) (hk : k ≤ k') (hn : n ≤ n') : ReturnedEndW s o t L k' n' := ⟨h.1, h.2.1, h.2.2.1, h.2.2.2.mono hk hn⟩
theorem own_EW {Z : State} {a0 : Array Value} (hw : ∀ d ∈ tables_1, d.before a0 Z = true) : EW Z a0 consts_1 := (EW.cons (hw _ (List.mem_of_getElem? (i := 37) rfl)) (by decide +kernel) (EW.cons (hw _ (List.mem_of_getElem? (i := 103) rfl)) (by decide +kernel) (EW.cons (hw _ (List.mem_of_getElem? (i := 104) rfl)) (by decide +kernel) (EW.cons (hw _ (List.mem_of_getElem? (i := 111) rfl)) (by decide +kernel) EW.nil))))
theorem own_wS {Z : State} {a0 : Array Value} (hw : ∀ d ∈ tables_1, d.before a0 Z = true) : ∀ a ∈ Bundle.stringAtoms, a.before a0 Z = true := fun d hd => by
  simp only [Bundle.stringAtoms, List.mem_cons, List.not_mem_nil, or_false] at hd
  rcases hd with rfl | rfl | rfl | rfl | rfl | rfl | rfl
  · exact (hw _ (List.mem_of_getElem? (i := 7) rfl))
  · exact (hw _ (List.mem_of_getElem? (i := 6) rfl))
  · exact (hw _ (List.mem_of_getElem? (i := 23) rfl))
  · exact (hw _ (List.mem_of_getElem? (i := 33) rfl))
  · exact (hw _ (List.mem_of_getElem? (i := 31) rfl))
  · exact (hw _ (List.mem_of_getElem? (i := 38) rfl))
  · exact (hw _ (List.mem_of_getElem? (i := 39) rfl))
theorem own_wNew {Z : State} {a0 : Array Value} (hw : ∀ d ∈ tables_1, d.before a0 Z = true) : ∀ d ∈ StrChars.Road.words, d.before a0 Z = true := fun d hd => hw d ((by decide +kernel : ∀ d ∈ StrChars.Road.words, d ∈ tables_1) d hd)
theorem own_wEq {Z : State} {a0 : Array Value} (hw : ∀ d ∈ tables_1, d.before a0 Z = true) : ∀ d ∈ StrChars.Road.wordsEq, d.before a0 Z = true := fun d hd => hw d ((by decide +kernel : ∀ d ∈ StrChars.Road.wordsEq, d ∈ tables_1) d hd)
theorem own_up {cs : List Int32} (h : ∀ c ∈ cs, ¬ c < 0 ∧ ¬ (255 : Int32) < c) : ∀ c ∈ cs, ¬ c < 0 ∧ ¬ (65535 : Int32) < c := fun c hc => ⟨(h c hc).1, fun q => (h c hc).2 (by rw [Int32.lt_iff_toInt_lt] at q ⊢; have e1 : (65535 : Int32).toInt = 65535 := rfl; have e2 : (255 : Int32).toInt = 255 := rfl; omega)⟩
def own_eqs (cs ds : List Int32) : Int32 := if cs = ds then 1 else 0
theorem own_fld {args : Array Value} {s : State} {t r : Term} {C n d : String} {a : Addr} {v : Value} (ht : t.eval args s none [] s = some (.ref a)) (hr : r.eval args s none [] s = some v) (h : (Jvm.Cond.eq (.field t C n d) r).value args s none s [] = some true) : s.fieldOf? a C n d = some v := by
  obtain ⟨x, y, h1, h2, hk, -⟩ := cmp_v (Or.inl h)
  have e1 : s.fieldOf? a C n d = some x := (fld_at ht).symm.trans h1
  cases hr.symm.trans h2
  rw [e1]
  simp only [Cond.value, h1, hr] at h
  cases x <;> cases v <;> simp_all [Kin, Value.isRef]
theorem own_eqv {args : Array Value} {s : State} {t r : Term} {v : Value} (hr : r.eval args s none [] s = some v) (h : (Jvm.Cond.eq t r).value args s none s [] = some true) : t.eval args s none [] s = some v := by
  obtain ⟨x, y, h1, h2, hk, -⟩ := cmp_v (Or.inl h)
  cases hr.symm.trans h2
  rw [h1]
  simp only [Cond.value, h1, hr] at h
  cases x <;> cases v <;> simp_all [Kin, Value.isRef]
theorem own_ey {cs ds : List Int32} (h : cs = ds) : ¬ own_eqs cs ds = 0 := by
  unfold own_eqs
  rw [if_pos h]; decide
theorem own_en {cs ds : List Int32} (h : ¬ cs = ds) : own_eqs cs ds = 0 := by
  unfold own_eqs
  rw [if_neg h]
theorem own_safe0 {Z : State} {a0 : Array Value} {EL : List (String × Nat)} {vm : Vm} {h : Heap} {x : Addr} (hZ : Z.Warmed39 vm) (wi : (Jvm.Cond.instantiable "java/lang/String" 4).before a0 Z = true) (E : Exa Z h x "java/lang/String") (F : Fld Z h x "java/lang/String" "value" "[B" .null) : Safe Z EL vm h x := fun B => by
  obtain ⟨p, -, u, a, -, q, hqa, G, hx⟩ := B
  obtain ⟨cS, ⟨⟨s1, s2, s3, ⟨cv, kv, iv, s4, s4'⟩, ⟨cc, kc, ic, s5, s5'⟩, s6, s7, s8, s9, s10, s11, s12, s13, s14, s15, s16⟩, hfS, hcS⟩, ⟨kS, k1, k2, k3⟩, hB, hbyt⟩ := G
  rcases hx with hx | hx
  · obtain ⟨cell, cf, k, i, f, e1, e2, e3, e4, e5, e6, e7⟩ := F
    obtain ⟨kv', z4⟩ := ff_back (U := Wst Z vm h) hZ.alike s4
    cases e2.symm.trans z4
    have s1' : h[q.sa]? = some q.sC := s1
    rw [← hx, e1] at s1'
    cases s1'
    rw [e7] at s8
    cases s8
  · obtain ⟨cell, k, e1, e2, e3, e4, e5⟩ := E
    have s10' : h[q.sd]? = some q.SA := s10
    rw [← hx, e1] at s10'
    cases s10'
    obtain ⟨-, k9, hk9, comp, hkind9⟩ := s11
    obtain ⟨c1, kk, f1, f2, f3, -⟩ := Cond.instantiable_spec wi
    cases e2.symm.trans f1
    obtain ⟨k', q1, q2⟩ := hZ.alike.2.2 _ _ f2
    have hk9' : vm.classes[q.SA.cls]? = some k9 := hk9
    have e9 : k9 = k' := Option.some.inj (hk9'.symm.trans q1)
    rw [e9, q2, f3] at hkind9
    cases hkind9
theorem own_c (x : Int32) : 0 ≤ (x.toUInt32.toUInt16.toUInt32.toInt32).toInt ∧ (x.toUInt32.toUInt16.toUInt32.toInt32).toInt < 65536 ∧ (0 ≤ x.toInt → x.toInt < 65536 → (x.toUInt32.toUInt16.toUInt32.toInt32).toInt = x.toInt) := by
  have := c_i2c x
  omega
theorem own_b {x : Int32} (h : 0 ≤ x.toInt ∧ x.toInt < 256) : ¬ x < 0 ∧ ¬ (255 : Int32) < x := by
  rw [Int32.lt_iff_toInt_lt, Int32.lt_iff_toInt_lt, show (0 : Int32).toInt = 0 from rfl, show (255 : Int32).toInt = 255 from rfl]
  omega
theorem own_bI (x : Int32) : ¬ ((x &&& (255 : Int32)).toUInt32.toUInt16.toUInt32.toInt32).toUInt32.toUInt16.toUInt32.toInt32 < 0 ∧ ¬ (255 : Int32) < ((x &&& (255 : Int32)).toUInt32.toUInt16.toUInt32.toInt32).toUInt32.toUInt16.toUInt32.toInt32 := by
  have e := c_mask x 255 8 (by decide) (by decide)
  have f := own_c (x &&& 255)
  have g := own_c ((x &&& (255 : Int32)).toUInt32.toUInt16.toUInt32.toInt32)
  exact own_b (by omega)
theorem own_bL (x : Int64) : ¬ ((x &&& (255 : Int64)).toInt32.toUInt32.toUInt16.toUInt32.toInt32).toUInt32.toUInt16.toUInt32.toInt32 < 0 ∧ ¬ (255 : Int32) < ((x &&& (255 : Int64)).toInt32.toUInt32.toUInt16.toUInt32.toInt32).toUInt32.toUInt16.toUInt32.toInt32 := by
  have e := c_maskL x 255 8 (by decide) (by decide)
  have e2 := c_l2i (x &&& 255)
  have r := rng32 (x &&& 255).toInt32
  have f := own_c (x &&& 255).toInt32
  have g := own_c ((x &&& (255 : Int64)).toInt32.toUInt32.toUInt16.toUInt32.toInt32)
  exact own_b (by omega)
theorem own_rem {x y : Int32} (h0 : 0 ≤ x.toInt) (h1 : 0 < y.toInt) : (x - x / y * y).toInt = x.toInt % y.toInt := by
  have hy : y ≠ -1 := fun e => by rw [e] at h1; exact absurd h1 (by decide)
  have d := (c_idiv x y y.toInt rfl hy).1 h0
  have m := c_imul (x / y) y
  have s := c_isub x (x / y * y)
  have r1 := rng32 (x / y * y)
  have r2 := rng32 (x - x / y * y)
  have r3 := rng32 x
  rw [d] at m
  have q := Int.emod_add_mul_ediv x.toInt y.toInt
  have q1 := Int.emod_nonneg x.toInt (Int.ne_of_gt h1)
  have q2 : x.toInt / y.toInt * y.toInt = y.toInt * (x.toInt / y.toInt) := Int.mul_comm _ _
  have q3 : 0 ≤ y.toInt * (x.toInt / y.toInt) := Int.mul_nonneg (Int.le_of_lt h1) (Int.ediv_nonneg h0 (Int.le_of_lt h1))
  rw [q2] at m
  generalize y.toInt * (x.toInt / y.toInt) = t at *
  omega
theorem own_n {cs : List Int32} (hl : cs.length ≤ 9) : (Int32.ofNat cs.length).toInt = cs.length ∧ (Int32.ofNat cs.length).toNatClampNeg = cs.length := by
  have e : (Int32.ofNat cs.length).toInt = cs.length := Int32.toInt_ofNat_of_lt (by omega)
  exact ⟨e, by simp only [Int32.toNatClampNeg, e]; rfl⟩
theorem own_pos {cs : List Int32} (hl : cs.length ≤ 9) (h : (0 : Int32) < Int32.ofNat cs.length) : 0 < cs.length := by
  rw [Int32.lt_iff_toInt_lt, (own_n hl).1, show (0 : Int32).toInt = 0 from rfl] at h
  omega
theorem own_nil {cs : List Int32} (hl : cs.length ≤ 9) (h : ¬ (0 : Int32) < Int32.ofNat cs.length) : cs = [] := by
  rw [Int32.lt_iff_toInt_lt, (own_n hl).1, show (0 : Int32).toInt = 0 from rfl] at h
  exact List.length_eq_zero_iff.mp (by omega)
theorem own_nz {cs : List Int32} (hl : cs.length ≤ 9) (h : (0 : Int32) < Int32.ofNat cs.length) : Int32.ofNat cs.length ≠ 0 := fun e => by
  rw [e] at h; exact absurd h (by decide)
theorem own_ix {cs : List Int32} (x : Int32) (hl : cs.length ≤ 9) (h : (0 : Int32) < Int32.ofNat cs.length) : ¬ ((x &&& (2147483647 : Int32)) - (x &&& (2147483647 : Int32)) / Int32.ofNat cs.length * Int32.ofNat cs.length) < 0 ∧ ((x &&& (2147483647 : Int32)) - (x &&& (2147483647 : Int32)) / Int32.ofNat cs.length * Int32.ofNat cs.length) < Int32.ofNat cs.length ∧ ((x &&& (2147483647 : Int32)) - (x &&& (2147483647 : Int32)) / Int32.ofNat cs.length * Int32.ofNat cs.length).toNatClampNeg < cs.length := by
  have p := own_pos hl h
  have e := c_mask x 2147483647 31 (by decide) (by decide)
  have n := own_n hl
  have r := own_rem (x := x &&& 2147483647) (y := Int32.ofNat cs.length) (by omega) (by omega)
  rw [n.1] at r
  have b1 := Int.emod_nonneg (x &&& 2147483647).toInt (show (cs.length : Int) ≠ 0 by omega)
  have b2 := Int.emod_lt_of_pos (x &&& 2147483647).toInt (show (0 : Int) < cs.length by omega)
  rw [Int32.lt_iff_toInt_lt, Int32.lt_iff_toInt_lt, r, n.1, show (0 : Int32).toInt = 0 from rfl]
  refine ⟨by omega, by omega, ?_⟩
  simp only [Int32.toNatClampNeg, r]
  omega
theorem own_hps {cs : List Int32} {x : Int32} (hp : ∀ c ∈ cs, ¬ c < 0 ∧ ¬ (255 : Int32) < c) (hx : ¬ x < 0 ∧ ¬ (255 : Int32) < x) (i : Nat) : ∀ c ∈ cs.set i x, ¬ c < 0 ∧ ¬ (255 : Int32) < c := fun c hc => by
  rcases List.mem_or_eq_of_mem_set hc with h | h
  · exact hp c h
  · rw [h]; exact hx
theorem own_4w (cs : List Int32) : (cs = ([(114 : Int32), (101 : Int32), (115 : Int32), (112 : Int32), (111 : Int32), (110 : Int32), (115 : Int32), (101 : Int32)] : List Int32)) ∨ (cs = ([(114 : Int32), (101 : Int32), (118 : Int32), (105 : Int32), (115 : Int32), (105 : Int32), (116 : Int32)] : List Int32)) ∨ (cs = ([(114 : Int32), (101 : Int32), (115 : Int32), (111 : Int32), (117 : Int32), (114 : Int32), (99 : Int32), (101 : Int32)] : List Int32)) ∨ (¬ cs = ([(114 : Int32), (101 : Int32), (115 : Int32), (112 : Int32), (111 : Int32), (110 : Int32), (115 : Int32), (101 : Int32)] : List Int32) ∧ ¬ cs = ([(114 : Int32), (101 : Int32), (118 : Int32), (105 : Int32), (115 : Int32), (105 : Int32), (116 : Int32)] : List Int32) ∧ ¬ cs = ([(114 : Int32), (101 : Int32), (115 : Int32), (111 : Int32), (117 : Int32), (114 : Int32), (99 : Int32), (101 : Int32)] : List Int32)) := by
  by_cases h0 : cs = ([(114 : Int32), (101 : Int32), (115 : Int32), (112 : Int32), (111 : Int32), (110 : Int32), (115 : Int32), (101 : Int32)] : List Int32)
  · exact Or.inl h0
  · by_cases h1 : cs = ([(114 : Int32), (101 : Int32), (118 : Int32), (105 : Int32), (115 : Int32), (105 : Int32), (116 : Int32)] : List Int32)
    · exact Or.inr (Or.inl h1)
    · by_cases h2 : cs = ([(114 : Int32), (101 : Int32), (115 : Int32), (111 : Int32), (117 : Int32), (114 : Int32), (99 : Int32), (101 : Int32)] : List Int32)
      · exact Or.inr (Or.inr (Or.inl h2))
      · exact Or.inr (Or.inr (Or.inr ⟨h0, h1, h2⟩))
theorem d3_0 : decode jdk_42_method_149_code 0 = .ok (.aload_n 0, 1) := by decide +kernel
theorem d3_1 : decode jdk_42_method_149_code 1 = .ok (.invokespecial 1, 3) := by decide +kernel
theorem d3_4 : decode jdk_42_method_149_code 4 = .ok (.iload_n 3, 1) := by decide +kernel
theorem d3_5 : decode jdk_42_method_149_code 5 = .ok (.ifCond .ne 22, 3) := by decide +kernel
theorem d3_8 : decode jdk_42_method_149_code 8 = .ok (.aload_n 0, 1) := by decide +kernel
theorem d3_9 : decode jdk_42_method_149_code 9 = .ok (.ldc 7, 2) := by decide +kernel
theorem d3_11 : decode jdk_42_method_149_code 11 = .ok (.getfield 9, 3) := by decide +kernel
theorem d3_14 : decode jdk_42_method_149_code 14 = .ok (.putfield 9, 3) := by decide +kernel
theorem d3_17 : decode jdk_42_method_149_code 17 = .ok (.aload_n 0, 1) := by decide +kernel
theorem d3_18 : decode jdk_42_method_149_code 18 = .ok (.ldc 7, 2) := by decide +kernel
theorem d3_20 : decode jdk_42_method_149_code 20 = .ok (.getfield 15, 3) := by decide +kernel
theorem d3_23 : decode jdk_42_method_149_code 23 = .ok (.putfield 15, 3) := by decide +kernel
theorem d3_26 : decode jdk_42_method_149_code 26 = .ok (.return_, 1) := by decide +kernel
theorem pn_java_lang_String : plainName "java/lang/String" = true := by first | (simp [plainName, overriddenIn]; done) | decide +kernel
theorem ef_3_e (m : MethodId) (x0 : Addr) (x1 : Addr) : entryFrame m #[(.ref x0), (.ref x1), (.int (0 : Int32)), (.int (0 : Int32)), .null] 6 = mkF m 0 #[.val (.ref x0), .val (.ref x1), .val (.int (0 : Int32)), .val (.int (0 : Int32)), .val .null, .unset] [] := by first | (simp [entryFrame, mkF, argsToLocals, Value.category]; done) | rfl
def Q3_e (Z : State) (a : Addr) (b : Addr) (h0 : Heap) (n0 : Nat) (v : Option Value) (h : Heap) (L : List Loc) : Prop := ∃ t1 : Addr, ∃ kb : ClassId, v = none ∧ Fr n0 L ∧ Keep h0 h [a] ∧ Fld Z h a "java/lang/String" "value" "[B" (.ref t1) ∧ Fld Z h a "java/lang/String" "coder" "B" (.int (0 : Int32)) ∧ Arv Z h t1 kb .byte (0 : Int32) [] (.int (0 : Int32))
set_option maxRecDepth 65536 in
set_option maxHeartbeats 40000000 in
theorem rm3_e (l : Launch) (Z : State) (a0 : Array Value) (hw : ∀ d ∈ tables_1, d.before a0 Z = true) (ws : List Jvm.Cond) (a : Addr) (b : Addr) (h0 : Heap) (n0 : Nat) (O0 : Old Z n0 h0) (E_a : Exa Z h0 a "java/lang/String") (F_v_a : Fld Z h0 a "java/lang/String" "value" "[B" .null) (F_c_a : Fld Z h0 a "java/lang/String" "coder" "B" (.int (0 : Int32))) (g_a : n0 ≤ a) :
    MetFree l (⟨"java/lang/String", "<init>", "([CIILjava/lang/Void;)V"⟩ : MethodName) (head1 (Jvm.Cond.code (⟨"java/lang/String", "<init>", "([CIILjava/lang/Void;)V"⟩ : MethodName) jdk_42_method_149_code 6 none :: ws) ({ frames := 1, cells := 4, slots := 8, locals := 12 } : Room)) (fun aA uU => aA = #[(.ref a), (.ref b), (.int (0 : Int32)), (.int (0 : Int32)), .null] ∧ Z.Warmed39 uU.vm ∧ uU.heap = h0 ∧ CHv Z consts_1 uU.vm h0) (fun _ _ _ _ _ => True) (fun _ uU oO uU' => ∃ vV lL, oO = .returned vV ∧ Q3_e Z a b  h0 n0 vV uU'.heap lL ∧ CHr Z consts_1 uU.vm uU.heap uU'.vm uU'.heap ∧ ReturnedEndW uU oO uU' lL ({ frames := 1, cells := 4, slots := 8, locals := 12 } : Room).cells ({ frames := 1, cells := 4, slots := 8, locals := 12 } : Room).slots) := by
  refine MetFree.of_bodySF (plainFor_of_name pn_java_lang_String) hisR ?_
  intro p e s m args below meth c s₁ Bd hml0 hP hK
  obtain ⟨rfl, hZ, hh, H0⟩ := hP
  have hx := Bd.exec
  have hby := Bd.bytes
  have hml : c.maxLocals = 6 := hml0
  have hown : s.vm.findClass "java/lang/String" = some m.cls := findClass_of_methodNamed Bd.named
  have hnm := (name_of_methodNamed Bd.named Bd.method).1
  have X0 : Stand p l e ({ frames := 1, cells := 4, slots := 8, locals := 12 } : Room) (s.setVm s.vm) m #[(.ref a), (.ref b), (.int (0 : Int32)), (.int (0 : Int32)), .null] below meth c s₁ [] 0 0 := Stand.of_body Bd
  have e0 : s₁.heap = h0 := by rw [← hh, Bd.state]; rfl
  have N0 := Fr.nil n0
  have O := O0
  have K := Keep.refl h0 [a]
  have hS : s.Since s.vm h0.size := own_since s _
  have hk : h0.size ≤ h0.size := Nat.le_refl _
  have C : CHr Z consts_1 s.vm h0 s.vm h0 := CHr.refl H0
  have hEL := own_EW hw
  have hSA := own_wS hw
  have pre0 : ∀ t, Steps p.tables e below (s₁.setTop (mkF m 0 #[.val (.ref a), .val (.ref b), .val (.int (0 : Int32)), .val (.int (0 : Int32)), .val .null, .unset] [])) t → Steps p.tables e below (s₁.setTop (entryFrame m #[(.ref a), (.ref b), (.int (0 : Int32)), (.int (0 : Int32)), .null] 6)) t := fun t k => castTop (ef_3_e m a b) k
  have sf_a := own_safe0 (EL := consts_1) hZ (hw _ (List.mem_of_getElem? (i := 6) rfl)) E_a F_v_a
  obtain ⟨T1, X1, e1, st1⟩ := initO X0 hx hZ hown (hw _ (List.mem_of_getElem? (i := 15) rfl)) (hw _ (List.mem_of_getElem? (i := 16) rfl)) (hw _ (List.mem_of_getElem? (i := 17) rfl)) e0 (g := (mkF m 1 #[.val (.ref a), .val (.ref b), .val (.int (0 : Int32)), .val (.int (0 : Int32)), .val .null, .unset] [(.ref a)])) rfl (by rw [hml]; rfl) rfl (hb hby d3_1) (by decide) (W := 0) (by show 2 * 0 + _ ≤ _; exact Nat.le_of_eq rfl) (by decide)
  obtain ⟨a2, T2, h2, kk2, b2, kb2, X2, e2, E2, hS, hk', hZ, hown, Ex2, Fc2, Fv2, Av2, -, -, R2, -, Sf2, st2⟩ := ldcCH X1 hx hZ hown (hw _ (List.mem_of_getElem? (i := 111) rfl)) hSA e1 hS hk hEL (List.mem_of_getElem? (i := 3) rfl) C.1 (vs := []) (z := (0 : Int32)) ⟨by decide +kernel, by decide +kernel⟩ (by decide) rfl (g := (mkF m 9 #[.val (.ref a), .val (.ref b), .val (.int (0 : Int32)), .val (.int (0 : Int32)), .val .null, .unset] [(.ref a)])) rfl (hb hby d3_9) (n := 0) (by decide +kernel) (by decide) (by decide) (by decide)
  have R := R2
  have sf_a := R.safe E_a.lt sf_a
  have C := C.trans R
  have hk := hk'
  have E_a := E_a.ext E2
  have F_v_a := F_v_a.ext E2
  have F_c_a := F_c_a.ext E2
  have O := O.ext E2
  have K := K.ext E2
  have ne_a_a2 := (Sf2 _ sf_a).1
  have ne_a_b2 := (Sf2 _ sf_a).2
  obtain ⟨T3, X3, e3, st3⟩ := getF X2 hx hZ hown (host := "") (Or.inl (hw _ (List.mem_of_getElem? (i := 32) rfl))) Via.refl e2 Fv2 (g := (mkF m 11 #[.val (.ref a), .val (.ref b), .val (.int (0 : Int32)), .val (.int (0 : Int32)), .val .null, .unset] [(.ref a2), (.ref a)])) rfl rfl (hb hby d3_11)
  obtain ⟨T4, h4, X4, e4, W4, st4⟩ := putF X3 hx hZ hown (host := "") (Or.inl (hw _ (List.mem_of_getElem? (i := 32) rfl))) Via.refl e3 F_v_a E_a (Or.inr ⟨(hw _ (List.mem_of_getElem? (i := 33) rfl)), rfl, hnm⟩) (hw _ (List.mem_of_getElem? (i := 6) rfl)) (ty := (.array .byte)) (by decide) rfl rfl (g := (mkF m 14 #[.val (.ref a), .val (.ref b), .val (.int (0 : Int32)), .val (.int (0 : Int32)), .val .null, .unset] [(.ref b2), (.ref a)])) rfl rfl (hb hby d3_14)
  have R := CHr.wr W4 sf_a C.1
  have sf_a := R.safe E_a.lt sf_a
  have C := C.trans R
  have F_v_a := F_v_a.same W4
  have hk := (by rw [W4.size]; exact hk : _ ≤ Array.size h4)
  have E_a := E_a.wr W4
  have F_c_a := F_c_a.other W4 (Or.inr (slot_ne (Or.inr (hw _ (List.mem_of_getElem? (i := 31) rfl))) (Or.inr (hw _ (List.mem_of_getElem? (i := 33) rfl))) (by decide) (t := .byte) (t' := (.array .byte)) (by decide) (by decide)))
  have Ex2 := Ex2.wr W4
  have Fc2 := Fc2.other W4 (Or.inl (Ne.symm ne_a_a2))
  have Fv2 := Fv2.other W4 (Or.inl (Ne.symm ne_a_a2))
  have Av2 := Av2.other W4 (Ne.symm ne_a_b2)
  have O := O.wr W4 g_a
  have K := K.wr W4 (Or.inl (List.mem_of_getElem? (i := 0) rfl))
  have N4 := Fr.snoc X4 N0 g_a
  obtain ⟨a5, T5, h5, kk5, b5, kb5, X5, e5, E5, hS, hk', hZ, hown, Ex5, Fc5, Fv5, Av5, -, -, R5, -, Sf5, st5⟩ := ldcCH X4 hx hZ hown (hw _ (List.mem_of_getElem? (i := 111) rfl)) hSA e4 hS hk hEL (List.mem_of_getElem? (i := 3) rfl) C.1 (vs := []) (z := (0 : Int32)) ⟨by decide +kernel, by decide +kernel⟩ (by decide) rfl (g := (mkF m 18 #[.val (.ref a), .val (.ref b), .val (.int (0 : Int32)), .val (.int (0 : Int32)), .val .null, .unset] [(.ref a)])) rfl (hb hby d3_18) (n := 0) (by decide +kernel) (by decide) (by decide) (by decide)
  have R := R5
  have sf_a := R.safe E_a.lt sf_a
  have C := C.trans R
  have hk := hk'
  have E_a := E_a.ext E5
  have F_v_a := F_v_a.ext E5
  have F_c_a := F_c_a.ext E5
  have Ex2 := Ex2.ext E5
  have Fc2 := Fc2.ext E5
  have Fv2 := Fv2.ext E5
  have Av2 := Av2.ext E5
  have O := O.ext E5
  have K := K.ext E5
  have ne_a_a5 := (Sf5 _ sf_a).1
  have ne_a_b5 := (Sf5 _ sf_a).2
  obtain ⟨T6, X6, e6, st6⟩ := getF X5 hx hZ hown (host := "") (Or.inl (hw _ (List.mem_of_getElem? (i := 30) rfl))) Via.refl e5 Fc5 (g := (mkF m 20 #[.val (.ref a), .val (.ref b), .val (.int (0 : Int32)), .val (.int (0 : Int32)), .val .null, .unset] [(.ref a5), (.ref a)])) rfl rfl (hb hby d3_20)
  obtain ⟨T7, h7, X7, e7, W7, st7⟩ := putFN X6 hx hZ hown (hw _ (List.mem_of_getElem? (i := 30) rfl)) Via.refl e6 F_c_a E_a (Or.inr ⟨(hw _ (List.mem_of_getElem? (i := 31) rfl)), rfl, hnm⟩) (hw _ (List.mem_of_getElem? (i := 6) rfl)) (ty := .byte) (v' := (.int (0 : Int32))) (by decide) rfl rfl (g := (mkF m 23 #[.val (.ref a), .val (.ref b), .val (.int (0 : Int32)), .val (.int (0 : Int32)), .val .null, .unset] [(.int (0 : Int32)), (.ref a)])) rfl rfl (hb hby d3_23)
  have R := CHr.wr W7 sf_a C.1
  have sf_a := R.safe E_a.lt sf_a
  have C := C.trans R
  have F_c_a := F_c_a.same W7
  have hk := (by rw [W7.size]; exact hk : _ ≤ Array.size h7)
  have E_a := E_a.wr W7
  have F_v_a := F_v_a.other W7 (Or.inr (slot_ne (Or.inr (hw _ (List.mem_of_getElem? (i := 33) rfl))) (Or.inr (hw _ (List.mem_of_getElem? (i := 31) rfl))) (by decide) (t := (.array .byte)) (t' := .byte) (by decide) (by decide)))
  have Ex2 := Ex2.wr W7
  have Fc2 := Fc2.other W7 (Or.inl (Ne.symm ne_a_a2))
  have Fv2 := Fv2.other W7 (Or.inl (Ne.symm ne_a_a2))
  have Av2 := Av2.other W7 (Ne.symm ne_a_b2)
  have Ex5 := Ex5.wr W7
  have Fc5 := Fc5.other W7 (Or.inl (Ne.symm ne_a_a5))
  have Fv5 := Fv5.other W7 (Or.inl (Ne.symm ne_a_a5))
  have Av5 := Av5.other W7 (Ne.symm ne_a_b5)
  have O := O.wr W7 g_a
  have K := K.wr W7 (Or.inl (List.mem_of_getElem? (i := 0) rfl))
  have N7 := Fr.snoc X7 N4 g_a
  have w8 : ∀ t, Steps p.tables e below (T7.setTop (mkF m 26 #[.val (.ref a), .val (.ref b), .val (.int (0 : Int32)), .val (.int (0 : Int32)), .val .null, .unset] [])) t → Steps p.tables e below (s₁.setTop (entryFrame m #[(.ref a), (.ref b), (.int (0 : Int32)), (.int (0 : Int32)), .null] 6)) t := fun t k => by
    refine pre0 t ?_
    refine XS.aloadN X0.here hx rfl (hb hby d3_0) rfl rfl ?_
    show Steps p.tables e below (s₁.setTop (mkF m 1 #[.val (.ref a), .val (.ref b), .val (.int (0 : Int32)), .val (.int (0 : Int32)), .val .null, .unset] [(.ref a)])) _
    refine st1 _ ?_
    show Steps p.tables e below (T1.setTop (mkF m 4 #[.val (.ref a), .val (.ref b), .val (.int (0 : Int32)), .val (.int (0 : Int32)), .val .null, .unset] [])) _
    refine XS.iloadN X1.here hx rfl (hb hby d3_4) rfl ?_
    show Steps p.tables e below (T1.setTop (mkF m 5 #[.val (.ref a), .val (.ref b), .val (.int (0 : Int32)), .val (.int (0 : Int32)), .val .null, .unset] [(.int (0 : Int32))])) _
    refine XS.ifNo X1.here hx rfl (hb hby d3_5) rfl ((if0 _ _).trans (teq (rfl : (0 : Int32) = (0 : Int32))).2) ?_
    show Steps p.tables e below (T1.setTop (mkF m 8 #[.val (.ref a), .val (.ref b), .val (.int (0 : Int32)), .val (.int (0 : Int32)), .val .null, .unset] [])) _
    refine XS.aloadN X1.here hx rfl (hb hby d3_8) rfl rfl ?_
    show Steps p.tables e below (T1.setTop (mkF m 9 #[.val (.ref a), .val (.ref b), .val (.int (0 : Int32)), .val (.int (0 : Int32)), .val .null, .unset] [(.ref a)])) _
    refine st2 _ ?_
    show Steps p.tables e below (T2.setTop (mkF m 11 #[.val (.ref a), .val (.ref b), .val (.int (0 : Int32)), .val (.int (0 : Int32)), .val .null, .unset] [(.ref a2), (.ref a)])) _
    refine st3 _ ?_
    show Steps p.tables e below (T3.setTop (mkF m 14 #[.val (.ref a), .val (.ref b), .val (.int (0 : Int32)), .val (.int (0 : Int32)), .val .null, .unset] [(.ref b2), (.ref a)])) _
    refine st4 _ ?_
    show Steps p.tables e below (T4.setTop (mkF m 17 #[.val (.ref a), .val (.ref b), .val (.int (0 : Int32)), .val (.int (0 : Int32)), .val .null, .unset] [])) _
    refine XS.aloadN X4.here hx rfl (hb hby d3_17) rfl rfl ?_
    show Steps p.tables e below (T4.setTop (mkF m 18 #[.val (.ref a), .val (.ref b), .val (.int (0 : Int32)), .val (.int (0 : Int32)), .val .null, .unset] [(.ref a)])) _
    refine st5 _ ?_
    show Steps p.tables e below (T5.setTop (mkF m 20 #[.val (.ref a), .val (.ref b), .val (.int (0 : Int32)), .val (.int (0 : Int32)), .val .null, .unset] [(.ref a5), (.ref a)])) _
    refine st6 _ ?_
    show Steps p.tables e below (T6.setTop (mkF m 23 #[.val (.ref a), .val (.ref b), .val (.int (0 : Int32)), .val (.int (0 : Int32)), .val .null, .unset] [(.int (0 : Int32)), (.ref a)])) _
    refine st7 _ ?_
    show Steps p.tables e below (T7.setTop (mkF m 26 #[.val (.ref a), .val (.ref b), .val (.int (0 : Int32)), .val (.int (0 : Int32)), .val .null, .unset] [])) _
    exact k
  obtain ⟨fs, hr, hrun, hended, hE⟩ := Stand.leaveW (s := s) (vm₁ := T5.vm) X7 hS (by rw [e7]; exact hk) (v := none) (fun _ => rfl)
  refine ⟨_, _, w8 _ ?_, hrun, hended, _, _, rfl, ?_, ?_, own_mono hE (by decide) (by decide)⟩
  · exact X7.returnOut hx Bd.returns (hb hby d3_26) hr
  · show Q3_e Z a b  h0 n0 _ T7.heap _
    rw [e7]
    exact ⟨b2, kb2, rfl, N7, K, F_v_a, F_c_a, Av2⟩
  · rw [hh]; show CHr Z consts_1 s.vm h0 T7.vm T7.heap; rw [e7]; exact C.trans (CHv.at X7 hZ hEL C.1)
theorem d2_0 : decode jdk_42_method_3_code 0 = .ok (.aload_n 0, 1) := by decide +kernel
theorem d2_1 : decode jdk_42_method_3_code 1 = .ok (.aload_n 1, 1) := by decide +kernel
theorem d2_2 : decode jdk_42_method_3_code 2 = .ok (.iconst 0, 1) := by decide +kernel
theorem d2_3 : decode jdk_42_method_3_code 3 = .ok (.aload_n 1, 1) := by decide +kernel
theorem d2_4 : decode jdk_42_method_3_code 4 = .ok (.arraylength, 1) := by decide +kernel
theorem d2_5 : decode jdk_42_method_3_code 5 = .ok (.aconst_null, 1) := by decide +kernel
theorem d2_6 : decode jdk_42_method_3_code 6 = .ok (.invokespecial 27, 3) := by decide +kernel
theorem pd__40_91CIILjava_47lang_47Void_59_41V : parseMethodDescriptor "([CIILjava/lang/Void;)V" = some ⟨[(.array .char), .int, .int, (.object "java/lang/Void")], none⟩ := by decide +kernel
theorem d2_9 : decode jdk_42_method_3_code 9 = .ok (.return_, 1) := by decide +kernel
theorem ef_2_e (m : MethodId) (x0 : Addr) (x1 : Addr) : entryFrame m #[(.ref x0), (.ref x1)] 2 = mkF m 0 #[.val (.ref x0), .val (.ref x1)] [] := by first | (simp [entryFrame, mkF, argsToLocals, Value.category]; done) | rfl
def Q2_e (Z : State) (a : Addr) (b : Addr) (kc : ClassId) (h0 : Heap) (n0 : Nat) (v : Option Value) (h : Heap) (L : List Loc) : Prop := ∃ t1 : Addr, ∃ kb : ClassId, v = none ∧ Fr n0 L ∧ Keep h0 h [a] ∧ Fld Z h a "java/lang/String" "value" "[B" (.ref t1) ∧ Fld Z h a "java/lang/String" "coder" "B" (.int (0 : Int32)) ∧ Arv Z h t1 kb .byte (0 : Int32) [] (.int (0 : Int32))
set_option maxRecDepth 65536 in
set_option maxHeartbeats 40000000 in
theorem rm2_e (l : Launch) (Z : State) (a0 : Array Value) (hw : ∀ d ∈ tables_1, d.before a0 Z = true) (ws : List Jvm.Cond) (a : Addr) (b : Addr) (kc : ClassId) (h0 : Heap) (n0 : Nat) (O0 : Old Z n0 h0) (E_a : Exa Z h0 a "java/lang/String") (F_v_a : Fld Z h0 a "java/lang/String" "value" "[B" .null) (F_c_a : Fld Z h0 a "java/lang/String" "coder" "B" (.int (0 : Int32))) (V_b : Arv Z h0 b kc .char (0 : Int32) [] (.int (0 : Int32))) (g_a : n0 ≤ a) :
    MetFree l (⟨"java/lang/String", "<init>", "([C)V"⟩ : MethodName) (head1 (Jvm.Cond.code (⟨"java/lang/String", "<init>", "([C)V"⟩ : MethodName) jdk_42_method_3_code 2 none :: ws) ({ frames := 2, cells := 4, slots := 8, locals := 29 } : Room)) (fun aA uU => aA = #[(.ref a), (.ref b)] ∧ Z.Warmed39 uU.vm ∧ uU.heap = h0 ∧ CHv Z consts_1 uU.vm h0) (fun _ _ _ _ _ => True) (fun _ uU oO uU' => ∃ vV lL, oO = .returned vV ∧ Q2_e Z a b kc  h0 n0 vV uU'.heap lL ∧ CHr Z consts_1 uU.vm uU.heap uU'.vm uU'.heap ∧ ReturnedEndW uU oO uU' lL ({ frames := 2, cells := 4, slots := 8, locals := 29 } : Room).cells ({ frames := 2, cells := 4, slots := 8, locals := 29 } : Room).slots) := by
  refine MetFree.of_bodySF (plainFor_of_name pn_java_lang_String) hisR ?_
  intro p e s m args below meth c s₁ Bd hml0 hP hK
  obtain ⟨rfl, hZ, hh, H0⟩ := hP
  have hx := Bd.exec
  have hby := Bd.bytes
  have hml : c.maxLocals = 2 := hml0
  have hown : s.vm.findClass "java/lang/String" = some m.cls := findClass_of_methodNamed Bd.named
  have hnm := (name_of_methodNamed Bd.named Bd.method).1
  have X0 : Stand p l e ({ frames := 2, cells := 4, slots := 8, locals := 29 } : Room) (s.setVm s.vm) m #[(.ref a), (.ref b)] below meth c s₁ [] 0 0 := Stand.of_body Bd
  have e0 : s₁.heap = h0 := by rw [← hh, Bd.state]; rfl
  have N0 := Fr.nil n0
  have O := O0
  have K := Keep.refl h0 [a]
  have hS : s.Since s.vm h0.size := own_since s _
  have hk : h0.size ≤ h0.size := Nat.le_refl _
  have C : CHr Z consts_1 s.vm h0 s.vm h0 := CHr.refl H0
  have hEL := own_EW hw
  have hSA := own_wS hw
  have pre0 : ∀ t, Steps p.tables e below (s₁.setTop (mkF m 0 #[.val (.ref a), .val (.ref b)] [])) t → Steps p.tables e below (s₁.setTop (entryFrame m #[(.ref a), (.ref b)] 2)) t := fun t k => castTop (ef_2_e m a b) k
  obtain ⟨cl1, Ar1, -, Z1, N1, -, -⟩ := id V_b
  have w2 : ∀ t, Steps p.tables e below (s₁.setTop (mkF m 6 #[.val (.ref a), .val (.ref b)] [.null, (.int (0 : Int32)), (.int (0 : Int32)), (.ref b), (.ref a)])) t → Steps p.tables e below (s₁.setTop (entryFrame m #[(.ref a), (.ref b)] 2)) t := fun t k => by
    refine pre0 t ?_
    refine XS.aloadN X0.here hx rfl (hb hby d2_0) rfl rfl ?_
    show Steps p.tables e below (s₁.setTop (mkF m 1 #[.val (.ref a), .val (.ref b)] [(.ref a)])) _
    refine XS.aloadN X0.here hx rfl (hb hby d2_1) rfl rfl ?_
    show Steps p.tables e below (s₁.setTop (mkF m 2 #[.val (.ref a), .val (.ref b)] [(.ref b), (.ref a)])) _
    refine XS.iconst X0.here hx rfl (hb hby d2_2) ?_
    show Steps p.tables e below (s₁.setTop (mkF m 3 #[.val (.ref a), .val (.ref b)] [(.int (0 : Int32)), (.ref b), (.ref a)])) _
    refine XS.aloadN X0.here hx rfl (hb hby d2_3) rfl rfl ?_
    show Steps p.tables e below (s₁.setTop (mkF m 4 #[.val (.ref a), .val (.ref b)] [(.ref b), (.int (0 : Int32)), (.ref b), (.ref a)])) _
    refine X0.arraylength hx (by rw [e0]; exact Ar1.1) (State.isArrayOf_alike hZ.alike Ar1.2.1) (g := (mkF m 4 #[.val (.ref a), .val (.ref b)] [(.ref b), (.int (0 : Int32)), (.ref b), (.ref a)])) rfl rfl (hb hby d2_4) _ ?_
    rw [len_of Z1 N1]
    show Steps p.tables e below (s₁.setTop (mkF m 5 #[.val (.ref a), .val (.ref b)] [(.int (0 : Int32)), (.int (0 : Int32)), (.ref b), (.ref a)])) _
    refine XS.aconstNull X0.here hx rfl (hb hby d2_5) ?_
    show Steps p.tables e below (s₁.setTop (mkF m 6 #[.val (.ref a), .val (.ref b)] [.null, (.int (0 : Int32)), (.int (0 : Int32)), (.ref b), (.ref a)])) _
    exact k
  have ne_b_a : b ≠ a := (Ne.symm (Exa.neArv E_a V_b (hw _ (List.mem_of_getElem? (i := 6) rfl))))
  obtain ⟨_, _, ⟨T3, L3, k3, n3⟩, -, X3, sn3, gr3, ⟨Lc3, hQ3, l3, y3, z3, R3⟩, st3⟩ := X0.specialBackS hx (y := (⟨"java/lang/String", "<init>", "([CIILjava/lang/Void;)V"⟩ : MethodName)) rfl hown (mvT hZ (hw _ (List.mem_of_getElem? (i := 11) rfl))) (mvT hZ (hw _ (List.mem_of_getElem? (i := 12) rfl))) (mvT hZ (hw _ (List.mem_of_getElem? (i := 14) rfl))) (by decide) (backOfSH (W := 0) (rm3_e l Z a0 hw [] a b h0 n0 O E_a F_v_a F_c_a g_a) hZ (hw _ (List.mem_of_getElem? (i := 14) rfl)) (hw _ (List.mem_of_getElem? (i := 7) rfl)) (by decide) (by decide) hEL C.1) (g := (mkF m 6 #[.val (.ref a), .val (.ref b)] [.null, (.int (0 : Int32)), (.int (0 : Int32)), (.ref b), (.ref a)])) rfl (by rw [hml]; rfl) (Steps.refl _) (a := a) (argsL := [(.ref b), (.int (0 : Int32)), (.int (0 : Int32)), .null]) (rest := []) (lenOf pd__40_91CIILjava_47lang_47Void_59_41V rfl) rfl (by show 2 * 0 + _ ≤ _; exact Nat.le_of_eq rfl) (hb hby d2_6) (fun _ _ => ⟨rfl, e0, (by decide : 0 + 4 ≤ _), (by decide : 0 + 8 ≤ _)⟩)
  dsimp only [Pt.U, Pt.locs, Pt.cells, Pt.slots] at X3 l3 y3 z3 st3 hQ3 sn3 gr3 R3
  subst l3 y3 z3
  obtain ⟨X3, hS, hZ, hown⟩ := rebS hS (by rw [e0]; exact hk) X3 sn3 gr3 hZ hown
  obtain ⟨t1_3, kb_3, rfl, N3q, K3, F_v_a_c3, F_c_a_c3, V_t_c3⟩ := hQ3
  have N3 := Fr.app N0 N3q
  have R := R3
  have C := C.trans R
  have hk : T3.heap.size ≤ T3.heap.size := Nat.le_refl _
  have E_a := E_a.keep K3
  have V_b := V_b.keep K3 (ninS ne_b_a nin0)
  have O := O.keep K3 (allS g_a all0)
  have K := K.trans K3 (allS (Or.inl (List.mem_of_getElem? (i := 0) rfl)) all0)
  have w4 : ∀ t, Steps p.tables e below (T3.setTop (mkF m 9 #[.val (.ref a), .val (.ref b)] [])) t → Steps p.tables e below (s₁.setTop (entryFrame m #[(.ref a), (.ref b)] 2)) t := fun t k => by
    refine w2 t ?_
    refine st3.trans ?_
    show Steps p.tables e below (T3.setTop (mkF m 9 #[.val (.ref a), .val (.ref b)] [])) _
    exact k
  obtain ⟨fs, hr, hrun, hended, hE⟩ := Stand.leaveW (s := s) (vm₁ := T3.vm) X3 hS (by exact hk) (v := none) (fun _ => rfl)
  refine ⟨_, _, w4 _ ?_, hrun, hended, _, _, rfl, ?_, ?_, own_mono hE (by decide) (by decide)⟩
  · exact X3.returnOut hx Bd.returns (hb hby d2_9) hr
  · show Q2_e Z a b kc  h0 n0 _ T3.heap _
    exact ⟨t1_3, kb_3, rfl, N3, K, F_v_a_c3, F_c_a_c3, V_t_c3⟩
  · rw [hh]; show CHr Z consts_1 s.vm h0 T3.vm T3.heap; exact C.trans (CHv.at X3 hZ hEL C.1)
theorem d1_0 : decode method_4_code 0 = .ok (.iload_n 0, 1) := by decide +kernel
theorem d1_1 : decode method_4_code 1 = .ok (.ifCond .ne 50, 3) := by decide +kernel
theorem d1_4 : decode method_4_code 4 = .ok (.bipush 8, 2) := by decide +kernel
theorem d1_6 : decode method_4_code 6 = .ok (.newarray .char, 2) := by decide +kernel
theorem d1_8 : decode method_4_code 8 = .ok (.dup, 1) := by decide +kernel
theorem d1_9 : decode method_4_code 9 = .ok (.iconst 0, 1) := by decide +kernel
theorem d1_10 : decode method_4_code 10 = .ok (.bipush 114, 2) := by decide +kernel
theorem d1_12 : decode method_4_code 12 = .ok (.castore, 1) := by decide +kernel
theorem d1_13 : decode method_4_code 13 = .ok (.dup, 1) := by decide +kernel
theorem d1_14 : decode method_4_code 14 = .ok (.iconst 1, 1) := by decide +kernel
theorem d1_15 : decode method_4_code 15 = .ok (.bipush 101, 2) := by decide +kernel
theorem d1_17 : decode method_4_code 17 = .ok (.castore, 1) := by decide +kernel
theorem d1_18 : decode method_4_code 18 = .ok (.dup, 1) := by decide +kernel
theorem d1_19 : decode method_4_code 19 = .ok (.iconst 2, 1) := by decide +kernel
theorem d1_20 : decode method_4_code 20 = .ok (.bipush 115, 2) := by decide +kernel
theorem d1_22 : decode method_4_code 22 = .ok (.castore, 1) := by decide +kernel
theorem d1_23 : decode method_4_code 23 = .ok (.dup, 1) := by decide +kernel
theorem d1_24 : decode method_4_code 24 = .ok (.iconst 3, 1) := by decide +kernel
theorem d1_25 : decode method_4_code 25 = .ok (.bipush 112, 2) := by decide +kernel
theorem d1_27 : decode method_4_code 27 = .ok (.castore, 1) := by decide +kernel
theorem d1_28 : decode method_4_code 28 = .ok (.dup, 1) := by decide +kernel
theorem d1_29 : decode method_4_code 29 = .ok (.iconst 4, 1) := by decide +kernel
theorem d1_30 : decode method_4_code 30 = .ok (.bipush 111, 2) := by decide +kernel
theorem d1_32 : decode method_4_code 32 = .ok (.castore, 1) := by decide +kernel
theorem d1_33 : decode method_4_code 33 = .ok (.dup, 1) := by decide +kernel
theorem d1_34 : decode method_4_code 34 = .ok (.iconst 5, 1) := by decide +kernel
theorem d1_35 : decode method_4_code 35 = .ok (.bipush 110, 2) := by decide +kernel
theorem d1_37 : decode method_4_code 37 = .ok (.castore, 1) := by decide +kernel
theorem d1_38 : decode method_4_code 38 = .ok (.dup, 1) := by decide +kernel
theorem d1_39 : decode method_4_code 39 = .ok (.bipush 6, 2) := by decide +kernel
theorem d1_41 : decode method_4_code 41 = .ok (.bipush 115, 2) := by decide +kernel
theorem d1_43 : decode method_4_code 43 = .ok (.castore, 1) := by decide +kernel
theorem d1_44 : decode method_4_code 44 = .ok (.dup, 1) := by decide +kernel
theorem d1_45 : decode method_4_code 45 = .ok (.bipush 7, 2) := by decide +kernel
theorem d1_47 : decode method_4_code 47 = .ok (.bipush 101, 2) := by decide +kernel
theorem d1_49 : decode method_4_code 49 = .ok (.castore, 1) := by decide +kernel
theorem d1_50 : decode method_4_code 50 = .ok (.areturn, 1) := by decide +kernel
theorem d1_51 : decode method_4_code 51 = .ok (.iload_n 0, 1) := by decide +kernel
theorem d1_52 : decode method_4_code 52 = .ok (.iconst 1, 1) := by decide +kernel
theorem d1_53 : decode method_4_code 53 = .ok (.if_icmp .ne 44, 3) := by decide +kernel
theorem d1_56 : decode method_4_code 56 = .ok (.bipush 7, 2) := by decide +kernel
theorem d1_58 : decode method_4_code 58 = .ok (.newarray .char, 2) := by decide +kernel
theorem d1_60 : decode method_4_code 60 = .ok (.dup, 1) := by decide +kernel
theorem d1_61 : decode method_4_code 61 = .ok (.iconst 0, 1) := by decide +kernel
theorem d1_62 : decode method_4_code 62 = .ok (.bipush 114, 2) := by decide +kernel
theorem d1_64 : decode method_4_code 64 = .ok (.castore, 1) := by decide +kernel
theorem d1_65 : decode method_4_code 65 = .ok (.dup, 1) := by decide +kernel
theorem d1_66 : decode method_4_code 66 = .ok (.iconst 1, 1) := by decide +kernel
theorem d1_67 : decode method_4_code 67 = .ok (.bipush 101, 2) := by decide +kernel
theorem d1_69 : decode method_4_code 69 = .ok (.castore, 1) := by decide +kernel
theorem d1_70 : decode method_4_code 70 = .ok (.dup, 1) := by decide +kernel
theorem d1_71 : decode method_4_code 71 = .ok (.iconst 2, 1) := by decide +kernel
theorem d1_72 : decode method_4_code 72 = .ok (.bipush 118, 2) := by decide +kernel
theorem d1_74 : decode method_4_code 74 = .ok (.castore, 1) := by decide +kernel
theorem d1_75 : decode method_4_code 75 = .ok (.dup, 1) := by decide +kernel
theorem d1_76 : decode method_4_code 76 = .ok (.iconst 3, 1) := by decide +kernel
theorem d1_77 : decode method_4_code 77 = .ok (.bipush 105, 2) := by decide +kernel
theorem d1_79 : decode method_4_code 79 = .ok (.castore, 1) := by decide +kernel
theorem d1_80 : decode method_4_code 80 = .ok (.dup, 1) := by decide +kernel
theorem d1_81 : decode method_4_code 81 = .ok (.iconst 4, 1) := by decide +kernel
theorem d1_82 : decode method_4_code 82 = .ok (.bipush 115, 2) := by decide +kernel
theorem d1_84 : decode method_4_code 84 = .ok (.castore, 1) := by decide +kernel
theorem d1_85 : decode method_4_code 85 = .ok (.dup, 1) := by decide +kernel
theorem d1_86 : decode method_4_code 86 = .ok (.iconst 5, 1) := by decide +kernel
theorem d1_87 : decode method_4_code 87 = .ok (.bipush 105, 2) := by decide +kernel
theorem d1_89 : decode method_4_code 89 = .ok (.castore, 1) := by decide +kernel
theorem d1_90 : decode method_4_code 90 = .ok (.dup, 1) := by decide +kernel
theorem d1_91 : decode method_4_code 91 = .ok (.bipush 6, 2) := by decide +kernel
theorem d1_93 : decode method_4_code 93 = .ok (.bipush 116, 2) := by decide +kernel
theorem d1_95 : decode method_4_code 95 = .ok (.castore, 1) := by decide +kernel
theorem d1_96 : decode method_4_code 96 = .ok (.areturn, 1) := by decide +kernel
theorem d1_97 : decode method_4_code 97 = .ok (.iload_n 0, 1) := by decide +kernel
theorem d1_98 : decode method_4_code 98 = .ok (.iconst 2, 1) := by decide +kernel
theorem d1_99 : decode method_4_code 99 = .ok (.if_icmp .ne 50, 3) := by decide +kernel
theorem d1_102 : decode method_4_code 102 = .ok (.bipush 8, 2) := by decide +kernel
theorem d1_104 : decode method_4_code 104 = .ok (.newarray .char, 2) := by decide +kernel
theorem d1_106 : decode method_4_code 106 = .ok (.dup, 1) := by decide +kernel
theorem d1_107 : decode method_4_code 107 = .ok (.iconst 0, 1) := by decide +kernel
theorem d1_108 : decode method_4_code 108 = .ok (.bipush 114, 2) := by decide +kernel
theorem d1_110 : decode method_4_code 110 = .ok (.castore, 1) := by decide +kernel
theorem d1_111 : decode method_4_code 111 = .ok (.dup, 1) := by decide +kernel
theorem d1_112 : decode method_4_code 112 = .ok (.iconst 1, 1) := by decide +kernel
theorem d1_113 : decode method_4_code 113 = .ok (.bipush 101, 2) := by decide +kernel
theorem d1_115 : decode method_4_code 115 = .ok (.castore, 1) := by decide +kernel
theorem d1_116 : decode method_4_code 116 = .ok (.dup, 1) := by decide +kernel
theorem d1_117 : decode method_4_code 117 = .ok (.iconst 2, 1) := by decide +kernel
theorem d1_118 : decode method_4_code 118 = .ok (.bipush 115, 2) := by decide +kernel
theorem d1_120 : decode method_4_code 120 = .ok (.castore, 1) := by decide +kernel
theorem d1_121 : decode method_4_code 121 = .ok (.dup, 1) := by decide +kernel
theorem d1_122 : decode method_4_code 122 = .ok (.iconst 3, 1) := by decide +kernel
theorem d1_123 : decode method_4_code 123 = .ok (.bipush 111, 2) := by decide +kernel
theorem d1_125 : decode method_4_code 125 = .ok (.castore, 1) := by decide +kernel
theorem d1_126 : decode method_4_code 126 = .ok (.dup, 1) := by decide +kernel
theorem d1_127 : decode method_4_code 127 = .ok (.iconst 4, 1) := by decide +kernel
theorem d1_128 : decode method_4_code 128 = .ok (.bipush 117, 2) := by decide +kernel
theorem d1_130 : decode method_4_code 130 = .ok (.castore, 1) := by decide +kernel
theorem d1_131 : decode method_4_code 131 = .ok (.dup, 1) := by decide +kernel
theorem d1_132 : decode method_4_code 132 = .ok (.iconst 5, 1) := by decide +kernel
theorem d1_133 : decode method_4_code 133 = .ok (.bipush 114, 2) := by decide +kernel
theorem d1_135 : decode method_4_code 135 = .ok (.castore, 1) := by decide +kernel
theorem d1_136 : decode method_4_code 136 = .ok (.dup, 1) := by decide +kernel
theorem d1_137 : decode method_4_code 137 = .ok (.bipush 6, 2) := by decide +kernel
theorem d1_139 : decode method_4_code 139 = .ok (.bipush 99, 2) := by decide +kernel
theorem d1_141 : decode method_4_code 141 = .ok (.castore, 1) := by decide +kernel
theorem d1_142 : decode method_4_code 142 = .ok (.dup, 1) := by decide +kernel
theorem d1_143 : decode method_4_code 143 = .ok (.bipush 7, 2) := by decide +kernel
theorem d1_145 : decode method_4_code 145 = .ok (.bipush 101, 2) := by decide +kernel
theorem d1_147 : decode method_4_code 147 = .ok (.castore, 1) := by decide +kernel
theorem d1_148 : decode method_4_code 148 = .ok (.areturn, 1) := by decide +kernel
theorem d1_149 : decode method_4_code 149 = .ok (.iload_n 0, 1) := by decide +kernel
theorem d1_150 : decode method_4_code 150 = .ok (.iconst 3, 1) := by decide +kernel
theorem d1_151 : decode method_4_code 151 = .ok (.if_icmp .ne 60, 3) := by decide +kernel
theorem d1_154 : decode method_4_code 154 = .ok (.bipush 9, 2) := by decide +kernel
theorem d1_156 : decode method_4_code 156 = .ok (.newarray .char, 2) := by decide +kernel
theorem d1_158 : decode method_4_code 158 = .ok (.dup, 1) := by decide +kernel
theorem d1_159 : decode method_4_code 159 = .ok (.iconst 0, 1) := by decide +kernel
theorem d1_160 : decode method_4_code 160 = .ok (.bipush 114, 2) := by decide +kernel
theorem d1_162 : decode method_4_code 162 = .ok (.castore, 1) := by decide +kernel
theorem d1_163 : decode method_4_code 163 = .ok (.dup, 1) := by decide +kernel
theorem d1_164 : decode method_4_code 164 = .ok (.iconst 1, 1) := by decide +kernel
theorem d1_165 : decode method_4_code 165 = .ok (.bipush 101, 2) := by decide +kernel
theorem d1_167 : decode method_4_code 167 = .ok (.castore, 1) := by decide +kernel
theorem d1_168 : decode method_4_code 168 = .ok (.dup, 1) := by decide +kernel
theorem d1_169 : decode method_4_code 169 = .ok (.iconst 2, 1) := by decide +kernel
theorem d1_170 : decode method_4_code 170 = .ok (.bipush 115, 2) := by decide +kernel
theorem d1_172 : decode method_4_code 172 = .ok (.castore, 1) := by decide +kernel
theorem d1_173 : decode method_4_code 173 = .ok (.dup, 1) := by decide +kernel
theorem d1_174 : decode method_4_code 174 = .ok (.iconst 3, 1) := by decide +kernel
theorem d1_175 : decode method_4_code 175 = .ok (.bipush 112, 2) := by decide +kernel
theorem d1_177 : decode method_4_code 177 = .ok (.castore, 1) := by decide +kernel
theorem d1_178 : decode method_4_code 178 = .ok (.dup, 1) := by decide +kernel
theorem d1_179 : decode method_4_code 179 = .ok (.iconst 4, 1) := by decide +kernel
theorem d1_180 : decode method_4_code 180 = .ok (.bipush 111, 2) := by decide +kernel
theorem d1_182 : decode method_4_code 182 = .ok (.castore, 1) := by decide +kernel
theorem d1_183 : decode method_4_code 183 = .ok (.dup, 1) := by decide +kernel
theorem d1_184 : decode method_4_code 184 = .ok (.iconst 5, 1) := by decide +kernel
theorem d1_185 : decode method_4_code 185 = .ok (.bipush 110, 2) := by decide +kernel
theorem d1_187 : decode method_4_code 187 = .ok (.castore, 1) := by decide +kernel
theorem d1_188 : decode method_4_code 188 = .ok (.dup, 1) := by decide +kernel
theorem d1_189 : decode method_4_code 189 = .ok (.bipush 6, 2) := by decide +kernel
theorem d1_191 : decode method_4_code 191 = .ok (.bipush 115, 2) := by decide +kernel
theorem d1_193 : decode method_4_code 193 = .ok (.castore, 1) := by decide +kernel
theorem d1_194 : decode method_4_code 194 = .ok (.dup, 1) := by decide +kernel
theorem d1_195 : decode method_4_code 195 = .ok (.bipush 7, 2) := by decide +kernel
theorem d1_197 : decode method_4_code 197 = .ok (.bipush 101, 2) := by decide +kernel
theorem d1_199 : decode method_4_code 199 = .ok (.castore, 1) := by decide +kernel
theorem d1_200 : decode method_4_code 200 = .ok (.dup, 1) := by decide +kernel
theorem d1_201 : decode method_4_code 201 = .ok (.bipush 8, 2) := by decide +kernel
theorem d1_203 : decode method_4_code 203 = .ok (.iload_n 3, 1) := by decide +kernel
theorem d1_204 : decode method_4_code 204 = .ok (.sipush 255, 3) := by decide +kernel
theorem d1_207 : decode method_4_code 207 = .ok (.iand, 1) := by decide +kernel
theorem d1_208 : decode method_4_code 208 = .ok (.i2c, 1) := by decide +kernel
theorem d1_209 : decode method_4_code 209 = .ok (.castore, 1) := by decide +kernel
theorem d1_210 : decode method_4_code 210 = .ok (.areturn, 1) := by decide +kernel
theorem d1_211 : decode method_4_code 211 = .ok (.iload_n 0, 1) := by decide +kernel
theorem d1_212 : decode method_4_code 212 = .ok (.iconst 4, 1) := by decide +kernel
theorem d1_213 : decode method_4_code 213 = .ok (.if_icmp .ne 44, 3) := by decide +kernel
theorem d1_216 : decode method_4_code 216 = .ok (.bipush 7, 2) := by decide +kernel
theorem d1_218 : decode method_4_code 218 = .ok (.newarray .char, 2) := by decide +kernel
theorem d1_220 : decode method_4_code 220 = .ok (.dup, 1) := by decide +kernel
theorem d1_221 : decode method_4_code 221 = .ok (.iconst 0, 1) := by decide +kernel
theorem d1_222 : decode method_4_code 222 = .ok (.bipush 114, 2) := by decide +kernel
theorem d1_224 : decode method_4_code 224 = .ok (.castore, 1) := by decide +kernel
theorem d1_225 : decode method_4_code 225 = .ok (.dup, 1) := by decide +kernel
theorem d1_226 : decode method_4_code 226 = .ok (.iconst 1, 1) := by decide +kernel
theorem d1_227 : decode method_4_code 227 = .ok (.bipush 101, 2) := by decide +kernel
theorem d1_229 : decode method_4_code 229 = .ok (.castore, 1) := by decide +kernel
theorem d1_230 : decode method_4_code 230 = .ok (.dup, 1) := by decide +kernel
theorem d1_231 : decode method_4_code 231 = .ok (.iconst 2, 1) := by decide +kernel
theorem d1_232 : decode method_4_code 232 = .ok (.bipush 115, 2) := by decide +kernel
theorem d1_234 : decode method_4_code 234 = .ok (.castore, 1) := by decide +kernel
theorem d1_235 : decode method_4_code 235 = .ok (.dup, 1) := by decide +kernel
theorem d1_236 : decode method_4_code 236 = .ok (.iconst 3, 1) := by decide +kernel
theorem d1_237 : decode method_4_code 237 = .ok (.bipush 112, 2) := by decide +kernel
theorem d1_239 : decode method_4_code 239 = .ok (.castore, 1) := by decide +kernel
theorem d1_240 : decode method_4_code 240 = .ok (.dup, 1) := by decide +kernel
theorem d1_241 : decode method_4_code 241 = .ok (.iconst 4, 1) := by decide +kernel
theorem d1_242 : decode method_4_code 242 = .ok (.bipush 111, 2) := by decide +kernel
theorem d1_244 : decode method_4_code 244 = .ok (.castore, 1) := by decide +kernel
theorem d1_245 : decode method_4_code 245 = .ok (.dup, 1) := by decide +kernel
theorem d1_246 : decode method_4_code 246 = .ok (.iconst 5, 1) := by decide +kernel
theorem d1_247 : decode method_4_code 247 = .ok (.bipush 110, 2) := by decide +kernel
theorem d1_249 : decode method_4_code 249 = .ok (.castore, 1) := by decide +kernel
theorem d1_250 : decode method_4_code 250 = .ok (.dup, 1) := by decide +kernel
theorem d1_251 : decode method_4_code 251 = .ok (.bipush 6, 2) := by decide +kernel
theorem d1_253 : decode method_4_code 253 = .ok (.bipush 115, 2) := by decide +kernel
theorem d1_255 : decode method_4_code 255 = .ok (.castore, 1) := by decide +kernel
theorem d1_256 : decode method_4_code 256 = .ok (.areturn, 1) := by decide +kernel
theorem d1_257 : decode method_4_code 257 = .ok (.iload_n 0, 1) := by decide +kernel
theorem d1_258 : decode method_4_code 258 = .ok (.iconst 5, 1) := by decide +kernel
theorem d1_259 : decode method_4_code 259 = .ok (.if_icmp .ne 111, 3) := by decide +kernel
theorem d1_262 : decode method_4_code 262 = .ok (.bipush 8, 2) := by decide +kernel
theorem d1_264 : decode method_4_code 264 = .ok (.newarray .char, 2) := by decide +kernel
theorem d1_266 : decode method_4_code 266 = .ok (.dup, 1) := by decide +kernel
theorem d1_267 : decode method_4_code 267 = .ok (.iconst 0, 1) := by decide +kernel
theorem d1_268 : decode method_4_code 268 = .ok (.lload_n 1, 1) := by decide +kernel
theorem d1_269 : decode method_4_code 269 = .ok (.ldc2_w 59, 3) := by decide +kernel
theorem d1_272 : decode method_4_code 272 = .ok (.land, 1) := by decide +kernel
theorem d1_273 : decode method_4_code 273 = .ok (.l2i, 1) := by decide +kernel
theorem d1_274 : decode method_4_code 274 = .ok (.i2c, 1) := by decide +kernel
theorem d1_275 : decode method_4_code 275 = .ok (.castore, 1) := by decide +kernel
theorem d1_276 : decode method_4_code 276 = .ok (.dup, 1) := by decide +kernel
theorem d1_277 : decode method_4_code 277 = .ok (.iconst 1, 1) := by decide +kernel
theorem d1_278 : decode method_4_code 278 = .ok (.lload_n 1, 1) := by decide +kernel
theorem d1_279 : decode method_4_code 279 = .ok (.bipush 8, 2) := by decide +kernel
theorem d1_281 : decode method_4_code 281 = .ok (.lushr, 1) := by decide +kernel
theorem d1_282 : decode method_4_code 282 = .ok (.ldc2_w 59, 3) := by decide +kernel
theorem d1_285 : decode method_4_code 285 = .ok (.land, 1) := by decide +kernel
theorem d1_286 : decode method_4_code 286 = .ok (.l2i, 1) := by decide +kernel
theorem d1_287 : decode method_4_code 287 = .ok (.i2c, 1) := by decide +kernel
theorem d1_288 : decode method_4_code 288 = .ok (.castore, 1) := by decide +kernel
theorem d1_289 : decode method_4_code 289 = .ok (.dup, 1) := by decide +kernel
theorem d1_290 : decode method_4_code 290 = .ok (.iconst 2, 1) := by decide +kernel
theorem d1_291 : decode method_4_code 291 = .ok (.lload_n 1, 1) := by decide +kernel
theorem d1_292 : decode method_4_code 292 = .ok (.bipush 16, 2) := by decide +kernel
theorem d1_294 : decode method_4_code 294 = .ok (.lushr, 1) := by decide +kernel
theorem d1_295 : decode method_4_code 295 = .ok (.ldc2_w 59, 3) := by decide +kernel
theorem d1_298 : decode method_4_code 298 = .ok (.land, 1) := by decide +kernel
theorem d1_299 : decode method_4_code 299 = .ok (.l2i, 1) := by decide +kernel
theorem d1_300 : decode method_4_code 300 = .ok (.i2c, 1) := by decide +kernel
theorem d1_301 : decode method_4_code 301 = .ok (.castore, 1) := by decide +kernel
theorem d1_302 : decode method_4_code 302 = .ok (.dup, 1) := by decide +kernel
theorem d1_303 : decode method_4_code 303 = .ok (.iconst 3, 1) := by decide +kernel
theorem d1_304 : decode method_4_code 304 = .ok (.lload_n 1, 1) := by decide +kernel
theorem d1_305 : decode method_4_code 305 = .ok (.bipush 24, 2) := by decide +kernel
theorem d1_307 : decode method_4_code 307 = .ok (.lushr, 1) := by decide +kernel
theorem d1_308 : decode method_4_code 308 = .ok (.ldc2_w 59, 3) := by decide +kernel
theorem d1_311 : decode method_4_code 311 = .ok (.land, 1) := by decide +kernel
theorem d1_312 : decode method_4_code 312 = .ok (.l2i, 1) := by decide +kernel
theorem d1_313 : decode method_4_code 313 = .ok (.i2c, 1) := by decide +kernel
theorem d1_314 : decode method_4_code 314 = .ok (.castore, 1) := by decide +kernel
theorem d1_315 : decode method_4_code 315 = .ok (.dup, 1) := by decide +kernel
theorem d1_316 : decode method_4_code 316 = .ok (.iconst 4, 1) := by decide +kernel
theorem d1_317 : decode method_4_code 317 = .ok (.lload_n 1, 1) := by decide +kernel
theorem d1_318 : decode method_4_code 318 = .ok (.bipush 32, 2) := by decide +kernel
theorem d1_320 : decode method_4_code 320 = .ok (.lushr, 1) := by decide +kernel
theorem d1_321 : decode method_4_code 321 = .ok (.ldc2_w 59, 3) := by decide +kernel
theorem d1_324 : decode method_4_code 324 = .ok (.land, 1) := by decide +kernel
theorem d1_325 : decode method_4_code 325 = .ok (.l2i, 1) := by decide +kernel
theorem d1_326 : decode method_4_code 326 = .ok (.i2c, 1) := by decide +kernel
theorem d1_327 : decode method_4_code 327 = .ok (.castore, 1) := by decide +kernel
theorem d1_328 : decode method_4_code 328 = .ok (.dup, 1) := by decide +kernel
theorem d1_329 : decode method_4_code 329 = .ok (.iconst 5, 1) := by decide +kernel
theorem d1_330 : decode method_4_code 330 = .ok (.lload_n 1, 1) := by decide +kernel
theorem d1_331 : decode method_4_code 331 = .ok (.bipush 40, 2) := by decide +kernel
theorem d1_333 : decode method_4_code 333 = .ok (.lushr, 1) := by decide +kernel
theorem d1_334 : decode method_4_code 334 = .ok (.ldc2_w 59, 3) := by decide +kernel
theorem d1_337 : decode method_4_code 337 = .ok (.land, 1) := by decide +kernel
theorem d1_338 : decode method_4_code 338 = .ok (.l2i, 1) := by decide +kernel
theorem d1_339 : decode method_4_code 339 = .ok (.i2c, 1) := by decide +kernel
theorem d1_340 : decode method_4_code 340 = .ok (.castore, 1) := by decide +kernel
theorem d1_341 : decode method_4_code 341 = .ok (.dup, 1) := by decide +kernel
theorem d1_342 : decode method_4_code 342 = .ok (.bipush 6, 2) := by decide +kernel
theorem d1_344 : decode method_4_code 344 = .ok (.lload_n 1, 1) := by decide +kernel
theorem d1_345 : decode method_4_code 345 = .ok (.bipush 48, 2) := by decide +kernel
theorem d1_347 : decode method_4_code 347 = .ok (.lushr, 1) := by decide +kernel
theorem d1_348 : decode method_4_code 348 = .ok (.ldc2_w 59, 3) := by decide +kernel
theorem d1_351 : decode method_4_code 351 = .ok (.land, 1) := by decide +kernel
theorem d1_352 : decode method_4_code 352 = .ok (.l2i, 1) := by decide +kernel
theorem d1_353 : decode method_4_code 353 = .ok (.i2c, 1) := by decide +kernel
theorem d1_354 : decode method_4_code 354 = .ok (.castore, 1) := by decide +kernel
theorem d1_355 : decode method_4_code 355 = .ok (.dup, 1) := by decide +kernel
theorem d1_356 : decode method_4_code 356 = .ok (.bipush 7, 2) := by decide +kernel
theorem d1_358 : decode method_4_code 358 = .ok (.lload_n 1, 1) := by decide +kernel
theorem d1_359 : decode method_4_code 359 = .ok (.bipush 56, 2) := by decide +kernel
theorem d1_361 : decode method_4_code 361 = .ok (.lushr, 1) := by decide +kernel
theorem d1_362 : decode method_4_code 362 = .ok (.ldc2_w 59, 3) := by decide +kernel
theorem d1_365 : decode method_4_code 365 = .ok (.land, 1) := by decide +kernel
theorem d1_366 : decode method_4_code 366 = .ok (.l2i, 1) := by decide +kernel
theorem d1_367 : decode method_4_code 367 = .ok (.i2c, 1) := by decide +kernel
theorem d1_368 : decode method_4_code 368 = .ok (.castore, 1) := by decide +kernel
theorem d1_369 : decode method_4_code 369 = .ok (.areturn, 1) := by decide +kernel
theorem d1_370 : decode method_4_code 370 = .ok (.iconst 0, 1) := by decide +kernel
theorem d1_371 : decode method_4_code 371 = .ok (.newarray .char, 2) := by decide +kernel
theorem d1_373 : decode method_4_code 373 = .ok (.areturn, 1) := by decide +kernel
theorem pn_com_example_rolling_ledger_rollingledger_model_CaptureKindOfWarcTypePinLaw : plainName "com/example/rolling_ledger/rollingledger/model/CaptureKindOfWarcTypePinLaw" = true := by first | (simp [plainName, overriddenIn]; done) | decide +kernel
theorem ef_1 (m : MethodId) (x0 : Int32) (x1 : Int64) (x2 : Int32) : entryFrame m #[(.int x0), (.long x1), (.int x2)] 4 = mkF m 0 #[.val (.int x0), .val (.long x1), .second, .val (.int x2)] [] := by first | (simp [entryFrame, mkF, argsToLocals, Value.category]; done) | rfl
def Q1 (Z : State) (i : Int32) (q : Int64) (j : Int32) (h0 : Heap) (n0 : Nat) (v : Option Value) (h : Heap) (L : List Loc) : Prop := ∃ z : Addr, ∃ kz : ClassId, ∃ cs : List Int32, v = some (.ref z) ∧ Fr n0 L ∧ Keep h0 h [] ∧ Arv Z h z kz .char (Int32.ofNat cs.length) (cs.map Value.int) (.int (0 : Int32)) ∧ h0.size ≤ z ∧ n0 ≤ z ∧ cs.length ≤ 9 ∧ ∀ c ∈ cs, ¬ c < 0 ∧ ¬ (255 : Int32) < c
set_option maxRecDepth 65536 in
set_option maxHeartbeats 40000000 in
theorem rm1 (l : Launch) (Z : State) (a0 : Array Value) (hw : ∀ d ∈ tables_1, d.before a0 Z = true) (ws : List Jvm.Cond) (i : Int32) (q : Int64) (j : Int32) (h0 : Heap) (n0 : Nat) (O0 : Old Z n0 h0) :
    MetFree l (⟨"com/example/rolling_ledger/rollingledger/model/CaptureKindOfWarcTypePinLaw", "base", "(IJI)[C"⟩ : MethodName) (head1 (Jvm.Cond.code (⟨"com/example/rolling_ledger/rollingledger/model/CaptureKindOfWarcTypePinLaw", "base", "(IJI)[C"⟩ : MethodName) method_4_code 4 (some (.array .char)) :: ws) ({ frames := 0, cells := 1, slots := 9, locals := 0 } : Room)) (fun aA uU => aA = #[(.int i), (.long q), (.int j)] ∧ Z.Warmed39 uU.vm ∧ uU.heap = h0) (fun _ _ _ _ _ => True) (fun _ uU oO uU' => ∃ vV lL, oO = .returned vV ∧ Q1 Z i q j  h0 n0 vV uU'.heap lL ∧ FrameEnd uU oO uU' lL ({ frames := 0, cells := 1, slots := 9, locals := 0 } : Room).cells ({ frames := 0, cells := 1, slots := 9, locals := 0 } : Room).slots) := by
  refine MetFree.of_bodySF (plainFor_of_name pn_com_example_rolling_ledger_rollingledger_model_CaptureKindOfWarcTypePinLaw) hisR ?_
  intro p e s m args below meth c s₁ Bd hml0 hP hK
  obtain ⟨rfl, hZ, hh⟩ := hP
  have hx := Bd.exec
  have hby := Bd.bytes
  have hml : c.maxLocals = 4 := hml0
  have hown : s.vm.findClass "com/example/rolling_ledger/rollingledger/model/CaptureKindOfWarcTypePinLaw" = some m.cls := findClass_of_methodNamed Bd.named
  have hnm := (name_of_methodNamed Bd.named Bd.method).1
  have X0 : Stand p l e ({ frames := 0, cells := 1, slots := 9, locals := 0 } : Room) s m #[(.int i), (.long q), (.int j)] below meth c s₁ [] 0 0 := Stand.of_body Bd
  have e0 : s₁.heap = h0 := by rw [← hh, Bd.state]; rfl
  have N0 := Fr.nil n0
  have O := O0
  have K := Keep.refl h0 []
  have pre0 : ∀ t, Steps p.tables e below (s₁.setTop (mkF m 0 #[.val (.int i), .val (.long q), .second, .val (.int j)] [])) t → Steps p.tables e below (s₁.setTop (entryFrame m #[(.int i), (.long q), (.int j)] 4)) t := fun t k => castTop (ef_1 m i q j) k
  have w1 : ∀ t, Steps p.tables e below (s₁.setTop (mkF m 1 #[.val (.int i), .val (.long q), .second, .val (.int j)] [(.int i)])) t → Steps p.tables e below (s₁.setTop (entryFrame m #[(.int i), (.long q), (.int j)] 4)) t := fun t k => by
    refine pre0 t ?_
    refine XS.iloadN X0.here hx rfl (hb hby d1_0) rfl ?_
    show Steps p.tables e below (s₁.setTop (mkF m 1 #[.val (.int i), .val (.long q), .second, .val (.int j)] [(.int i)])) _
    exact k
  by_cases hc1_2 : i = (0 : Int32)
  · obtain ⟨T3, h3, k3, X3, e3, E3, A3, st3⟩ := newP X0 hx hZ (hw _ (List.mem_of_getElem? (i := 4) rfl)) e0 (g := (mkF m 6 #[.val (.int i), .val (.long q), .second, .val (.int j)] [(.int (8 : Int32))])) rfl (hb hby d1_6) rfl (by decide) (cap := 8) (by decide) (by decide) (by decide) (by decide)
    obtain ⟨b3, gq3⟩ : ∃ z, z = Array.size h0 := ⟨_, rfl⟩
    rw [← gq3] at A3 st3
    have g_b3 : n0 ≤ b3 := Nat.le_trans (O.1 ▸ O.2.1) (Nat.le_of_eq gq3.symm)
    have z_b3 : h0.size ≤ b3 := Nat.le_trans K.1 (Nat.le_of_eq gq3.symm)
    have O := O.ext E3
    have K := K.ext E3
    have V_b3 : Arv Z h3 b3 k3 .char (8 : Int32) [(.int (0 : Int32)), (.int (0 : Int32)), (.int (0 : Int32)), (.int (0 : Int32)), (.int (0 : Int32)), (.int (0 : Int32)), (.int (0 : Int32)), (.int (0 : Int32))] (.int (0 : Int32)) := (Arv.new A3 (by decide)).pad (pad_rep [] (.int (0 : Int32)) 8)
    obtain ⟨cl4, Ar4, q4, Z4, N4, H4, G4⟩ := id V_b3
    have hin4 : ¬ ((0 : Int32) < 0 ∨ cl4.slots.size ≤ ((0 : Int32)).toNatClampNeg) := inb_of Z4 ⟨by decide, by decide⟩
    obtain ⟨T5, h5, X5, e5, W5, st5⟩ := stC X3 hx hZ e3 Ar4 (j := (0 : Int32)) hin4 (g := (mkF m 12 #[.val (.int i), .val (.long q), .second, .val (.int j)] [(.int (114 : Int32)), (.int (0 : Int32)), (.ref b3), (.ref b3)])) rfl rfl (hb hby d1_12)
    have V_b3 : Arv Z h5 b3 k3 .char (8 : Int32) [(.int (114 : Int32)), (.int (0 : Int32)), (.int (0 : Int32)), (.int (0 : Int32)), (.int (0 : Int32)), (.int (0 : Int32)), (.int (0 : Int32)), (.int (0 : Int32))] (.int (0 : Int32)) := Arv.set Ar4 q4 Z4 N4 H4 G4 (fits_nar_char _) W5 0 rfl (Nat.le_of_ble_eq_true rfl)
    have O := O.wr W5 g_b3
    have K := K.wr W5 (Or.inr z_b3)
    have N5 := Fr.snoc X5 N0 g_b3
    obtain ⟨cl6, Ar6, q6, Z6, N6, H6, G6⟩ := id V_b3
    have hin6 : ¬ ((1 : Int32) < 0 ∨ cl6.slots.size ≤ ((1 : Int32)).toNatClampNeg) := inb_of Z6 ⟨by decide, by decide⟩
    obtain ⟨T7, h7, X7, e7, W7, st7⟩ := stC X5 hx hZ e5 Ar6 (j := (1 : Int32)) hin6 (g := (mkF m 17 #[.val (.int i), .val (.long q), .second, .val (.int j)] [(.int (101 : Int32)), (.int (1 : Int32)), (.ref b3), (.ref b3)])) rfl rfl (hb hby d1_17)
    have V_b3 : Arv Z h7 b3 k3 .char (8 : Int32) [(.int (114 : Int32)), (.int (101 : Int32)), (.int (0 : Int32)), (.int (0 : Int32)), (.int (0 : Int32)), (.int (0 : Int32)), (.int (0 : Int32)), (.int (0 : Int32))] (.int (0 : Int32)) := Arv.set Ar6 q6 Z6 N6 H6 G6 (fits_nar_char _) W7 1 rfl (Nat.le_of_ble_eq_true rfl)
    have O := O.wr W7 g_b3
    have K := K.wr W7 (Or.inr z_b3)
    have N7 := Fr.snoc X7 N5 g_b3
    obtain ⟨cl8, Ar8, q8, Z8, N8, H8, G8⟩ := id V_b3
    have hin8 : ¬ ((2 : Int32) < 0 ∨ cl8.slots.size ≤ ((2 : Int32)).toNatClampNeg) := inb_of Z8 ⟨by decide, by decide⟩
    obtain ⟨T9, h9, X9, e9, W9, st9⟩ := stC X7 hx hZ e7 Ar8 (j := (2 : Int32)) hin8 (g := (mkF m 22 #[.val (.int i), .val (.long q), .second, .val (.int j)] [(.int (115 : Int32)), (.int (2 : Int32)), (.ref b3), (.ref b3)])) rfl rfl (hb hby d1_22)
    have V_b3 : Arv Z h9 b3 k3 .char (8 : Int32) [(.int (114 : Int32)), (.int (101 : Int32)), (.int (115 : Int32)), (.int (0 : Int32)), (.int (0 : Int32)), (.int (0 : Int32)), (.int (0 : Int32)), (.int (0 : Int32))] (.int (0 : Int32)) := Arv.set Ar8 q8 Z8 N8 H8 G8 (fits_nar_char _) W9 2 rfl (Nat.le_of_ble_eq_true rfl)
    have O := O.wr W9 g_b3
    have K := K.wr W9 (Or.inr z_b3)
    have N9 := Fr.snoc X9 N7 g_b3
    obtain ⟨cl10, Ar10, q10, Z10, N10, H10, G10⟩ := id V_b3
    have hin10 : ¬ ((3 : Int32) < 0 ∨ cl10.slots.size ≤ ((3 : Int32)).toNatClampNeg) := inb_of Z10 ⟨by decide, by decide⟩
    obtain ⟨T11, h11, X11, e11, W11, st11⟩ := stC X9 hx hZ e9 Ar10 (j := (3 : Int32)) hin10 (g := (mkF m 27 #[.val (.int i), .val (.long q), .second, .val (.int j)] [(.int (112 : Int32)), (.int (3 : Int32)), (.ref b3), (.ref b3)])) rfl rfl (hb hby d1_27)
    have V_b3 : Arv Z h11 b3 k3 .char (8 : Int32) [(.int (114 : Int32)), (.int (101 : Int32)), (.int (115 : Int32)), (.int (112 : Int32)), (.int (0 : Int32)), (.int (0 : Int32)), (.int (0 : Int32)), (.int (0 : Int32))] (.int (0 : Int32)) := Arv.set Ar10 q10 Z10 N10 H10 G10 (fits_nar_char _) W11 3 rfl (Nat.le_of_ble_eq_true rfl)
    have O := O.wr W11 g_b3
    have K := K.wr W11 (Or.inr z_b3)
    have N11 := Fr.snoc X11 N9 g_b3
    obtain ⟨cl12, Ar12, q12, Z12, N12, H12, G12⟩ := id V_b3
    have hin12 : ¬ ((4 : Int32) < 0 ∨ cl12.slots.size ≤ ((4 : Int32)).toNatClampNeg) := inb_of Z12 ⟨by decide, by decide⟩
    obtain ⟨T13, h13, X13, e13, W13, st13⟩ := stC X11 hx hZ e11 Ar12 (j := (4 : Int32)) hin12 (g := (mkF m 32 #[.val (.int i), .val (.long q), .second, .val (.int j)] [(.int (111 : Int32)), (.int (4 : Int32)), (.ref b3), (.ref b3)])) rfl rfl (hb hby d1_32)
    have V_b3 : Arv Z h13 b3 k3 .char (8 : Int32) [(.int (114 : Int32)), (.int (101 : Int32)), (.int (115 : Int32)), (.int (112 : Int32)), (.int (111 : Int32)), (.int (0 : Int32)), (.int (0 : Int32)), (.int (0 : Int32))] (.int (0 : Int32)) := Arv.set Ar12 q12 Z12 N12 H12 G12 (fits_nar_char _) W13 4 rfl (Nat.le_of_ble_eq_true rfl)
    have O := O.wr W13 g_b3
    have K := K.wr W13 (Or.inr z_b3)
    have N13 := Fr.snoc X13 N11 g_b3
    obtain ⟨cl14, Ar14, q14, Z14, N14, H14, G14⟩ := id V_b3
    have hin14 : ¬ ((5 : Int32) < 0 ∨ cl14.slots.size ≤ ((5 : Int32)).toNatClampNeg) := inb_of Z14 ⟨by decide, by decide⟩
    obtain ⟨T15, h15, X15, e15, W15, st15⟩ := stC X13 hx hZ e13 Ar14 (j := (5 : Int32)) hin14 (g := (mkF m 37 #[.val (.int i), .val (.long q), .second, .val (.int j)] [(.int (110 : Int32)), (.int (5 : Int32)), (.ref b3), (.ref b3)])) rfl rfl (hb hby d1_37)
    have V_b3 : Arv Z h15 b3 k3 .char (8 : Int32) [(.int (114 : Int32)), (.int (101 : Int32)), (.int (115 : Int32)), (.int (112 : Int32)), (.int (111 : Int32)), (.int (110 : Int32)), (.int (0 : Int32)), (.int (0 : Int32))] (.int (0 : Int32)) := Arv.set Ar14 q14 Z14 N14 H14 G14 (fits_nar_char _) W15 5 rfl (Nat.le_of_ble_eq_true rfl)
    have O := O.wr W15 g_b3
    have K := K.wr W15 (Or.inr z_b3)
    have N15 := Fr.snoc X15 N13 g_b3
    obtain ⟨cl16, Ar16, q16, Z16, N16, H16, G16⟩ := id V_b3
    have hin16 : ¬ ((6 : Int32) < 0 ∨ cl16.slots.size ≤ ((6 : Int32)).toNatClampNeg) := inb_of Z16 ⟨by decide, by decide⟩
    obtain ⟨T17, h17, X17, e17, W17, st17⟩ := stC X15 hx hZ e15 Ar16 (j := (6 : Int32)) hin16 (g := (mkF m 43 #[.val (.int i), .val (.long q), .second, .val (.int j)] [(.int (115 : Int32)), (.int (6 : Int32)), (.ref b3), (.ref b3)])) rfl rfl (hb hby d1_43)
    have V_b3 : Arv Z h17 b3 k3 .char (8 : Int32) [(.int (114 : Int32)), (.int (101 : Int32)), (.int (115 : Int32)), (.int (112 : Int32)), (.int (111 : Int32)), (.int (110 : Int32)), (.int (115 : Int32)), (.int (0 : Int32))] (.int (0 : Int32)) := Arv.set Ar16 q16 Z16 N16 H16 G16 (fits_nar_char _) W17 6 rfl (Nat.le_of_ble_eq_true rfl)
    have O := O.wr W17 g_b3
    have K := K.wr W17 (Or.inr z_b3)
    have N17 := Fr.snoc X17 N15 g_b3
    obtain ⟨cl18, Ar18, q18, Z18, N18, H18, G18⟩ := id V_b3
    have hin18 : ¬ ((7 : Int32) < 0 ∨ cl18.slots.size ≤ ((7 : Int32)).toNatClampNeg) := inb_of Z18 ⟨by decide, by decide⟩
    obtain ⟨T19, h19, X19, e19, W19, st19⟩ := stC X17 hx hZ e17 Ar18 (j := (7 : Int32)) hin18 (g := (mkF m 49 #[.val (.int i), .val (.long q), .second, .val (.int j)] [(.int (101 : Int32)), (.int (7 : Int32)), (.ref b3), (.ref b3)])) rfl rfl (hb hby d1_49)
    have V_b3 : Arv Z h19 b3 k3 .char (8 : Int32) [(.int (114 : Int32)), (.int (101 : Int32)), (.int (115 : Int32)), (.int (112 : Int32)), (.int (111 : Int32)), (.int (110 : Int32)), (.int (115 : Int32)), (.int (101 : Int32))] (.int (0 : Int32)) := Arv.set Ar18 q18 Z18 N18 H18 G18 (fits_nar_char _) W19 7 rfl (Nat.le_of_ble_eq_true rfl)
    have O := O.wr W19 g_b3
    have K := K.wr W19 (Or.inr z_b3)
    have N19 := Fr.snoc X19 N17 g_b3
    have w20 : ∀ t, Steps p.tables e below (T19.setTop (mkF m 50 #[.val (.int i), .val (.long q), .second, .val (.int j)] [(.ref b3)])) t → Steps p.tables e below (s₁.setTop (entryFrame m #[(.int i), (.long q), (.int j)] 4)) t := fun t k => by
      refine w1 t ?_
      refine XS.ifNo X0.here hx rfl (hb hby d1_1) rfl ((if0 _ _).trans (teq hc1_2).2) ?_
      show Steps p.tables e below (s₁.setTop (mkF m 4 #[.val (.int i), .val (.long q), .second, .val (.int j)] [])) _
      refine XS.bipush X0.here hx rfl (hb hby d1_4) ?_
      show Steps p.tables e below (s₁.setTop (mkF m 6 #[.val (.int i), .val (.long q), .second, .val (.int j)] [(.int (8 : Int32))])) _
      refine st3 _ ?_
      show Steps p.tables e below (T3.setTop (mkF m 8 #[.val (.int i), .val (.long q), .second, .val (.int j)] [(.ref b3)])) _
      refine XS.dup X3.here hx rfl (hb hby d1_8) rfl rfl ?_
      show Steps p.tables e below (T3.setTop (mkF m 9 #[.val (.int i), .val (.long q), .second, .val (.int j)] [(.ref b3), (.ref b3)])) _
      refine XS.iconst X3.here hx rfl (hb hby d1_9) ?_
      show Steps p.tables e below (T3.setTop (mkF m 10 #[.val (.int i), .val (.long q), .second, .val (.int j)] [(.int (0 : Int32)), (.ref b3), (.ref b3)])) _
      refine XS.bipush X3.here hx rfl (hb hby d1_10) ?_
      show Steps p.tables e below (T3.setTop (mkF m 12 #[.val (.int i), .val (.long q), .second, .val (.int j)] [(.int (114 : Int32)), (.int (0 : Int32)), (.ref b3), (.ref b3)])) _
      refine st5 _ ?_
      show Steps p.tables e below (T5.setTop (mkF m 13 #[.val (.int i), .val (.long q), .second, .val (.int j)] [(.ref b3)])) _
      refine XS.dup X5.here hx rfl (hb hby d1_13) rfl rfl ?_
      show Steps p.tables e below (T5.setTop (mkF m 14 #[.val (.int i), .val (.long q), .second, .val (.int j)] [(.ref b3), (.ref b3)])) _
      refine XS.iconst X5.here hx rfl (hb hby d1_14) ?_
      show Steps p.tables e below (T5.setTop (mkF m 15 #[.val (.int i), .val (.long q), .second, .val (.int j)] [(.int (1 : Int32)), (.ref b3), (.ref b3)])) _
      refine XS.bipush X5.here hx rfl (hb hby d1_15) ?_
      show Steps p.tables e below (T5.setTop (mkF m 17 #[.val (.int i), .val (.long q), .second, .val (.int j)] [(.int (101 : Int32)), (.int (1 : Int32)), (.ref b3), (.ref b3)])) _
      refine st7 _ ?_
      show Steps p.tables e below (T7.setTop (mkF m 18 #[.val (.int i), .val (.long q), .second, .val (.int j)] [(.ref b3)])) _
      refine XS.dup X7.here hx rfl (hb hby d1_18) rfl rfl ?_
      show Steps p.tables e below (T7.setTop (mkF m 19 #[.val (.int i), .val (.long q), .second, .val (.int j)] [(.ref b3), (.ref b3)])) _
      refine XS.iconst X7.here hx rfl (hb hby d1_19) ?_
      show Steps p.tables e below (T7.setTop (mkF m 20 #[.val (.int i), .val (.long q), .second, .val (.int j)] [(.int (2 : Int32)), (.ref b3), (.ref b3)])) _
      refine XS.bipush X7.here hx rfl (hb hby d1_20) ?_
      show Steps p.tables e below (T7.setTop (mkF m 22 #[.val (.int i), .val (.long q), .second, .val (.int j)] [(.int (115 : Int32)), (.int (2 : Int32)), (.ref b3), (.ref b3)])) _
      refine st9 _ ?_
      show Steps p.tables e below (T9.setTop (mkF m 23 #[.val (.int i), .val (.long q), .second, .val (.int j)] [(.ref b3)])) _
      refine XS.dup X9.here hx rfl (hb hby d1_23) rfl rfl ?_
      show Steps p.tables e below (T9.setTop (mkF m 24 #[.val (.int i), .val (.long q), .second, .val (.int j)] [(.ref b3), (.ref b3)])) _
      refine XS.iconst X9.here hx rfl (hb hby d1_24) ?_
      show Steps p.tables e below (T9.setTop (mkF m 25 #[.val (.int i), .val (.long q), .second, .val (.int j)] [(.int (3 : Int32)), (.ref b3), (.ref b3)])) _
      refine XS.bipush X9.here hx rfl (hb hby d1_25) ?_
      show Steps p.tables e below (T9.setTop (mkF m 27 #[.val (.int i), .val (.long q), .second, .val (.int j)] [(.int (112 : Int32)), (.int (3 : Int32)), (.ref b3), (.ref b3)])) _
      refine st11 _ ?_
      show Steps p.tables e below (T11.setTop (mkF m 28 #[.val (.int i), .val (.long q), .second, .val (.int j)] [(.ref b3)])) _
      refine XS.dup X11.here hx rfl (hb hby d1_28) rfl rfl ?_
      show Steps p.tables e below (T11.setTop (mkF m 29 #[.val (.int i), .val (.long q), .second, .val (.int j)] [(.ref b3), (.ref b3)])) _
      refine XS.iconst X11.here hx rfl (hb hby d1_29) ?_
      show Steps p.tables e below (T11.setTop (mkF m 30 #[.val (.int i), .val (.long q), .second, .val (.int j)] [(.int (4 : Int32)), (.ref b3), (.ref b3)])) _
      refine XS.bipush X11.here hx rfl (hb hby d1_30) ?_
      show Steps p.tables e below (T11.setTop (mkF m 32 #[.val (.int i), .val (.long q), .second, .val (.int j)] [(.int (111 : Int32)), (.int (4 : Int32)), (.ref b3), (.ref b3)])) _
      refine st13 _ ?_
      show Steps p.tables e below (T13.setTop (mkF m 33 #[.val (.int i), .val (.long q), .second, .val (.int j)] [(.ref b3)])) _
      refine XS.dup X13.here hx rfl (hb hby d1_33) rfl rfl ?_
      show Steps p.tables e below (T13.setTop (mkF m 34 #[.val (.int i), .val (.long q), .second, .val (.int j)] [(.ref b3), (.ref b3)])) _
      refine XS.iconst X13.here hx rfl (hb hby d1_34) ?_
      show Steps p.tables e below (T13.setTop (mkF m 35 #[.val (.int i), .val (.long q), .second, .val (.int j)] [(.int (5 : Int32)), (.ref b3), (.ref b3)])) _
      refine XS.bipush X13.here hx rfl (hb hby d1_35) ?_
      show Steps p.tables e below (T13.setTop (mkF m 37 #[.val (.int i), .val (.long q), .second, .val (.int j)] [(.int (110 : Int32)), (.int (5 : Int32)), (.ref b3), (.ref b3)])) _
      refine st15 _ ?_
      show Steps p.tables e below (T15.setTop (mkF m 38 #[.val (.int i), .val (.long q), .second, .val (.int j)] [(.ref b3)])) _
      refine XS.dup X15.here hx rfl (hb hby d1_38) rfl rfl ?_
      show Steps p.tables e below (T15.setTop (mkF m 39 #[.val (.int i), .val (.long q), .second, .val (.int j)] [(.ref b3), (.ref b3)])) _
      refine XS.bipush X15.here hx rfl (hb hby d1_39) ?_
      show Steps p.tables e below (T15.setTop (mkF m 41 #[.val (.int i), .val (.long q), .second, .val (.int j)] [(.int (6 : Int32)), (.ref b3), (.ref b3)])) _
      refine XS.bipush X15.here hx rfl (hb hby d1_41) ?_
      show Steps p.tables e below (T15.setTop (mkF m 43 #[.val (.int i), .val (.long q), .second, .val (.int j)] [(.int (115 : Int32)), (.int (6 : Int32)), (.ref b3), (.ref b3)])) _
      refine st17 _ ?_
      show Steps p.tables e below (T17.setTop (mkF m 44 #[.val (.int i), .val (.long q), .second, .val (.int j)] [(.ref b3)])) _
      refine XS.dup X17.here hx rfl (hb hby d1_44) rfl rfl ?_
      show Steps p.tables e below (T17.setTop (mkF m 45 #[.val (.int i), .val (.long q), .second, .val (.int j)] [(.ref b3), (.ref b3)])) _
      refine XS.bipush X17.here hx rfl (hb hby d1_45) ?_
      show Steps p.tables e below (T17.setTop (mkF m 47 #[.val (.int i), .val (.long q), .second, .val (.int j)] [(.int (7 : Int32)), (.ref b3), (.ref b3)])) _
      refine XS.bipush X17.here hx rfl (hb hby d1_47) ?_
      show Steps p.tables e below (T17.setTop (mkF m 49 #[.val (.int i), .val (.long q), .second, .val (.int j)] [(.int (101 : Int32)), (.int (7 : Int32)), (.ref b3), (.ref b3)])) _
      refine st19 _ ?_
      show Steps p.tables e below (T19.setTop (mkF m 50 #[.val (.int i), .val (.long q), .second, .val (.int j)] [(.ref b3)])) _
      exact k
    obtain ⟨fs, hr, hrun, hended, hW, hsame⟩ := X19.leave (v := some (.ref b3)) (fun h => by rw [Bd.returns] at h; cases h)
    refine ⟨_, _, w20 _ ?_, hrun, hended, _, _, rfl, ?_, ⟨_, rfl⟩, hW, hsame.mono (by decide) (by decide)⟩
    · jvm_step X19.here [X19.here.top, hx, (hb hby d1_50), X19.method', Bd.returns, Value.isRef, FieldType.isReference]
      first | (intro acts; rw [hr _ acts rfl rfl rfl]) | rw [hr _ _ rfl rfl rfl]
      exact Steps.refl _
    · show Q1 Z i q j  h0 n0 _ T19.heap _
      rw [e19]
      exact ⟨b3, k3, [(114 : Int32), (101 : Int32), (115 : Int32), (112 : Int32), (111 : Int32), (110 : Int32), (115 : Int32), (101 : Int32)], rfl, N19, K, V_b3, z_b3, g_b3, (Nat.le_of_ble_eq_true rfl), (List.forall_mem_cons.mpr ⟨⟨by decide, by decide⟩, List.forall_mem_cons.mpr ⟨⟨by decide, by decide⟩, List.forall_mem_cons.mpr ⟨⟨by decide, by decide⟩, List.forall_mem_cons.mpr ⟨⟨by decide, by decide⟩, List.forall_mem_cons.mpr ⟨⟨by decide, by decide⟩, List.forall_mem_cons.mpr ⟨⟨by decide, by decide⟩, List.forall_mem_cons.mpr ⟨⟨by decide, by decide⟩, List.forall_mem_cons.mpr ⟨⟨by decide, by decide⟩, fun c hc => nomatch hc⟩⟩⟩⟩⟩⟩⟩⟩)⟩
  · have w21 : ∀ t, Steps p.tables e below (s₁.setTop (mkF m 53 #[.val (.int i), .val (.long q), .second, .val (.int j)] [(.int (1 : Int32)), (.int i)])) t → Steps p.tables e below (s₁.setTop (entryFrame m #[(.int i), (.long q), (.int j)] 4)) t := fun t k => by
      refine w1 t ?_
      refine XS.ifYes X0.here hx rfl (pc0 := 1) (pc' := 51) rfl (hb hby d1_1) rfl ((if0 _ _).trans (feq hc1_2).2) (by decide) (by decide) ?_
      show Steps p.tables e below (s₁.setTop (mkF m 51 #[.val (.int i), .val (.long q), .second, .val (.int j)] [])) _
      refine XS.iloadN X0.here hx rfl (hb hby d1_51) rfl ?_
      show Steps p.tables e below (s₁.setTop (mkF m 52 #[.val (.int i), .val (.long q), .second, .val (.int j)] [(.int i)])) _
      refine XS.iconst X0.here hx rfl (hb hby d1_52) ?_
      show Steps p.tables e below (s₁.setTop (mkF m 53 #[.val (.int i), .val (.long q), .second, .val (.int j)] [(.int (1 : Int32)), (.int i)])) _
      exact k
    by_cases hc53_22 : i = (1 : Int32)
    · obtain ⟨T23, h23, k23, X23, e23, E23, A23, st23⟩ := newP X0 hx hZ (hw _ (List.mem_of_getElem? (i := 4) rfl)) e0 (g := (mkF m 58 #[.val (.int i), .val (.long q), .second, .val (.int j)] [(.int (7 : Int32))])) rfl (hb hby d1_58) rfl (by decide) (cap := 7) (by decide) (by decide) (by decide) (by decide)
      obtain ⟨b23, gq23⟩ : ∃ z, z = Array.size h0 := ⟨_, rfl⟩
      rw [← gq23] at A23 st23
      have g_b23 : n0 ≤ b23 := Nat.le_trans (O.1 ▸ O.2.1) (Nat.le_of_eq gq23.symm)
      have z_b23 : h0.size ≤ b23 := Nat.le_trans K.1 (Nat.le_of_eq gq23.symm)
      have O := O.ext E23
      have K := K.ext E23
      have V_b23 : Arv Z h23 b23 k23 .char (7 : Int32) [(.int (0 : Int32)), (.int (0 : Int32)), (.int (0 : Int32)), (.int (0 : Int32)), (.int (0 : Int32)), (.int (0 : Int32)), (.int (0 : Int32))] (.int (0 : Int32)) := (Arv.new A23 (by decide)).pad (pad_rep [] (.int (0 : Int32)) 7)
      obtain ⟨cl24, Ar24, q24, Z24, N24, H24, G24⟩ := id V_b23
      have hin24 : ¬ ((0 : Int32) < 0 ∨ cl24.slots.size ≤ ((0 : Int32)).toNatClampNeg) := inb_of Z24 ⟨by decide, by decide⟩
      obtain ⟨T25, h25, X25, e25, W25, st25⟩ := stC X23 hx hZ e23 Ar24 (j := (0 : Int32)) hin24 (g := (mkF m 64 #[.val (.int i), .val (.long q), .second, .val (.int j)] [(.int (114 : Int32)), (.int (0 : Int32)), (.ref b23), (.ref b23)])) rfl rfl (hb hby d1_64)
      have V_b23 : Arv Z h25 b23 k23 .char (7 : Int32) [(.int (114 : Int32)), (.int (0 : Int32)), (.int (0 : Int32)), (.int (0 : Int32)), (.int (0 : Int32)), (.int (0 : Int32)), (.int (0 : Int32))] (.int (0 : Int32)) := Arv.set Ar24 q24 Z24 N24 H24 G24 (fits_nar_char _) W25 0 rfl (Nat.le_of_ble_eq_true rfl)
      have O := O.wr W25 g_b23
      have K := K.wr W25 (Or.inr z_b23)
      have N25 := Fr.snoc X25 N0 g_b23
      obtain ⟨cl26, Ar26, q26, Z26, N26, H26, G26⟩ := id V_b23
      have hin26 : ¬ ((1 : Int32) < 0 ∨ cl26.slots.size ≤ ((1 : Int32)).toNatClampNeg) := inb_of Z26 ⟨by decide, by decide⟩
      obtain ⟨T27, h27, X27, e27, W27, st27⟩ := stC X25 hx hZ e25 Ar26 (j := (1 : Int32)) hin26 (g := (mkF m 69 #[.val (.int i), .val (.long q), .second, .val (.int j)] [(.int (101 : Int32)), (.int (1 : Int32)), (.ref b23), (.ref b23)])) rfl rfl (hb hby d1_69)
      have V_b23 : Arv Z h27 b23 k23 .char (7 : Int32) [(.int (114 : Int32)), (.int (101 : Int32)), (.int (0 : Int32)), (.int (0 : Int32)), (.int (0 : Int32)), (.int (0 : Int32)), (.int (0 : Int32))] (.int (0 : Int32)) := Arv.set Ar26 q26 Z26 N26 H26 G26 (fits_nar_char _) W27 1 rfl (Nat.le_of_ble_eq_true rfl)
      have O := O.wr W27 g_b23
      have K := K.wr W27 (Or.inr z_b23)
      have N27 := Fr.snoc X27 N25 g_b23
      obtain ⟨cl28, Ar28, q28, Z28, N28, H28, G28⟩ := id V_b23
      have hin28 : ¬ ((2 : Int32) < 0 ∨ cl28.slots.size ≤ ((2 : Int32)).toNatClampNeg) := inb_of Z28 ⟨by decide, by decide⟩
      obtain ⟨T29, h29, X29, e29, W29, st29⟩ := stC X27 hx hZ e27 Ar28 (j := (2 : Int32)) hin28 (g := (mkF m 74 #[.val (.int i), .val (.long q), .second, .val (.int j)] [(.int (118 : Int32)), (.int (2 : Int32)), (.ref b23), (.ref b23)])) rfl rfl (hb hby d1_74)
      have V_b23 : Arv Z h29 b23 k23 .char (7 : Int32) [(.int (114 : Int32)), (.int (101 : Int32)), (.int (118 : Int32)), (.int (0 : Int32)), (.int (0 : Int32)), (.int (0 : Int32)), (.int (0 : Int32))] (.int (0 : Int32)) := Arv.set Ar28 q28 Z28 N28 H28 G28 (fits_nar_char _) W29 2 rfl (Nat.le_of_ble_eq_true rfl)
      have O := O.wr W29 g_b23
      have K := K.wr W29 (Or.inr z_b23)
      have N29 := Fr.snoc X29 N27 g_b23
      obtain ⟨cl30, Ar30, q30, Z30, N30, H30, G30⟩ := id V_b23
      have hin30 : ¬ ((3 : Int32) < 0 ∨ cl30.slots.size ≤ ((3 : Int32)).toNatClampNeg) := inb_of Z30 ⟨by decide, by decide⟩
      obtain ⟨T31, h31, X31, e31, W31, st31⟩ := stC X29 hx hZ e29 Ar30 (j := (3 : Int32)) hin30 (g := (mkF m 79 #[.val (.int i), .val (.long q), .second, .val (.int j)] [(.int (105 : Int32)), (.int (3 : Int32)), (.ref b23), (.ref b23)])) rfl rfl (hb hby d1_79)
      have V_b23 : Arv Z h31 b23 k23 .char (7 : Int32) [(.int (114 : Int32)), (.int (101 : Int32)), (.int (118 : Int32)), (.int (105 : Int32)), (.int (0 : Int32)), (.int (0 : Int32)), (.int (0 : Int32))] (.int (0 : Int32)) := Arv.set Ar30 q30 Z30 N30 H30 G30 (fits_nar_char _) W31 3 rfl (Nat.le_of_ble_eq_true rfl)
      have O := O.wr W31 g_b23
      have K := K.wr W31 (Or.inr z_b23)
      have N31 := Fr.snoc X31 N29 g_b23
      obtain ⟨cl32, Ar32, q32, Z32, N32, H32, G32⟩ := id V_b23
      have hin32 : ¬ ((4 : Int32) < 0 ∨ cl32.slots.size ≤ ((4 : Int32)).toNatClampNeg) := inb_of Z32 ⟨by decide, by decide⟩
      obtain ⟨T33, h33, X33, e33, W33, st33⟩ := stC X31 hx hZ e31 Ar32 (j := (4 : Int32)) hin32 (g := (mkF m 84 #[.val (.int i), .val (.long q), .second, .val (.int j)] [(.int (115 : Int32)), (.int (4 : Int32)), (.ref b23), (.ref b23)])) rfl rfl (hb hby d1_84)
      have V_b23 : Arv Z h33 b23 k23 .char (7 : Int32) [(.int (114 : Int32)), (.int (101 : Int32)), (.int (118 : Int32)), (.int (105 : Int32)), (.int (115 : Int32)), (.int (0 : Int32)), (.int (0 : Int32))] (.int (0 : Int32)) := Arv.set Ar32 q32 Z32 N32 H32 G32 (fits_nar_char _) W33 4 rfl (Nat.le_of_ble_eq_true rfl)
      have O := O.wr W33 g_b23
      have K := K.wr W33 (Or.inr z_b23)
      have N33 := Fr.snoc X33 N31 g_b23
      obtain ⟨cl34, Ar34, q34, Z34, N34, H34, G34⟩ := id V_b23
      have hin34 : ¬ ((5 : Int32) < 0 ∨ cl34.slots.size ≤ ((5 : Int32)).toNatClampNeg) := inb_of Z34 ⟨by decide, by decide⟩
      obtain ⟨T35, h35, X35, e35, W35, st35⟩ := stC X33 hx hZ e33 Ar34 (j := (5 : Int32)) hin34 (g := (mkF m 89 #[.val (.int i), .val (.long q), .second, .val (.int j)] [(.int (105 : Int32)), (.int (5 : Int32)), (.ref b23), (.ref b23)])) rfl rfl (hb hby d1_89)
      have V_b23 : Arv Z h35 b23 k23 .char (7 : Int32) [(.int (114 : Int32)), (.int (101 : Int32)), (.int (118 : Int32)), (.int (105 : Int32)), (.int (115 : Int32)), (.int (105 : Int32)), (.int (0 : Int32))] (.int (0 : Int32)) := Arv.set Ar34 q34 Z34 N34 H34 G34 (fits_nar_char _) W35 5 rfl (Nat.le_of_ble_eq_true rfl)
      have O := O.wr W35 g_b23
      have K := K.wr W35 (Or.inr z_b23)
      have N35 := Fr.snoc X35 N33 g_b23
      obtain ⟨cl36, Ar36, q36, Z36, N36, H36, G36⟩ := id V_b23
      have hin36 : ¬ ((6 : Int32) < 0 ∨ cl36.slots.size ≤ ((6 : Int32)).toNatClampNeg) := inb_of Z36 ⟨by decide, by decide⟩
      obtain ⟨T37, h37, X37, e37, W37, st37⟩ := stC X35 hx hZ e35 Ar36 (j := (6 : Int32)) hin36 (g := (mkF m 95 #[.val (.int i), .val (.long q), .second, .val (.int j)] [(.int (116 : Int32)), (.int (6 : Int32)), (.ref b23), (.ref b23)])) rfl rfl (hb hby d1_95)
      have V_b23 : Arv Z h37 b23 k23 .char (7 : Int32) [(.int (114 : Int32)), (.int (101 : Int32)), (.int (118 : Int32)), (.int (105 : Int32)), (.int (115 : Int32)), (.int (105 : Int32)), (.int (116 : Int32))] (.int (0 : Int32)) := Arv.set Ar36 q36 Z36 N36 H36 G36 (fits_nar_char _) W37 6 rfl (Nat.le_of_ble_eq_true rfl)
      have O := O.wr W37 g_b23
      have K := K.wr W37 (Or.inr z_b23)
      have N37 := Fr.snoc X37 N35 g_b23
      have w38 : ∀ t, Steps p.tables e below (T37.setTop (mkF m 96 #[.val (.int i), .val (.long q), .second, .val (.int j)] [(.ref b23)])) t → Steps p.tables e below (s₁.setTop (entryFrame m #[(.int i), (.long q), (.int j)] 4)) t := fun t k => by
        refine w21 t ?_
        refine XS.icmpNo X0.here hx rfl (hb hby d1_53) rfl (teq hc53_22).2 ?_
        show Steps p.tables e below (s₁.setTop (mkF m 56 #[.val (.int i), .val (.long q), .second, .val (.int j)] [])) _
        refine XS.bipush X0.here hx rfl (hb hby d1_56) ?_
        show Steps p.tables e below (s₁.setTop (mkF m 58 #[.val (.int i), .val (.long q), .second, .val (.int j)] [(.int (7 : Int32))])) _
        refine st23 _ ?_
        show Steps p.tables e below (T23.setTop (mkF m 60 #[.val (.int i), .val (.long q), .second, .val (.int j)] [(.ref b23)])) _
        refine XS.dup X23.here hx rfl (hb hby d1_60) rfl rfl ?_
        show Steps p.tables e below (T23.setTop (mkF m 61 #[.val (.int i), .val (.long q), .second, .val (.int j)] [(.ref b23), (.ref b23)])) _
        refine XS.iconst X23.here hx rfl (hb hby d1_61) ?_
        show Steps p.tables e below (T23.setTop (mkF m 62 #[.val (.int i), .val (.long q), .second, .val (.int j)] [(.int (0 : Int32)), (.ref b23), (.ref b23)])) _
        refine XS.bipush X23.here hx rfl (hb hby d1_62) ?_
        show Steps p.tables e below (T23.setTop (mkF m 64 #[.val (.int i), .val (.long q), .second, .val (.int j)] [(.int (114 : Int32)), (.int (0 : Int32)), (.ref b23), (.ref b23)])) _
        refine st25 _ ?_
        show Steps p.tables e below (T25.setTop (mkF m 65 #[.val (.int i), .val (.long q), .second, .val (.int j)] [(.ref b23)])) _
        refine XS.dup X25.here hx rfl (hb hby d1_65) rfl rfl ?_
        show Steps p.tables e below (T25.setTop (mkF m 66 #[.val (.int i), .val (.long q), .second, .val (.int j)] [(.ref b23), (.ref b23)])) _
        refine XS.iconst X25.here hx rfl (hb hby d1_66) ?_
        show Steps p.tables e below (T25.setTop (mkF m 67 #[.val (.int i), .val (.long q), .second, .val (.int j)] [(.int (1 : Int32)), (.ref b23), (.ref b23)])) _
        refine XS.bipush X25.here hx rfl (hb hby d1_67) ?_
        show Steps p.tables e below (T25.setTop (mkF m 69 #[.val (.int i), .val (.long q), .second, .val (.int j)] [(.int (101 : Int32)), (.int (1 : Int32)), (.ref b23), (.ref b23)])) _
        refine st27 _ ?_
        show Steps p.tables e below (T27.setTop (mkF m 70 #[.val (.int i), .val (.long q), .second, .val (.int j)] [(.ref b23)])) _
        refine XS.dup X27.here hx rfl (hb hby d1_70) rfl rfl ?_
        show Steps p.tables e below (T27.setTop (mkF m 71 #[.val (.int i), .val (.long q), .second, .val (.int j)] [(.ref b23), (.ref b23)])) _
        refine XS.iconst X27.here hx rfl (hb hby d1_71) ?_
        show Steps p.tables e below (T27.setTop (mkF m 72 #[.val (.int i), .val (.long q), .second, .val (.int j)] [(.int (2 : Int32)), (.ref b23), (.ref b23)])) _
        refine XS.bipush X27.here hx rfl (hb hby d1_72) ?_
        show Steps p.tables e below (T27.setTop (mkF m 74 #[.val (.int i), .val (.long q), .second, .val (.int j)] [(.int (118 : Int32)), (.int (2 : Int32)), (.ref b23), (.ref b23)])) _
        refine st29 _ ?_
        show Steps p.tables e below (T29.setTop (mkF m 75 #[.val (.int i), .val (.long q), .second, .val (.int j)] [(.ref b23)])) _
        refine XS.dup X29.here hx rfl (hb hby d1_75) rfl rfl ?_
        show Steps p.tables e below (T29.setTop (mkF m 76 #[.val (.int i), .val (.long q), .second, .val (.int j)] [(.ref b23), (.ref b23)])) _
        refine XS.iconst X29.here hx rfl (hb hby d1_76) ?_
        show Steps p.tables e below (T29.setTop (mkF m 77 #[.val (.int i), .val (.long q), .second, .val (.int j)] [(.int (3 : Int32)), (.ref b23), (.ref b23)])) _
        refine XS.bipush X29.here hx rfl (hb hby d1_77) ?_
        show Steps p.tables e below (T29.setTop (mkF m 79 #[.val (.int i), .val (.long q), .second, .val (.int j)] [(.int (105 : Int32)), (.int (3 : Int32)), (.ref b23), (.ref b23)])) _
        refine st31 _ ?_
        show Steps p.tables e below (T31.setTop (mkF m 80 #[.val (.int i), .val (.long q), .second, .val (.int j)] [(.ref b23)])) _
        refine XS.dup X31.here hx rfl (hb hby d1_80) rfl rfl ?_
        show Steps p.tables e below (T31.setTop (mkF m 81 #[.val (.int i), .val (.long q), .second, .val (.int j)] [(.ref b23), (.ref b23)])) _
        refine XS.iconst X31.here hx rfl (hb hby d1_81) ?_
        show Steps p.tables e below (T31.setTop (mkF m 82 #[.val (.int i), .val (.long q), .second, .val (.int j)] [(.int (4 : Int32)), (.ref b23), (.ref b23)])) _
        refine XS.bipush X31.here hx rfl (hb hby d1_82) ?_
        show Steps p.tables e below (T31.setTop (mkF m 84 #[.val (.int i), .val (.long q), .second, .val (.int j)] [(.int (115 : Int32)), (.int (4 : Int32)), (.ref b23), (.ref b23)])) _
        refine st33 _ ?_
        show Steps p.tables e below (T33.setTop (mkF m 85 #[.val (.int i), .val (.long q), .second, .val (.int j)] [(.ref b23)])) _
        refine XS.dup X33.here hx rfl (hb hby d1_85) rfl rfl ?_
        show Steps p.tables e below (T33.setTop (mkF m 86 #[.val (.int i), .val (.long q), .second, .val (.int j)] [(.ref b23), (.ref b23)])) _
        refine XS.iconst X33.here hx rfl (hb hby d1_86) ?_
        show Steps p.tables e below (T33.setTop (mkF m 87 #[.val (.int i), .val (.long q), .second, .val (.int j)] [(.int (5 : Int32)), (.ref b23), (.ref b23)])) _
        refine XS.bipush X33.here hx rfl (hb hby d1_87) ?_
        show Steps p.tables e below (T33.setTop (mkF m 89 #[.val (.int i), .val (.long q), .second, .val (.int j)] [(.int (105 : Int32)), (.int (5 : Int32)), (.ref b23), (.ref b23)])) _
        refine st35 _ ?_
        show Steps p.tables e below (T35.setTop (mkF m 90 #[.val (.int i), .val (.long q), .second, .val (.int j)] [(.ref b23)])) _
        refine XS.dup X35.here hx rfl (hb hby d1_90) rfl rfl ?_
        show Steps p.tables e below (T35.setTop (mkF m 91 #[.val (.int i), .val (.long q), .second, .val (.int j)] [(.ref b23), (.ref b23)])) _
        refine XS.bipush X35.here hx rfl (hb hby d1_91) ?_
        show Steps p.tables e below (T35.setTop (mkF m 93 #[.val (.int i), .val (.long q), .second, .val (.int j)] [(.int (6 : Int32)), (.ref b23), (.ref b23)])) _
        refine XS.bipush X35.here hx rfl (hb hby d1_93) ?_
        show Steps p.tables e below (T35.setTop (mkF m 95 #[.val (.int i), .val (.long q), .second, .val (.int j)] [(.int (116 : Int32)), (.int (6 : Int32)), (.ref b23), (.ref b23)])) _
        refine st37 _ ?_
        show Steps p.tables e below (T37.setTop (mkF m 96 #[.val (.int i), .val (.long q), .second, .val (.int j)] [(.ref b23)])) _
        exact k
      obtain ⟨fs, hr, hrun, hended, hW, hsame⟩ := X37.leave (v := some (.ref b23)) (fun h => by rw [Bd.returns] at h; cases h)
      refine ⟨_, _, w38 _ ?_, hrun, hended, _, _, rfl, ?_, ⟨_, rfl⟩, hW, hsame.mono (by decide) (by decide)⟩
      · jvm_step X37.here [X37.here.top, hx, (hb hby d1_96), X37.method', Bd.returns, Value.isRef, FieldType.isReference]
        first | (intro acts; rw [hr _ acts rfl rfl rfl]) | rw [hr _ _ rfl rfl rfl]
        exact Steps.refl _
      · show Q1 Z i q j  h0 n0 _ T37.heap _
        rw [e37]
        exact ⟨b23, k23, [(114 : Int32), (101 : Int32), (118 : Int32), (105 : Int32), (115 : Int32), (105 : Int32), (116 : Int32)], rfl, N37, K, V_b23, z_b23, g_b23, (Nat.le_of_ble_eq_true rfl), (List.forall_mem_cons.mpr ⟨⟨by decide, by decide⟩, List.forall_mem_cons.mpr ⟨⟨by decide, by decide⟩, List.forall_mem_cons.mpr ⟨⟨by decide, by decide⟩, List.forall_mem_cons.mpr ⟨⟨by decide, by decide⟩, List.forall_mem_cons.mpr ⟨⟨by decide, by decide⟩, List.forall_mem_cons.mpr ⟨⟨by decide, by decide⟩, List.forall_mem_cons.mpr ⟨⟨by decide, by decide⟩, fun c hc => nomatch hc⟩⟩⟩⟩⟩⟩⟩)⟩
    · have w39 : ∀ t, Steps p.tables e below (s₁.setTop (mkF m 99 #[.val (.int i), .val (.long q), .second, .val (.int j)] [(.int (2 : Int32)), (.int i)])) t → Steps p.tables e below (s₁.setTop (entryFrame m #[(.int i), (.long q), (.int j)] 4)) t := fun t k => by
        refine w21 t ?_
        refine XS.icmpYes X0.here hx rfl (pc0 := 53) (pc' := 97) rfl (hb hby d1_53) rfl (feq hc53_22).2 (by decide) (by decide) ?_
        show Steps p.tables e below (s₁.setTop (mkF m 97 #[.val (.int i), .val (.long q), .second, .val (.int j)] [])) _
        refine XS.iloadN X0.here hx rfl (hb hby d1_97) rfl ?_
        show Steps p.tables e below (s₁.setTop (mkF m 98 #[.val (.int i), .val (.long q), .second, .val (.int j)] [(.int i)])) _
        refine XS.iconst X0.here hx rfl (hb hby d1_98) ?_
        show Steps p.tables e below (s₁.setTop (mkF m 99 #[.val (.int i), .val (.long q), .second, .val (.int j)] [(.int (2 : Int32)), (.int i)])) _
        exact k
      by_cases hc99_40 : i = (2 : Int32)
      · obtain ⟨T41, h41, k41, X41, e41, E41, A41, st41⟩ := newP X0 hx hZ (hw _ (List.mem_of_getElem? (i := 4) rfl)) e0 (g := (mkF m 104 #[.val (.int i), .val (.long q), .second, .val (.int j)] [(.int (8 : Int32))])) rfl (hb hby d1_104) rfl (by decide) (cap := 8) (by decide) (by decide) (by decide) (by decide)
        obtain ⟨b41, gq41⟩ : ∃ z, z = Array.size h0 := ⟨_, rfl⟩
        rw [← gq41] at A41 st41
        have g_b41 : n0 ≤ b41 := Nat.le_trans (O.1 ▸ O.2.1) (Nat.le_of_eq gq41.symm)
        have z_b41 : h0.size ≤ b41 := Nat.le_trans K.1 (Nat.le_of_eq gq41.symm)
        have O := O.ext E41
        have K := K.ext E41
        have V_b41 : Arv Z h41 b41 k41 .char (8 : Int32) [(.int (0 : Int32)), (.int (0 : Int32)), (.int (0 : Int32)), (.int (0 : Int32)), (.int (0 : Int32)), (.int (0 : Int32)), (.int (0 : Int32)), (.int (0 : Int32))] (.int (0 : Int32)) := (Arv.new A41 (by decide)).pad (pad_rep [] (.int (0 : Int32)) 8)
        obtain ⟨cl42, Ar42, q42, Z42, N42, H42, G42⟩ := id V_b41
        have hin42 : ¬ ((0 : Int32) < 0 ∨ cl42.slots.size ≤ ((0 : Int32)).toNatClampNeg) := inb_of Z42 ⟨by decide, by decide⟩
        obtain ⟨T43, h43, X43, e43, W43, st43⟩ := stC X41 hx hZ e41 Ar42 (j := (0 : Int32)) hin42 (g := (mkF m 110 #[.val (.int i), .val (.long q), .second, .val (.int j)] [(.int (114 : Int32)), (.int (0 : Int32)), (.ref b41), (.ref b41)])) rfl rfl (hb hby d1_110)
        have V_b41 : Arv Z h43 b41 k41 .char (8 : Int32) [(.int (114 : Int32)), (.int (0 : Int32)), (.int (0 : Int32)), (.int (0 : Int32)), (.int (0 : Int32)), (.int (0 : Int32)), (.int (0 : Int32)), (.int (0 : Int32))] (.int (0 : Int32)) := Arv.set Ar42 q42 Z42 N42 H42 G42 (fits_nar_char _) W43 0 rfl (Nat.le_of_ble_eq_true rfl)
        have O := O.wr W43 g_b41
        have K := K.wr W43 (Or.inr z_b41)
        have N43 := Fr.snoc X43 N0 g_b41
        obtain ⟨cl44, Ar44, q44, Z44, N44, H44, G44⟩ := id V_b41
        have hin44 : ¬ ((1 : Int32) < 0 ∨ cl44.slots.size ≤ ((1 : Int32)).toNatClampNeg) := inb_of Z44 ⟨by decide, by decide⟩
        obtain ⟨T45, h45, X45, e45, W45, st45⟩ := stC X43 hx hZ e43 Ar44 (j := (1 : Int32)) hin44 (g := (mkF m 115 #[.val (.int i), .val (.long q), .second, .val (.int j)] [(.int (101 : Int32)), (.int (1 : Int32)), (.ref b41), (.ref b41)])) rfl rfl (hb hby d1_115)
        have V_b41 : Arv Z h45 b41 k41 .char (8 : Int32) [(.int (114 : Int32)), (.int (101 : Int32)), (.int (0 : Int32)), (.int (0 : Int32)), (.int (0 : Int32)), (.int (0 : Int32)), (.int (0 : Int32)), (.int (0 : Int32))] (.int (0 : Int32)) := Arv.set Ar44 q44 Z44 N44 H44 G44 (fits_nar_char _) W45 1 rfl (Nat.le_of_ble_eq_true rfl)
        have O := O.wr W45 g_b41
        have K := K.wr W45 (Or.inr z_b41)
        have N45 := Fr.snoc X45 N43 g_b41
        obtain ⟨cl46, Ar46, q46, Z46, N46, H46, G46⟩ := id V_b41
        have hin46 : ¬ ((2 : Int32) < 0 ∨ cl46.slots.size ≤ ((2 : Int32)).toNatClampNeg) := inb_of Z46 ⟨by decide, by decide⟩
        obtain ⟨T47, h47, X47, e47, W47, st47⟩ := stC X45 hx hZ e45 Ar46 (j := (2 : Int32)) hin46 (g := (mkF m 120 #[.val (.int i), .val (.long q), .second, .val (.int j)] [(.int (115 : Int32)), (.int (2 : Int32)), (.ref b41), (.ref b41)])) rfl rfl (hb hby d1_120)
        have V_b41 : Arv Z h47 b41 k41 .char (8 : Int32) [(.int (114 : Int32)), (.int (101 : Int32)), (.int (115 : Int32)), (.int (0 : Int32)), (.int (0 : Int32)), (.int (0 : Int32)), (.int (0 : Int32)), (.int (0 : Int32))] (.int (0 : Int32)) := Arv.set Ar46 q46 Z46 N46 H46 G46 (fits_nar_char _) W47 2 rfl (Nat.le_of_ble_eq_true rfl)
        have O := O.wr W47 g_b41
        have K := K.wr W47 (Or.inr z_b41)
        have N47 := Fr.snoc X47 N45 g_b41
        obtain ⟨cl48, Ar48, q48, Z48, N48, H48, G48⟩ := id V_b41
        have hin48 : ¬ ((3 : Int32) < 0 ∨ cl48.slots.size ≤ ((3 : Int32)).toNatClampNeg) := inb_of Z48 ⟨by decide, by decide⟩
        obtain ⟨T49, h49, X49, e49, W49, st49⟩ := stC X47 hx hZ e47 Ar48 (j := (3 : Int32)) hin48 (g := (mkF m 125 #[.val (.int i), .val (.long q), .second, .val (.int j)] [(.int (111 : Int32)), (.int (3 : Int32)), (.ref b41), (.ref b41)])) rfl rfl (hb hby d1_125)
        have V_b41 : Arv Z h49 b41 k41 .char (8 : Int32) [(.int (114 : Int32)), (.int (101 : Int32)), (.int (115 : Int32)), (.int (111 : Int32)), (.int (0 : Int32)), (.int (0 : Int32)), (.int (0 : Int32)), (.int (0 : Int32))] (.int (0 : Int32)) := Arv.set Ar48 q48 Z48 N48 H48 G48 (fits_nar_char _) W49 3 rfl (Nat.le_of_ble_eq_true rfl)
        have O := O.wr W49 g_b41
        have K := K.wr W49 (Or.inr z_b41)
        have N49 := Fr.snoc X49 N47 g_b41
        obtain ⟨cl50, Ar50, q50, Z50, N50, H50, G50⟩ := id V_b41
        have hin50 : ¬ ((4 : Int32) < 0 ∨ cl50.slots.size ≤ ((4 : Int32)).toNatClampNeg) := inb_of Z50 ⟨by decide, by decide⟩
        obtain ⟨T51, h51, X51, e51, W51, st51⟩ := stC X49 hx hZ e49 Ar50 (j := (4 : Int32)) hin50 (g := (mkF m 130 #[.val (.int i), .val (.long q), .second, .val (.int j)] [(.int (117 : Int32)), (.int (4 : Int32)), (.ref b41), (.ref b41)])) rfl rfl (hb hby d1_130)
        have V_b41 : Arv Z h51 b41 k41 .char (8 : Int32) [(.int (114 : Int32)), (.int (101 : Int32)), (.int (115 : Int32)), (.int (111 : Int32)), (.int (117 : Int32)), (.int (0 : Int32)), (.int (0 : Int32)), (.int (0 : Int32))] (.int (0 : Int32)) := Arv.set Ar50 q50 Z50 N50 H50 G50 (fits_nar_char _) W51 4 rfl (Nat.le_of_ble_eq_true rfl)
        have O := O.wr W51 g_b41
        have K := K.wr W51 (Or.inr z_b41)
        have N51 := Fr.snoc X51 N49 g_b41
        obtain ⟨cl52, Ar52, q52, Z52, N52, H52, G52⟩ := id V_b41
        have hin52 : ¬ ((5 : Int32) < 0 ∨ cl52.slots.size ≤ ((5 : Int32)).toNatClampNeg) := inb_of Z52 ⟨by decide, by decide⟩
        obtain ⟨T53, h53, X53, e53, W53, st53⟩ := stC X51 hx hZ e51 Ar52 (j := (5 : Int32)) hin52 (g := (mkF m 135 #[.val (.int i), .val (.long q), .second, .val (.int j)] [(.int (114 : Int32)), (.int (5 : Int32)), (.ref b41), (.ref b41)])) rfl rfl (hb hby d1_135)
        have V_b41 : Arv Z h53 b41 k41 .char (8 : Int32) [(.int (114 : Int32)), (.int (101 : Int32)), (.int (115 : Int32)), (.int (111 : Int32)), (.int (117 : Int32)), (.int (114 : Int32)), (.int (0 : Int32)), (.int (0 : Int32))] (.int (0 : Int32)) := Arv.set Ar52 q52 Z52 N52 H52 G52 (fits_nar_char _) W53 5 rfl (Nat.le_of_ble_eq_true rfl)
        have O := O.wr W53 g_b41
        have K := K.wr W53 (Or.inr z_b41)
        have N53 := Fr.snoc X53 N51 g_b41
        obtain ⟨cl54, Ar54, q54, Z54, N54, H54, G54⟩ := id V_b41
        have hin54 : ¬ ((6 : Int32) < 0 ∨ cl54.slots.size ≤ ((6 : Int32)).toNatClampNeg) := inb_of Z54 ⟨by decide, by decide⟩
        obtain ⟨T55, h55, X55, e55, W55, st55⟩ := stC X53 hx hZ e53 Ar54 (j := (6 : Int32)) hin54 (g := (mkF m 141 #[.val (.int i), .val (.long q), .second, .val (.int j)] [(.int (99 : Int32)), (.int (6 : Int32)), (.ref b41), (.ref b41)])) rfl rfl (hb hby d1_141)
        have V_b41 : Arv Z h55 b41 k41 .char (8 : Int32) [(.int (114 : Int32)), (.int (101 : Int32)), (.int (115 : Int32)), (.int (111 : Int32)), (.int (117 : Int32)), (.int (114 : Int32)), (.int (99 : Int32)), (.int (0 : Int32))] (.int (0 : Int32)) := Arv.set Ar54 q54 Z54 N54 H54 G54 (fits_nar_char _) W55 6 rfl (Nat.le_of_ble_eq_true rfl)
        have O := O.wr W55 g_b41
        have K := K.wr W55 (Or.inr z_b41)
        have N55 := Fr.snoc X55 N53 g_b41
        obtain ⟨cl56, Ar56, q56, Z56, N56, H56, G56⟩ := id V_b41
        have hin56 : ¬ ((7 : Int32) < 0 ∨ cl56.slots.size ≤ ((7 : Int32)).toNatClampNeg) := inb_of Z56 ⟨by decide, by decide⟩
        obtain ⟨T57, h57, X57, e57, W57, st57⟩ := stC X55 hx hZ e55 Ar56 (j := (7 : Int32)) hin56 (g := (mkF m 147 #[.val (.int i), .val (.long q), .second, .val (.int j)] [(.int (101 : Int32)), (.int (7 : Int32)), (.ref b41), (.ref b41)])) rfl rfl (hb hby d1_147)
        have V_b41 : Arv Z h57 b41 k41 .char (8 : Int32) [(.int (114 : Int32)), (.int (101 : Int32)), (.int (115 : Int32)), (.int (111 : Int32)), (.int (117 : Int32)), (.int (114 : Int32)), (.int (99 : Int32)), (.int (101 : Int32))] (.int (0 : Int32)) := Arv.set Ar56 q56 Z56 N56 H56 G56 (fits_nar_char _) W57 7 rfl (Nat.le_of_ble_eq_true rfl)
        have O := O.wr W57 g_b41
        have K := K.wr W57 (Or.inr z_b41)
        have N57 := Fr.snoc X57 N55 g_b41
        have w58 : ∀ t, Steps p.tables e below (T57.setTop (mkF m 148 #[.val (.int i), .val (.long q), .second, .val (.int j)] [(.ref b41)])) t → Steps p.tables e below (s₁.setTop (entryFrame m #[(.int i), (.long q), (.int j)] 4)) t := fun t k => by
          refine w39 t ?_
          refine XS.icmpNo X0.here hx rfl (hb hby d1_99) rfl (teq hc99_40).2 ?_
          show Steps p.tables e below (s₁.setTop (mkF m 102 #[.val (.int i), .val (.long q), .second, .val (.int j)] [])) _
          refine XS.bipush X0.here hx rfl (hb hby d1_102) ?_
          show Steps p.tables e below (s₁.setTop (mkF m 104 #[.val (.int i), .val (.long q), .second, .val (.int j)] [(.int (8 : Int32))])) _
          refine st41 _ ?_
          show Steps p.tables e below (T41.setTop (mkF m 106 #[.val (.int i), .val (.long q), .second, .val (.int j)] [(.ref b41)])) _
          refine XS.dup X41.here hx rfl (hb hby d1_106) rfl rfl ?_
          show Steps p.tables e below (T41.setTop (mkF m 107 #[.val (.int i), .val (.long q), .second, .val (.int j)] [(.ref b41), (.ref b41)])) _
          refine XS.iconst X41.here hx rfl (hb hby d1_107) ?_
          show Steps p.tables e below (T41.setTop (mkF m 108 #[.val (.int i), .val (.long q), .second, .val (.int j)] [(.int (0 : Int32)), (.ref b41), (.ref b41)])) _
          refine XS.bipush X41.here hx rfl (hb hby d1_108) ?_
          show Steps p.tables e below (T41.setTop (mkF m 110 #[.val (.int i), .val (.long q), .second, .val (.int j)] [(.int (114 : Int32)), (.int (0 : Int32)), (.ref b41), (.ref b41)])) _
          refine st43 _ ?_
          show Steps p.tables e below (T43.setTop (mkF m 111 #[.val (.int i), .val (.long q), .second, .val (.int j)] [(.ref b41)])) _
          refine XS.dup X43.here hx rfl (hb hby d1_111) rfl rfl ?_
          show Steps p.tables e below (T43.setTop (mkF m 112 #[.val (.int i), .val (.long q), .second, .val (.int j)] [(.ref b41), (.ref b41)])) _
          refine XS.iconst X43.here hx rfl (hb hby d1_112) ?_
          show Steps p.tables e below (T43.setTop (mkF m 113 #[.val (.int i), .val (.long q), .second, .val (.int j)] [(.int (1 : Int32)), (.ref b41), (.ref b41)])) _
          refine XS.bipush X43.here hx rfl (hb hby d1_113) ?_
          show Steps p.tables e below (T43.setTop (mkF m 115 #[.val (.int i), .val (.long q), .second, .val (.int j)] [(.int (101 : Int32)), (.int (1 : Int32)), (.ref b41), (.ref b41)])) _
          refine st45 _ ?_
          show Steps p.tables e below (T45.setTop (mkF m 116 #[.val (.int i), .val (.long q), .second, .val (.int j)] [(.ref b41)])) _
          refine XS.dup X45.here hx rfl (hb hby d1_116) rfl rfl ?_
          show Steps p.tables e below (T45.setTop (mkF m 117 #[.val (.int i), .val (.long q), .second, .val (.int j)] [(.ref b41), (.ref b41)])) _
          refine XS.iconst X45.here hx rfl (hb hby d1_117) ?_
          show Steps p.tables e below (T45.setTop (mkF m 118 #[.val (.int i), .val (.long q), .second, .val (.int j)] [(.int (2 : Int32)), (.ref b41), (.ref b41)])) _
          refine XS.bipush X45.here hx rfl (hb hby d1_118) ?_
          show Steps p.tables e below (T45.setTop (mkF m 120 #[.val (.int i), .val (.long q), .second, .val (.int j)] [(.int (115 : Int32)), (.int (2 : Int32)), (.ref b41), (.ref b41)])) _
          refine st47 _ ?_
          show Steps p.tables e below (T47.setTop (mkF m 121 #[.val (.int i), .val (.long q), .second, .val (.int j)] [(.ref b41)])) _
          refine XS.dup X47.here hx rfl (hb hby d1_121) rfl rfl ?_
          show Steps p.tables e below (T47.setTop (mkF m 122 #[.val (.int i), .val (.long q), .second, .val (.int j)] [(.ref b41), (.ref b41)])) _
          refine XS.iconst X47.here hx rfl (hb hby d1_122) ?_
          show Steps p.tables e below (T47.setTop (mkF m 123 #[.val (.int i), .val (.long q), .second, .val (.int j)] [(.int (3 : Int32)), (.ref b41), (.ref b41)])) _
          refine XS.bipush X47.here hx rfl (hb hby d1_123) ?_
          show Steps p.tables e below (T47.setTop (mkF m 125 #[.val (.int i), .val (.long q), .second, .val (.int j)] [(.int (111 : Int32)), (.int (3 : Int32)), (.ref b41), (.ref b41)])) _
          refine st49 _ ?_
          show Steps p.tables e below (T49.setTop (mkF m 126 #[.val (.int i), .val (.long q), .second, .val (.int j)] [(.ref b41)])) _
          refine XS.dup X49.here hx rfl (hb hby d1_126) rfl rfl ?_
          show Steps p.tables e below (T49.setTop (mkF m 127 #[.val (.int i), .val (.long q), .second, .val (.int j)] [(.ref b41), (.ref b41)])) _
          refine XS.iconst X49.here hx rfl (hb hby d1_127) ?_
          show Steps p.tables e below (T49.setTop (mkF m 128 #[.val (.int i), .val (.long q), .second, .val (.int j)] [(.int (4 : Int32)), (.ref b41), (.ref b41)])) _
          refine XS.bipush X49.here hx rfl (hb hby d1_128) ?_
          show Steps p.tables e below (T49.setTop (mkF m 130 #[.val (.int i), .val (.long q), .second, .val (.int j)] [(.int (117 : Int32)), (.int (4 : Int32)), (.ref b41), (.ref b41)])) _
          refine st51 _ ?_
          show Steps p.tables e below (T51.setTop (mkF m 131 #[.val (.int i), .val (.long q), .second, .val (.int j)] [(.ref b41)])) _
          refine XS.dup X51.here hx rfl (hb hby d1_131) rfl rfl ?_
          show Steps p.tables e below (T51.setTop (mkF m 132 #[.val (.int i), .val (.long q), .second, .val (.int j)] [(.ref b41), (.ref b41)])) _
          refine XS.iconst X51.here hx rfl (hb hby d1_132) ?_
          show Steps p.tables e below (T51.setTop (mkF m 133 #[.val (.int i), .val (.long q), .second, .val (.int j)] [(.int (5 : Int32)), (.ref b41), (.ref b41)])) _
          refine XS.bipush X51.here hx rfl (hb hby d1_133) ?_
          show Steps p.tables e below (T51.setTop (mkF m 135 #[.val (.int i), .val (.long q), .second, .val (.int j)] [(.int (114 : Int32)), (.int (5 : Int32)), (.ref b41), (.ref b41)])) _
          refine st53 _ ?_
          show Steps p.tables e below (T53.setTop (mkF m 136 #[.val (.int i), .val (.long q), .second, .val (.int j)] [(.ref b41)])) _
          refine XS.dup X53.here hx rfl (hb hby d1_136) rfl rfl ?_
          show Steps p.tables e below (T53.setTop (mkF m 137 #[.val (.int i), .val (.long q), .second, .val (.int j)] [(.ref b41), (.ref b41)])) _
          refine XS.bipush X53.here hx rfl (hb hby d1_137) ?_
          show Steps p.tables e below (T53.setTop (mkF m 139 #[.val (.int i), .val (.long q), .second, .val (.int j)] [(.int (6 : Int32)), (.ref b41), (.ref b41)])) _
          refine XS.bipush X53.here hx rfl (hb hby d1_139) ?_
          show Steps p.tables e below (T53.setTop (mkF m 141 #[.val (.int i), .val (.long q), .second, .val (.int j)] [(.int (99 : Int32)), (.int (6 : Int32)), (.ref b41), (.ref b41)])) _
          refine st55 _ ?_
          show Steps p.tables e below (T55.setTop (mkF m 142 #[.val (.int i), .val (.long q), .second, .val (.int j)] [(.ref b41)])) _
          refine XS.dup X55.here hx rfl (hb hby d1_142) rfl rfl ?_
          show Steps p.tables e below (T55.setTop (mkF m 143 #[.val (.int i), .val (.long q), .second, .val (.int j)] [(.ref b41), (.ref b41)])) _
          refine XS.bipush X55.here hx rfl (hb hby d1_143) ?_
          show Steps p.tables e below (T55.setTop (mkF m 145 #[.val (.int i), .val (.long q), .second, .val (.int j)] [(.int (7 : Int32)), (.ref b41), (.ref b41)])) _
          refine XS.bipush X55.here hx rfl (hb hby d1_145) ?_
          show Steps p.tables e below (T55.setTop (mkF m 147 #[.val (.int i), .val (.long q), .second, .val (.int j)] [(.int (101 : Int32)), (.int (7 : Int32)), (.ref b41), (.ref b41)])) _
          refine st57 _ ?_
          show Steps p.tables e below (T57.setTop (mkF m 148 #[.val (.int i), .val (.long q), .second, .val (.int j)] [(.ref b41)])) _
          exact k
        obtain ⟨fs, hr, hrun, hended, hW, hsame⟩ := X57.leave (v := some (.ref b41)) (fun h => by rw [Bd.returns] at h; cases h)
        refine ⟨_, _, w58 _ ?_, hrun, hended, _, _, rfl, ?_, ⟨_, rfl⟩, hW, hsame.mono (by decide) (by decide)⟩
        · jvm_step X57.here [X57.here.top, hx, (hb hby d1_148), X57.method', Bd.returns, Value.isRef, FieldType.isReference]
          first | (intro acts; rw [hr _ acts rfl rfl rfl]) | rw [hr _ _ rfl rfl rfl]
          exact Steps.refl _
        · show Q1 Z i q j  h0 n0 _ T57.heap _
          rw [e57]
          exact ⟨b41, k41, [(114 : Int32), (101 : Int32), (115 : Int32), (111 : Int32), (117 : Int32), (114 : Int32), (99 : Int32), (101 : Int32)], rfl, N57, K, V_b41, z_b41, g_b41, (Nat.le_of_ble_eq_true rfl), (List.forall_mem_cons.mpr ⟨⟨by decide, by decide⟩, List.forall_mem_cons.mpr ⟨⟨by decide, by decide⟩, List.forall_mem_cons.mpr ⟨⟨by decide, by decide⟩, List.forall_mem_cons.mpr ⟨⟨by decide, by decide⟩, List.forall_mem_cons.mpr ⟨⟨by decide, by decide⟩, List.forall_mem_cons.mpr ⟨⟨by decide, by decide⟩, List.forall_mem_cons.mpr ⟨⟨by decide, by decide⟩, List.forall_mem_cons.mpr ⟨⟨by decide, by decide⟩, fun c hc => nomatch hc⟩⟩⟩⟩⟩⟩⟩⟩)⟩
      · have w59 : ∀ t, Steps p.tables e below (s₁.setTop (mkF m 151 #[.val (.int i), .val (.long q), .second, .val (.int j)] [(.int (3 : Int32)), (.int i)])) t → Steps p.tables e below (s₁.setTop (entryFrame m #[(.int i), (.long q), (.int j)] 4)) t := fun t k => by
          refine w39 t ?_
          refine XS.icmpYes X0.here hx rfl (pc0 := 99) (pc' := 149) rfl (hb hby d1_99) rfl (feq hc99_40).2 (by decide) (by decide) ?_
          show Steps p.tables e below (s₁.setTop (mkF m 149 #[.val (.int i), .val (.long q), .second, .val (.int j)] [])) _
          refine XS.iloadN X0.here hx rfl (hb hby d1_149) rfl ?_
          show Steps p.tables e below (s₁.setTop (mkF m 150 #[.val (.int i), .val (.long q), .second, .val (.int j)] [(.int i)])) _
          refine XS.iconst X0.here hx rfl (hb hby d1_150) ?_
          show Steps p.tables e below (s₁.setTop (mkF m 151 #[.val (.int i), .val (.long q), .second, .val (.int j)] [(.int (3 : Int32)), (.int i)])) _
          exact k
        by_cases hc151_60 : i = (3 : Int32)
        · obtain ⟨T61, h61, k61, X61, e61, E61, A61, st61⟩ := newP X0 hx hZ (hw _ (List.mem_of_getElem? (i := 4) rfl)) e0 (g := (mkF m 156 #[.val (.int i), .val (.long q), .second, .val (.int j)] [(.int (9 : Int32))])) rfl (hb hby d1_156) rfl (by decide) (cap := 9) (by decide) (by decide) (by decide) (by decide)
          obtain ⟨b61, gq61⟩ : ∃ z, z = Array.size h0 := ⟨_, rfl⟩
          rw [← gq61] at A61 st61
          have g_b61 : n0 ≤ b61 := Nat.le_trans (O.1 ▸ O.2.1) (Nat.le_of_eq gq61.symm)
          have z_b61 : h0.size ≤ b61 := Nat.le_trans K.1 (Nat.le_of_eq gq61.symm)
          have O := O.ext E61
          have K := K.ext E61
          have V_b61 : Arv Z h61 b61 k61 .char (9 : Int32) [(.int (0 : Int32)), (.int (0 : Int32)), (.int (0 : Int32)), (.int (0 : Int32)), (.int (0 : Int32)), (.int (0 : Int32)), (.int (0 : Int32)), (.int (0 : Int32)), (.int (0 : Int32))] (.int (0 : Int32)) := (Arv.new A61 (by decide)).pad (pad_rep [] (.int (0 : Int32)) 9)
          obtain ⟨cl62, Ar62, q62, Z62, N62, H62, G62⟩ := id V_b61
          have hin62 : ¬ ((0 : Int32) < 0 ∨ cl62.slots.size ≤ ((0 : Int32)).toNatClampNeg) := inb_of Z62 ⟨by decide, by decide⟩
          obtain ⟨T63, h63, X63, e63, W63, st63⟩ := stC X61 hx hZ e61 Ar62 (j := (0 : Int32)) hin62 (g := (mkF m 162 #[.val (.int i), .val (.long q), .second, .val (.int j)] [(.int (114 : Int32)), (.int (0 : Int32)), (.ref b61), (.ref b61)])) rfl rfl (hb hby d1_162)
          have V_b61 : Arv Z h63 b61 k61 .char (9 : Int32) [(.int (114 : Int32)), (.int (0 : Int32)), (.int (0 : Int32)), (.int (0 : Int32)), (.int (0 : Int32)), (.int (0 : Int32)), (.int (0 : Int32)), (.int (0 : Int32)), (.int (0 : Int32))] (.int (0 : Int32)) := Arv.set Ar62 q62 Z62 N62 H62 G62 (fits_nar_char _) W63 0 rfl (Nat.le_of_ble_eq_true rfl)
          have O := O.wr W63 g_b61
          have K := K.wr W63 (Or.inr z_b61)
          have N63 := Fr.snoc X63 N0 g_b61
          obtain ⟨cl64, Ar64, q64, Z64, N64, H64, G64⟩ := id V_b61
          have hin64 : ¬ ((1 : Int32) < 0 ∨ cl64.slots.size ≤ ((1 : Int32)).toNatClampNeg) := inb_of Z64 ⟨by decide, by decide⟩
          obtain ⟨T65, h65, X65, e65, W65, st65⟩ := stC X63 hx hZ e63 Ar64 (j := (1 : Int32)) hin64 (g := (mkF m 167 #[.val (.int i), .val (.long q), .second, .val (.int j)] [(.int (101 : Int32)), (.int (1 : Int32)), (.ref b61), (.ref b61)])) rfl rfl (hb hby d1_167)
          have V_b61 : Arv Z h65 b61 k61 .char (9 : Int32) [(.int (114 : Int32)), (.int (101 : Int32)), (.int (0 : Int32)), (.int (0 : Int32)), (.int (0 : Int32)), (.int (0 : Int32)), (.int (0 : Int32)), (.int (0 : Int32)), (.int (0 : Int32))] (.int (0 : Int32)) := Arv.set Ar64 q64 Z64 N64 H64 G64 (fits_nar_char _) W65 1 rfl (Nat.le_of_ble_eq_true rfl)
          have O := O.wr W65 g_b61
          have K := K.wr W65 (Or.inr z_b61)
          have N65 := Fr.snoc X65 N63 g_b61
          obtain ⟨cl66, Ar66, q66, Z66, N66, H66, G66⟩ := id V_b61
          have hin66 : ¬ ((2 : Int32) < 0 ∨ cl66.slots.size ≤ ((2 : Int32)).toNatClampNeg) := inb_of Z66 ⟨by decide, by decide⟩
          obtain ⟨T67, h67, X67, e67, W67, st67⟩ := stC X65 hx hZ e65 Ar66 (j := (2 : Int32)) hin66 (g := (mkF m 172 #[.val (.int i), .val (.long q), .second, .val (.int j)] [(.int (115 : Int32)), (.int (2 : Int32)), (.ref b61), (.ref b61)])) rfl rfl (hb hby d1_172)
          have V_b61 : Arv Z h67 b61 k61 .char (9 : Int32) [(.int (114 : Int32)), (.int (101 : Int32)), (.int (115 : Int32)), (.int (0 : Int32)), (.int (0 : Int32)), (.int (0 : Int32)), (.int (0 : Int32)), (.int (0 : Int32)), (.int (0 : Int32))] (.int (0 : Int32)) := Arv.set Ar66 q66 Z66 N66 H66 G66 (fits_nar_char _) W67 2 rfl (Nat.le_of_ble_eq_true rfl)
          have O := O.wr W67 g_b61
          have K := K.wr W67 (Or.inr z_b61)
          have N67 := Fr.snoc X67 N65 g_b61
          obtain ⟨cl68, Ar68, q68, Z68, N68, H68, G68⟩ := id V_b61
          have hin68 : ¬ ((3 : Int32) < 0 ∨ cl68.slots.size ≤ ((3 : Int32)).toNatClampNeg) := inb_of Z68 ⟨by decide, by decide⟩
          obtain ⟨T69, h69, X69, e69, W69, st69⟩ := stC X67 hx hZ e67 Ar68 (j := (3 : Int32)) hin68 (g := (mkF m 177 #[.val (.int i), .val (.long q), .second, .val (.int j)] [(.int (112 : Int32)), (.int (3 : Int32)), (.ref b61), (.ref b61)])) rfl rfl (hb hby d1_177)
          have V_b61 : Arv Z h69 b61 k61 .char (9 : Int32) [(.int (114 : Int32)), (.int (101 : Int32)), (.int (115 : Int32)), (.int (112 : Int32)), (.int (0 : Int32)), (.int (0 : Int32)), (.int (0 : Int32)), (.int (0 : Int32)), (.int (0 : Int32))] (.int (0 : Int32)) := Arv.set Ar68 q68 Z68 N68 H68 G68 (fits_nar_char _) W69 3 rfl (Nat.le_of_ble_eq_true rfl)
          have O := O.wr W69 g_b61
          have K := K.wr W69 (Or.inr z_b61)
          have N69 := Fr.snoc X69 N67 g_b61
          obtain ⟨cl70, Ar70, q70, Z70, N70, H70, G70⟩ := id V_b61
          have hin70 : ¬ ((4 : Int32) < 0 ∨ cl70.slots.size ≤ ((4 : Int32)).toNatClampNeg) := inb_of Z70 ⟨by decide, by decide⟩
          obtain ⟨T71, h71, X71, e71, W71, st71⟩ := stC X69 hx hZ e69 Ar70 (j := (4 : Int32)) hin70 (g := (mkF m 182 #[.val (.int i), .val (.long q), .second, .val (.int j)] [(.int (111 : Int32)), (.int (4 : Int32)), (.ref b61), (.ref b61)])) rfl rfl (hb hby d1_182)
          have V_b61 : Arv Z h71 b61 k61 .char (9 : Int32) [(.int (114 : Int32)), (.int (101 : Int32)), (.int (115 : Int32)), (.int (112 : Int32)), (.int (111 : Int32)), (.int (0 : Int32)), (.int (0 : Int32)), (.int (0 : Int32)), (.int (0 : Int32))] (.int (0 : Int32)) := Arv.set Ar70 q70 Z70 N70 H70 G70 (fits_nar_char _) W71 4 rfl (Nat.le_of_ble_eq_true rfl)
          have O := O.wr W71 g_b61
          have K := K.wr W71 (Or.inr z_b61)
          have N71 := Fr.snoc X71 N69 g_b61
          obtain ⟨cl72, Ar72, q72, Z72, N72, H72, G72⟩ := id V_b61
          have hin72 : ¬ ((5 : Int32) < 0 ∨ cl72.slots.size ≤ ((5 : Int32)).toNatClampNeg) := inb_of Z72 ⟨by decide, by decide⟩
          obtain ⟨T73, h73, X73, e73, W73, st73⟩ := stC X71 hx hZ e71 Ar72 (j := (5 : Int32)) hin72 (g := (mkF m 187 #[.val (.int i), .val (.long q), .second, .val (.int j)] [(.int (110 : Int32)), (.int (5 : Int32)), (.ref b61), (.ref b61)])) rfl rfl (hb hby d1_187)
          have V_b61 : Arv Z h73 b61 k61 .char (9 : Int32) [(.int (114 : Int32)), (.int (101 : Int32)), (.int (115 : Int32)), (.int (112 : Int32)), (.int (111 : Int32)), (.int (110 : Int32)), (.int (0 : Int32)), (.int (0 : Int32)), (.int (0 : Int32))] (.int (0 : Int32)) := Arv.set Ar72 q72 Z72 N72 H72 G72 (fits_nar_char _) W73 5 rfl (Nat.le_of_ble_eq_true rfl)
          have O := O.wr W73 g_b61
          have K := K.wr W73 (Or.inr z_b61)
          have N73 := Fr.snoc X73 N71 g_b61
          obtain ⟨cl74, Ar74, q74, Z74, N74, H74, G74⟩ := id V_b61
          have hin74 : ¬ ((6 : Int32) < 0 ∨ cl74.slots.size ≤ ((6 : Int32)).toNatClampNeg) := inb_of Z74 ⟨by decide, by decide⟩
          obtain ⟨T75, h75, X75, e75, W75, st75⟩ := stC X73 hx hZ e73 Ar74 (j := (6 : Int32)) hin74 (g := (mkF m 193 #[.val (.int i), .val (.long q), .second, .val (.int j)] [(.int (115 : Int32)), (.int (6 : Int32)), (.ref b61), (.ref b61)])) rfl rfl (hb hby d1_193)
          have V_b61 : Arv Z h75 b61 k61 .char (9 : Int32) [(.int (114 : Int32)), (.int (101 : Int32)), (.int (115 : Int32)), (.int (112 : Int32)), (.int (111 : Int32)), (.int (110 : Int32)), (.int (115 : Int32)), (.int (0 : Int32)), (.int (0 : Int32))] (.int (0 : Int32)) := Arv.set Ar74 q74 Z74 N74 H74 G74 (fits_nar_char _) W75 6 rfl (Nat.le_of_ble_eq_true rfl)
          have O := O.wr W75 g_b61
          have K := K.wr W75 (Or.inr z_b61)
          have N75 := Fr.snoc X75 N73 g_b61
          obtain ⟨cl76, Ar76, q76, Z76, N76, H76, G76⟩ := id V_b61
          have hin76 : ¬ ((7 : Int32) < 0 ∨ cl76.slots.size ≤ ((7 : Int32)).toNatClampNeg) := inb_of Z76 ⟨by decide, by decide⟩
          obtain ⟨T77, h77, X77, e77, W77, st77⟩ := stC X75 hx hZ e75 Ar76 (j := (7 : Int32)) hin76 (g := (mkF m 199 #[.val (.int i), .val (.long q), .second, .val (.int j)] [(.int (101 : Int32)), (.int (7 : Int32)), (.ref b61), (.ref b61)])) rfl rfl (hb hby d1_199)
          have V_b61 : Arv Z h77 b61 k61 .char (9 : Int32) [(.int (114 : Int32)), (.int (101 : Int32)), (.int (115 : Int32)), (.int (112 : Int32)), (.int (111 : Int32)), (.int (110 : Int32)), (.int (115 : Int32)), (.int (101 : Int32)), (.int (0 : Int32))] (.int (0 : Int32)) := Arv.set Ar76 q76 Z76 N76 H76 G76 (fits_nar_char _) W77 7 rfl (Nat.le_of_ble_eq_true rfl)
          have O := O.wr W77 g_b61
          have K := K.wr W77 (Or.inr z_b61)
          have N77 := Fr.snoc X77 N75 g_b61
          obtain ⟨cl78, Ar78, q78, Z78, N78, H78, G78⟩ := id V_b61
          have hin78 : ¬ ((8 : Int32) < 0 ∨ cl78.slots.size ≤ ((8 : Int32)).toNatClampNeg) := inb_of Z78 ⟨by decide, by decide⟩
          obtain ⟨T79, h79, X79, e79, W79, st79⟩ := stC X77 hx hZ e77 Ar78 (j := (8 : Int32)) hin78 (g := (mkF m 209 #[.val (.int i), .val (.long q), .second, .val (.int j)] [(.int ((j &&& (255 : Int32)).toUInt32.toUInt16.toUInt32.toInt32)), (.int (8 : Int32)), (.ref b61), (.ref b61)])) rfl rfl (hb hby d1_209)
          have V_b61 : Arv Z h79 b61 k61 .char (9 : Int32) [(.int (114 : Int32)), (.int (101 : Int32)), (.int (115 : Int32)), (.int (112 : Int32)), (.int (111 : Int32)), (.int (110 : Int32)), (.int (115 : Int32)), (.int (101 : Int32)), (.int (((j &&& (255 : Int32)).toUInt32.toUInt16.toUInt32.toInt32).toUInt32.toUInt16.toUInt32.toInt32))] (.int (0 : Int32)) := Arv.set Ar78 q78 Z78 N78 H78 G78 (fits_nar_char _) W79 8 rfl (Nat.le_of_ble_eq_true rfl)
          have O := O.wr W79 g_b61
          have K := K.wr W79 (Or.inr z_b61)
          have N79 := Fr.snoc X79 N77 g_b61
          have w80 : ∀ t, Steps p.tables e below (T79.setTop (mkF m 210 #[.val (.int i), .val (.long q), .second, .val (.int j)] [(.ref b61)])) t → Steps p.tables e below (s₁.setTop (entryFrame m #[(.int i), (.long q), (.int j)] 4)) t := fun t k => by
            refine w59 t ?_
            refine XS.icmpNo X0.here hx rfl (hb hby d1_151) rfl (teq hc151_60).2 ?_
            show Steps p.tables e below (s₁.setTop (mkF m 154 #[.val (.int i), .val (.long q), .second, .val (.int j)] [])) _
            refine XS.bipush X0.here hx rfl (hb hby d1_154) ?_
            show Steps p.tables e below (s₁.setTop (mkF m 156 #[.val (.int i), .val (.long q), .second, .val (.int j)] [(.int (9 : Int32))])) _
            refine st61 _ ?_
            show Steps p.tables e below (T61.setTop (mkF m 158 #[.val (.int i), .val (.long q), .second, .val (.int j)] [(.ref b61)])) _
            refine XS.dup X61.here hx rfl (hb hby d1_158) rfl rfl ?_
            show Steps p.tables e below (T61.setTop (mkF m 159 #[.val (.int i), .val (.long q), .second, .val (.int j)] [(.ref b61), (.ref b61)])) _
            refine XS.iconst X61.here hx rfl (hb hby d1_159) ?_
            show Steps p.tables e below (T61.setTop (mkF m 160 #[.val (.int i), .val (.long q), .second, .val (.int j)] [(.int (0 : Int32)), (.ref b61), (.ref b61)])) _
            refine XS.bipush X61.here hx rfl (hb hby d1_160) ?_
            show Steps p.tables e below (T61.setTop (mkF m 162 #[.val (.int i), .val (.long q), .second, .val (.int j)] [(.int (114 : Int32)), (.int (0 : Int32)), (.ref b61), (.ref b61)])) _
            refine st63 _ ?_
            show Steps p.tables e below (T63.setTop (mkF m 163 #[.val (.int i), .val (.long q), .second, .val (.int j)] [(.ref b61)])) _
            refine XS.dup X63.here hx rfl (hb hby d1_163) rfl rfl ?_
            show Steps p.tables e below (T63.setTop (mkF m 164 #[.val (.int i), .val (.long q), .second, .val (.int j)] [(.ref b61), (.ref b61)])) _
            refine XS.iconst X63.here hx rfl (hb hby d1_164) ?_
            show Steps p.tables e below (T63.setTop (mkF m 165 #[.val (.int i), .val (.long q), .second, .val (.int j)] [(.int (1 : Int32)), (.ref b61), (.ref b61)])) _
            refine XS.bipush X63.here hx rfl (hb hby d1_165) ?_
            show Steps p.tables e below (T63.setTop (mkF m 167 #[.val (.int i), .val (.long q), .second, .val (.int j)] [(.int (101 : Int32)), (.int (1 : Int32)), (.ref b61), (.ref b61)])) _
            refine st65 _ ?_
            show Steps p.tables e below (T65.setTop (mkF m 168 #[.val (.int i), .val (.long q), .second, .val (.int j)] [(.ref b61)])) _
            refine XS.dup X65.here hx rfl (hb hby d1_168) rfl rfl ?_
            show Steps p.tables e below (T65.setTop (mkF m 169 #[.val (.int i), .val (.long q), .second, .val (.int j)] [(.ref b61), (.ref b61)])) _
            refine XS.iconst X65.here hx rfl (hb hby d1_169) ?_
            show Steps p.tables e below (T65.setTop (mkF m 170 #[.val (.int i), .val (.long q), .second, .val (.int j)] [(.int (2 : Int32)), (.ref b61), (.ref b61)])) _
            refine XS.bipush X65.here hx rfl (hb hby d1_170) ?_
            show Steps p.tables e below (T65.setTop (mkF m 172 #[.val (.int i), .val (.long q), .second, .val (.int j)] [(.int (115 : Int32)), (.int (2 : Int32)), (.ref b61), (.ref b61)])) _
            refine st67 _ ?_
            show Steps p.tables e below (T67.setTop (mkF m 173 #[.val (.int i), .val (.long q), .second, .val (.int j)] [(.ref b61)])) _
            refine XS.dup X67.here hx rfl (hb hby d1_173) rfl rfl ?_
            show Steps p.tables e below (T67.setTop (mkF m 174 #[.val (.int i), .val (.long q), .second, .val (.int j)] [(.ref b61), (.ref b61)])) _
            refine XS.iconst X67.here hx rfl (hb hby d1_174) ?_
            show Steps p.tables e below (T67.setTop (mkF m 175 #[.val (.int i), .val (.long q), .second, .val (.int j)] [(.int (3 : Int32)), (.ref b61), (.ref b61)])) _
            refine XS.bipush X67.here hx rfl (hb hby d1_175) ?_
            show Steps p.tables e below (T67.setTop (mkF m 177 #[.val (.int i), .val (.long q), .second, .val (.int j)] [(.int (112 : Int32)), (.int (3 : Int32)), (.ref b61), (.ref b61)])) _
            refine st69 _ ?_
            show Steps p.tables e below (T69.setTop (mkF m 178 #[.val (.int i), .val (.long q), .second, .val (.int j)] [(.ref b61)])) _
            refine XS.dup X69.here hx rfl (hb hby d1_178) rfl rfl ?_
            show Steps p.tables e below (T69.setTop (mkF m 179 #[.val (.int i), .val (.long q), .second, .val (.int j)] [(.ref b61), (.ref b61)])) _
            refine XS.iconst X69.here hx rfl (hb hby d1_179) ?_
            show Steps p.tables e below (T69.setTop (mkF m 180 #[.val (.int i), .val (.long q), .second, .val (.int j)] [(.int (4 : Int32)), (.ref b61), (.ref b61)])) _
            refine XS.bipush X69.here hx rfl (hb hby d1_180) ?_
            show Steps p.tables e below (T69.setTop (mkF m 182 #[.val (.int i), .val (.long q), .second, .val (.int j)] [(.int (111 : Int32)), (.int (4 : Int32)), (.ref b61), (.ref b61)])) _
            refine st71 _ ?_
            show Steps p.tables e below (T71.setTop (mkF m 183 #[.val (.int i), .val (.long q), .second, .val (.int j)] [(.ref b61)])) _
            refine XS.dup X71.here hx rfl (hb hby d1_183) rfl rfl ?_
            show Steps p.tables e below (T71.setTop (mkF m 184 #[.val (.int i), .val (.long q), .second, .val (.int j)] [(.ref b61), (.ref b61)])) _
            refine XS.iconst X71.here hx rfl (hb hby d1_184) ?_
            show Steps p.tables e below (T71.setTop (mkF m 185 #[.val (.int i), .val (.long q), .second, .val (.int j)] [(.int (5 : Int32)), (.ref b61), (.ref b61)])) _
            refine XS.bipush X71.here hx rfl (hb hby d1_185) ?_
            show Steps p.tables e below (T71.setTop (mkF m 187 #[.val (.int i), .val (.long q), .second, .val (.int j)] [(.int (110 : Int32)), (.int (5 : Int32)), (.ref b61), (.ref b61)])) _
            refine st73 _ ?_
            show Steps p.tables e below (T73.setTop (mkF m 188 #[.val (.int i), .val (.long q), .second, .val (.int j)] [(.ref b61)])) _
            refine XS.dup X73.here hx rfl (hb hby d1_188) rfl rfl ?_
            show Steps p.tables e below (T73.setTop (mkF m 189 #[.val (.int i), .val (.long q), .second, .val (.int j)] [(.ref b61), (.ref b61)])) _
            refine XS.bipush X73.here hx rfl (hb hby d1_189) ?_
            show Steps p.tables e below (T73.setTop (mkF m 191 #[.val (.int i), .val (.long q), .second, .val (.int j)] [(.int (6 : Int32)), (.ref b61), (.ref b61)])) _
            refine XS.bipush X73.here hx rfl (hb hby d1_191) ?_
            show Steps p.tables e below (T73.setTop (mkF m 193 #[.val (.int i), .val (.long q), .second, .val (.int j)] [(.int (115 : Int32)), (.int (6 : Int32)), (.ref b61), (.ref b61)])) _
            refine st75 _ ?_
            show Steps p.tables e below (T75.setTop (mkF m 194 #[.val (.int i), .val (.long q), .second, .val (.int j)] [(.ref b61)])) _
            refine XS.dup X75.here hx rfl (hb hby d1_194) rfl rfl ?_
            show Steps p.tables e below (T75.setTop (mkF m 195 #[.val (.int i), .val (.long q), .second, .val (.int j)] [(.ref b61), (.ref b61)])) _
            refine XS.bipush X75.here hx rfl (hb hby d1_195) ?_
            show Steps p.tables e below (T75.setTop (mkF m 197 #[.val (.int i), .val (.long q), .second, .val (.int j)] [(.int (7 : Int32)), (.ref b61), (.ref b61)])) _
            refine XS.bipush X75.here hx rfl (hb hby d1_197) ?_
            show Steps p.tables e below (T75.setTop (mkF m 199 #[.val (.int i), .val (.long q), .second, .val (.int j)] [(.int (101 : Int32)), (.int (7 : Int32)), (.ref b61), (.ref b61)])) _
            refine st77 _ ?_
            show Steps p.tables e below (T77.setTop (mkF m 200 #[.val (.int i), .val (.long q), .second, .val (.int j)] [(.ref b61)])) _
            refine XS.dup X77.here hx rfl (hb hby d1_200) rfl rfl ?_
            show Steps p.tables e below (T77.setTop (mkF m 201 #[.val (.int i), .val (.long q), .second, .val (.int j)] [(.ref b61), (.ref b61)])) _
            refine XS.bipush X77.here hx rfl (hb hby d1_201) ?_
            show Steps p.tables e below (T77.setTop (mkF m 203 #[.val (.int i), .val (.long q), .second, .val (.int j)] [(.int (8 : Int32)), (.ref b61), (.ref b61)])) _
            refine XS.iloadN X77.here hx rfl (hb hby d1_203) rfl ?_
            show Steps p.tables e below (T77.setTop (mkF m 204 #[.val (.int i), .val (.long q), .second, .val (.int j)] [(.int j), (.int (8 : Int32)), (.ref b61), (.ref b61)])) _
            refine XS.sipush X77.here hx rfl (hb hby d1_204) ?_
            show Steps p.tables e below (T77.setTop (mkF m 207 #[.val (.int i), .val (.long q), .second, .val (.int j)] [(.int (255 : Int32)), (.int j), (.int (8 : Int32)), (.ref b61), (.ref b61)])) _
            refine XS.iand X77.here hx rfl (hb hby d1_207) rfl ?_
            show Steps p.tables e below (T77.setTop (mkF m 208 #[.val (.int i), .val (.long q), .second, .val (.int j)] [(.int (j &&& (255 : Int32))), (.int (8 : Int32)), (.ref b61), (.ref b61)])) _
            refine XS.i2c X77.here hx rfl (hb hby d1_208) rfl ?_
            show Steps p.tables e below (T77.setTop (mkF m 209 #[.val (.int i), .val (.long q), .second, .val (.int j)] [(.int ((j &&& (255 : Int32)).toUInt32.toUInt16.toUInt32.toInt32)), (.int (8 : Int32)), (.ref b61), (.ref b61)])) _
            refine st79 _ ?_
            show Steps p.tables e below (T79.setTop (mkF m 210 #[.val (.int i), .val (.long q), .second, .val (.int j)] [(.ref b61)])) _
            exact k
          obtain ⟨fs, hr, hrun, hended, hW, hsame⟩ := X79.leave (v := some (.ref b61)) (fun h => by rw [Bd.returns] at h; cases h)
          refine ⟨_, _, w80 _ ?_, hrun, hended, _, _, rfl, ?_, ⟨_, rfl⟩, hW, hsame.mono (by decide) (by decide)⟩
          · jvm_step X79.here [X79.here.top, hx, (hb hby d1_210), X79.method', Bd.returns, Value.isRef, FieldType.isReference]
            first | (intro acts; rw [hr _ acts rfl rfl rfl]) | rw [hr _ _ rfl rfl rfl]
            exact Steps.refl _
          · show Q1 Z i q j  h0 n0 _ T79.heap _
            rw [e79]
            exact ⟨b61, k61, [(114 : Int32), (101 : Int32), (115 : Int32), (112 : Int32), (111 : Int32), (110 : Int32), (115 : Int32), (101 : Int32), (((j &&& (255 : Int32)).toUInt32.toUInt16.toUInt32.toInt32).toUInt32.toUInt16.toUInt32.toInt32)], rfl, N79, K, V_b61, z_b61, g_b61, (Nat.le_of_ble_eq_true rfl), (List.forall_mem_cons.mpr ⟨⟨by decide, by decide⟩, List.forall_mem_cons.mpr ⟨⟨by decide, by decide⟩, List.forall_mem_cons.mpr ⟨⟨by decide, by decide⟩, List.forall_mem_cons.mpr ⟨⟨by decide, by decide⟩, List.forall_mem_cons.mpr ⟨⟨by decide, by decide⟩, List.forall_mem_cons.mpr ⟨⟨by decide, by decide⟩, List.forall_mem_cons.mpr ⟨⟨by decide, by decide⟩, List.forall_mem_cons.mpr ⟨⟨by decide, by decide⟩, List.forall_mem_cons.mpr ⟨own_bI _, fun c hc => nomatch hc⟩⟩⟩⟩⟩⟩⟩⟩⟩)⟩
        · have w81 : ∀ t, Steps p.tables e below (s₁.setTop (mkF m 213 #[.val (.int i), .val (.long q), .second, .val (.int j)] [(.int (4 : Int32)), (.int i)])) t → Steps p.tables e below (s₁.setTop (entryFrame m #[(.int i), (.long q), (.int j)] 4)) t := fun t k => by
            refine w59 t ?_
            refine XS.icmpYes X0.here hx rfl (pc0 := 151) (pc' := 211) rfl (hb hby d1_151) rfl (feq hc151_60).2 (by decide) (by decide) ?_
            show Steps p.tables e below (s₁.setTop (mkF m 211 #[.val (.int i), .val (.long q), .second, .val (.int j)] [])) _
            refine XS.iloadN X0.here hx rfl (hb hby d1_211) rfl ?_
            show Steps p.tables e below (s₁.setTop (mkF m 212 #[.val (.int i), .val (.long q), .second, .val (.int j)] [(.int i)])) _
            refine XS.iconst X0.here hx rfl (hb hby d1_212) ?_
            show Steps p.tables e below (s₁.setTop (mkF m 213 #[.val (.int i), .val (.long q), .second, .val (.int j)] [(.int (4 : Int32)), (.int i)])) _
            exact k
          by_cases hc213_82 : i = (4 : Int32)
          · obtain ⟨T83, h83, k83, X83, e83, E83, A83, st83⟩ := newP X0 hx hZ (hw _ (List.mem_of_getElem? (i := 4) rfl)) e0 (g := (mkF m 218 #[.val (.int i), .val (.long q), .second, .val (.int j)] [(.int (7 : Int32))])) rfl (hb hby d1_218) rfl (by decide) (cap := 7) (by decide) (by decide) (by decide) (by decide)
            obtain ⟨b83, gq83⟩ : ∃ z, z = Array.size h0 := ⟨_, rfl⟩
            rw [← gq83] at A83 st83
            have g_b83 : n0 ≤ b83 := Nat.le_trans (O.1 ▸ O.2.1) (Nat.le_of_eq gq83.symm)
            have z_b83 : h0.size ≤ b83 := Nat.le_trans K.1 (Nat.le_of_eq gq83.symm)
            have O := O.ext E83
            have K := K.ext E83
            have V_b83 : Arv Z h83 b83 k83 .char (7 : Int32) [(.int (0 : Int32)), (.int (0 : Int32)), (.int (0 : Int32)), (.int (0 : Int32)), (.int (0 : Int32)), (.int (0 : Int32)), (.int (0 : Int32))] (.int (0 : Int32)) := (Arv.new A83 (by decide)).pad (pad_rep [] (.int (0 : Int32)) 7)
            obtain ⟨cl84, Ar84, q84, Z84, N84, H84, G84⟩ := id V_b83
            have hin84 : ¬ ((0 : Int32) < 0 ∨ cl84.slots.size ≤ ((0 : Int32)).toNatClampNeg) := inb_of Z84 ⟨by decide, by decide⟩
            obtain ⟨T85, h85, X85, e85, W85, st85⟩ := stC X83 hx hZ e83 Ar84 (j := (0 : Int32)) hin84 (g := (mkF m 224 #[.val (.int i), .val (.long q), .second, .val (.int j)] [(.int (114 : Int32)), (.int (0 : Int32)), (.ref b83), (.ref b83)])) rfl rfl (hb hby d1_224)
            have V_b83 : Arv Z h85 b83 k83 .char (7 : Int32) [(.int (114 : Int32)), (.int (0 : Int32)), (.int (0 : Int32)), (.int (0 : Int32)), (.int (0 : Int32)), (.int (0 : Int32)), (.int (0 : Int32))] (.int (0 : Int32)) := Arv.set Ar84 q84 Z84 N84 H84 G84 (fits_nar_char _) W85 0 rfl (Nat.le_of_ble_eq_true rfl)
            have O := O.wr W85 g_b83
            have K := K.wr W85 (Or.inr z_b83)
            have N85 := Fr.snoc X85 N0 g_b83
            obtain ⟨cl86, Ar86, q86, Z86, N86, H86, G86⟩ := id V_b83
            have hin86 : ¬ ((1 : Int32) < 0 ∨ cl86.slots.size ≤ ((1 : Int32)).toNatClampNeg) := inb_of Z86 ⟨by decide, by decide⟩
            obtain ⟨T87, h87, X87, e87, W87, st87⟩ := stC X85 hx hZ e85 Ar86 (j := (1 : Int32)) hin86 (g := (mkF m 229 #[.val (.int i), .val (.long q), .second, .val (.int j)] [(.int (101 : Int32)), (.int (1 : Int32)), (.ref b83), (.ref b83)])) rfl rfl (hb hby d1_229)
            have V_b83 : Arv Z h87 b83 k83 .char (7 : Int32) [(.int (114 : Int32)), (.int (101 : Int32)), (.int (0 : Int32)), (.int (0 : Int32)), (.int (0 : Int32)), (.int (0 : Int32)), (.int (0 : Int32))] (.int (0 : Int32)) := Arv.set Ar86 q86 Z86 N86 H86 G86 (fits_nar_char _) W87 1 rfl (Nat.le_of_ble_eq_true rfl)
            have O := O.wr W87 g_b83
            have K := K.wr W87 (Or.inr z_b83)
            have N87 := Fr.snoc X87 N85 g_b83
            obtain ⟨cl88, Ar88, q88, Z88, N88, H88, G88⟩ := id V_b83
            have hin88 : ¬ ((2 : Int32) < 0 ∨ cl88.slots.size ≤ ((2 : Int32)).toNatClampNeg) := inb_of Z88 ⟨by decide, by decide⟩
            obtain ⟨T89, h89, X89, e89, W89, st89⟩ := stC X87 hx hZ e87 Ar88 (j := (2 : Int32)) hin88 (g := (mkF m 234 #[.val (.int i), .val (.long q), .second, .val (.int j)] [(.int (115 : Int32)), (.int (2 : Int32)), (.ref b83), (.ref b83)])) rfl rfl (hb hby d1_234)
            have V_b83 : Arv Z h89 b83 k83 .char (7 : Int32) [(.int (114 : Int32)), (.int (101 : Int32)), (.int (115 : Int32)), (.int (0 : Int32)), (.int (0 : Int32)), (.int (0 : Int32)), (.int (0 : Int32))] (.int (0 : Int32)) := Arv.set Ar88 q88 Z88 N88 H88 G88 (fits_nar_char _) W89 2 rfl (Nat.le_of_ble_eq_true rfl)
            have O := O.wr W89 g_b83
            have K := K.wr W89 (Or.inr z_b83)
            have N89 := Fr.snoc X89 N87 g_b83
            obtain ⟨cl90, Ar90, q90, Z90, N90, H90, G90⟩ := id V_b83
            have hin90 : ¬ ((3 : Int32) < 0 ∨ cl90.slots.size ≤ ((3 : Int32)).toNatClampNeg) := inb_of Z90 ⟨by decide, by decide⟩
            obtain ⟨T91, h91, X91, e91, W91, st91⟩ := stC X89 hx hZ e89 Ar90 (j := (3 : Int32)) hin90 (g := (mkF m 239 #[.val (.int i), .val (.long q), .second, .val (.int j)] [(.int (112 : Int32)), (.int (3 : Int32)), (.ref b83), (.ref b83)])) rfl rfl (hb hby d1_239)
            have V_b83 : Arv Z h91 b83 k83 .char (7 : Int32) [(.int (114 : Int32)), (.int (101 : Int32)), (.int (115 : Int32)), (.int (112 : Int32)), (.int (0 : Int32)), (.int (0 : Int32)), (.int (0 : Int32))] (.int (0 : Int32)) := Arv.set Ar90 q90 Z90 N90 H90 G90 (fits_nar_char _) W91 3 rfl (Nat.le_of_ble_eq_true rfl)
            have O := O.wr W91 g_b83
            have K := K.wr W91 (Or.inr z_b83)
            have N91 := Fr.snoc X91 N89 g_b83
            obtain ⟨cl92, Ar92, q92, Z92, N92, H92, G92⟩ := id V_b83
            have hin92 : ¬ ((4 : Int32) < 0 ∨ cl92.slots.size ≤ ((4 : Int32)).toNatClampNeg) := inb_of Z92 ⟨by decide, by decide⟩
            obtain ⟨T93, h93, X93, e93, W93, st93⟩ := stC X91 hx hZ e91 Ar92 (j := (4 : Int32)) hin92 (g := (mkF m 244 #[.val (.int i), .val (.long q), .second, .val (.int j)] [(.int (111 : Int32)), (.int (4 : Int32)), (.ref b83), (.ref b83)])) rfl rfl (hb hby d1_244)
            have V_b83 : Arv Z h93 b83 k83 .char (7 : Int32) [(.int (114 : Int32)), (.int (101 : Int32)), (.int (115 : Int32)), (.int (112 : Int32)), (.int (111 : Int32)), (.int (0 : Int32)), (.int (0 : Int32))] (.int (0 : Int32)) := Arv.set Ar92 q92 Z92 N92 H92 G92 (fits_nar_char _) W93 4 rfl (Nat.le_of_ble_eq_true rfl)
            have O := O.wr W93 g_b83
            have K := K.wr W93 (Or.inr z_b83)
            have N93 := Fr.snoc X93 N91 g_b83
            obtain ⟨cl94, Ar94, q94, Z94, N94, H94, G94⟩ := id V_b83
            have hin94 : ¬ ((5 : Int32) < 0 ∨ cl94.slots.size ≤ ((5 : Int32)).toNatClampNeg) := inb_of Z94 ⟨by decide, by decide⟩
            obtain ⟨T95, h95, X95, e95, W95, st95⟩ := stC X93 hx hZ e93 Ar94 (j := (5 : Int32)) hin94 (g := (mkF m 249 #[.val (.int i), .val (.long q), .second, .val (.int j)] [(.int (110 : Int32)), (.int (5 : Int32)), (.ref b83), (.ref b83)])) rfl rfl (hb hby d1_249)
            have V_b83 : Arv Z h95 b83 k83 .char (7 : Int32) [(.int (114 : Int32)), (.int (101 : Int32)), (.int (115 : Int32)), (.int (112 : Int32)), (.int (111 : Int32)), (.int (110 : Int32)), (.int (0 : Int32))] (.int (0 : Int32)) := Arv.set Ar94 q94 Z94 N94 H94 G94 (fits_nar_char _) W95 5 rfl (Nat.le_of_ble_eq_true rfl)
            have O := O.wr W95 g_b83
            have K := K.wr W95 (Or.inr z_b83)
            have N95 := Fr.snoc X95 N93 g_b83
            obtain ⟨cl96, Ar96, q96, Z96, N96, H96, G96⟩ := id V_b83
            have hin96 : ¬ ((6 : Int32) < 0 ∨ cl96.slots.size ≤ ((6 : Int32)).toNatClampNeg) := inb_of Z96 ⟨by decide, by decide⟩
            obtain ⟨T97, h97, X97, e97, W97, st97⟩ := stC X95 hx hZ e95 Ar96 (j := (6 : Int32)) hin96 (g := (mkF m 255 #[.val (.int i), .val (.long q), .second, .val (.int j)] [(.int (115 : Int32)), (.int (6 : Int32)), (.ref b83), (.ref b83)])) rfl rfl (hb hby d1_255)
            have V_b83 : Arv Z h97 b83 k83 .char (7 : Int32) [(.int (114 : Int32)), (.int (101 : Int32)), (.int (115 : Int32)), (.int (112 : Int32)), (.int (111 : Int32)), (.int (110 : Int32)), (.int (115 : Int32))] (.int (0 : Int32)) := Arv.set Ar96 q96 Z96 N96 H96 G96 (fits_nar_char _) W97 6 rfl (Nat.le_of_ble_eq_true rfl)
            have O := O.wr W97 g_b83
            have K := K.wr W97 (Or.inr z_b83)
            have N97 := Fr.snoc X97 N95 g_b83
            have w98 : ∀ t, Steps p.tables e below (T97.setTop (mkF m 256 #[.val (.int i), .val (.long q), .second, .val (.int j)] [(.ref b83)])) t → Steps p.tables e below (s₁.setTop (entryFrame m #[(.int i), (.long q), (.int j)] 4)) t := fun t k => by
              refine w81 t ?_
              refine XS.icmpNo X0.here hx rfl (hb hby d1_213) rfl (teq hc213_82).2 ?_
              show Steps p.tables e below (s₁.setTop (mkF m 216 #[.val (.int i), .val (.long q), .second, .val (.int j)] [])) _
              refine XS.bipush X0.here hx rfl (hb hby d1_216) ?_
              show Steps p.tables e below (s₁.setTop (mkF m 218 #[.val (.int i), .val (.long q), .second, .val (.int j)] [(.int (7 : Int32))])) _
              refine st83 _ ?_
              show Steps p.tables e below (T83.setTop (mkF m 220 #[.val (.int i), .val (.long q), .second, .val (.int j)] [(.ref b83)])) _
              refine XS.dup X83.here hx rfl (hb hby d1_220) rfl rfl ?_
              show Steps p.tables e below (T83.setTop (mkF m 221 #[.val (.int i), .val (.long q), .second, .val (.int j)] [(.ref b83), (.ref b83)])) _
              refine XS.iconst X83.here hx rfl (hb hby d1_221) ?_
              show Steps p.tables e below (T83.setTop (mkF m 222 #[.val (.int i), .val (.long q), .second, .val (.int j)] [(.int (0 : Int32)), (.ref b83), (.ref b83)])) _
              refine XS.bipush X83.here hx rfl (hb hby d1_222) ?_
              show Steps p.tables e below (T83.setTop (mkF m 224 #[.val (.int i), .val (.long q), .second, .val (.int j)] [(.int (114 : Int32)), (.int (0 : Int32)), (.ref b83), (.ref b83)])) _
              refine st85 _ ?_
              show Steps p.tables e below (T85.setTop (mkF m 225 #[.val (.int i), .val (.long q), .second, .val (.int j)] [(.ref b83)])) _
              refine XS.dup X85.here hx rfl (hb hby d1_225) rfl rfl ?_
              show Steps p.tables e below (T85.setTop (mkF m 226 #[.val (.int i), .val (.long q), .second, .val (.int j)] [(.ref b83), (.ref b83)])) _
              refine XS.iconst X85.here hx rfl (hb hby d1_226) ?_
              show Steps p.tables e below (T85.setTop (mkF m 227 #[.val (.int i), .val (.long q), .second, .val (.int j)] [(.int (1 : Int32)), (.ref b83), (.ref b83)])) _
              refine XS.bipush X85.here hx rfl (hb hby d1_227) ?_
              show Steps p.tables e below (T85.setTop (mkF m 229 #[.val (.int i), .val (.long q), .second, .val (.int j)] [(.int (101 : Int32)), (.int (1 : Int32)), (.ref b83), (.ref b83)])) _
              refine st87 _ ?_
              show Steps p.tables e below (T87.setTop (mkF m 230 #[.val (.int i), .val (.long q), .second, .val (.int j)] [(.ref b83)])) _
              refine XS.dup X87.here hx rfl (hb hby d1_230) rfl rfl ?_
              show Steps p.tables e below (T87.setTop (mkF m 231 #[.val (.int i), .val (.long q), .second, .val (.int j)] [(.ref b83), (.ref b83)])) _
              refine XS.iconst X87.here hx rfl (hb hby d1_231) ?_
              show Steps p.tables e below (T87.setTop (mkF m 232 #[.val (.int i), .val (.long q), .second, .val (.int j)] [(.int (2 : Int32)), (.ref b83), (.ref b83)])) _
              refine XS.bipush X87.here hx rfl (hb hby d1_232) ?_
              show Steps p.tables e below (T87.setTop (mkF m 234 #[.val (.int i), .val (.long q), .second, .val (.int j)] [(.int (115 : Int32)), (.int (2 : Int32)), (.ref b83), (.ref b83)])) _
              refine st89 _ ?_
              show Steps p.tables e below (T89.setTop (mkF m 235 #[.val (.int i), .val (.long q), .second, .val (.int j)] [(.ref b83)])) _
              refine XS.dup X89.here hx rfl (hb hby d1_235) rfl rfl ?_
              show Steps p.tables e below (T89.setTop (mkF m 236 #[.val (.int i), .val (.long q), .second, .val (.int j)] [(.ref b83), (.ref b83)])) _
              refine XS.iconst X89.here hx rfl (hb hby d1_236) ?_
              show Steps p.tables e below (T89.setTop (mkF m 237 #[.val (.int i), .val (.long q), .second, .val (.int j)] [(.int (3 : Int32)), (.ref b83), (.ref b83)])) _
              refine XS.bipush X89.here hx rfl (hb hby d1_237) ?_
              show Steps p.tables e below (T89.setTop (mkF m 239 #[.val (.int i), .val (.long q), .second, .val (.int j)] [(.int (112 : Int32)), (.int (3 : Int32)), (.ref b83), (.ref b83)])) _
              refine st91 _ ?_
              show Steps p.tables e below (T91.setTop (mkF m 240 #[.val (.int i), .val (.long q), .second, .val (.int j)] [(.ref b83)])) _
              refine XS.dup X91.here hx rfl (hb hby d1_240) rfl rfl ?_
              show Steps p.tables e below (T91.setTop (mkF m 241 #[.val (.int i), .val (.long q), .second, .val (.int j)] [(.ref b83), (.ref b83)])) _
              refine XS.iconst X91.here hx rfl (hb hby d1_241) ?_
              show Steps p.tables e below (T91.setTop (mkF m 242 #[.val (.int i), .val (.long q), .second, .val (.int j)] [(.int (4 : Int32)), (.ref b83), (.ref b83)])) _
              refine XS.bipush X91.here hx rfl (hb hby d1_242) ?_
              show Steps p.tables e below (T91.setTop (mkF m 244 #[.val (.int i), .val (.long q), .second, .val (.int j)] [(.int (111 : Int32)), (.int (4 : Int32)), (.ref b83), (.ref b83)])) _
              refine st93 _ ?_
              show Steps p.tables e below (T93.setTop (mkF m 245 #[.val (.int i), .val (.long q), .second, .val (.int j)] [(.ref b83)])) _
              refine XS.dup X93.here hx rfl (hb hby d1_245) rfl rfl ?_
              show Steps p.tables e below (T93.setTop (mkF m 246 #[.val (.int i), .val (.long q), .second, .val (.int j)] [(.ref b83), (.ref b83)])) _
              refine XS.iconst X93.here hx rfl (hb hby d1_246) ?_
              show Steps p.tables e below (T93.setTop (mkF m 247 #[.val (.int i), .val (.long q), .second, .val (.int j)] [(.int (5 : Int32)), (.ref b83), (.ref b83)])) _
              refine XS.bipush X93.here hx rfl (hb hby d1_247) ?_
              show Steps p.tables e below (T93.setTop (mkF m 249 #[.val (.int i), .val (.long q), .second, .val (.int j)] [(.int (110 : Int32)), (.int (5 : Int32)), (.ref b83), (.ref b83)])) _
              refine st95 _ ?_
              show Steps p.tables e below (T95.setTop (mkF m 250 #[.val (.int i), .val (.long q), .second, .val (.int j)] [(.ref b83)])) _
              refine XS.dup X95.here hx rfl (hb hby d1_250) rfl rfl ?_
              show Steps p.tables e below (T95.setTop (mkF m 251 #[.val (.int i), .val (.long q), .second, .val (.int j)] [(.ref b83), (.ref b83)])) _
              refine XS.bipush X95.here hx rfl (hb hby d1_251) ?_
              show Steps p.tables e below (T95.setTop (mkF m 253 #[.val (.int i), .val (.long q), .second, .val (.int j)] [(.int (6 : Int32)), (.ref b83), (.ref b83)])) _
              refine XS.bipush X95.here hx rfl (hb hby d1_253) ?_
              show Steps p.tables e below (T95.setTop (mkF m 255 #[.val (.int i), .val (.long q), .second, .val (.int j)] [(.int (115 : Int32)), (.int (6 : Int32)), (.ref b83), (.ref b83)])) _
              refine st97 _ ?_
              show Steps p.tables e below (T97.setTop (mkF m 256 #[.val (.int i), .val (.long q), .second, .val (.int j)] [(.ref b83)])) _
              exact k
            obtain ⟨fs, hr, hrun, hended, hW, hsame⟩ := X97.leave (v := some (.ref b83)) (fun h => by rw [Bd.returns] at h; cases h)
            refine ⟨_, _, w98 _ ?_, hrun, hended, _, _, rfl, ?_, ⟨_, rfl⟩, hW, hsame.mono (by decide) (by decide)⟩
            · jvm_step X97.here [X97.here.top, hx, (hb hby d1_256), X97.method', Bd.returns, Value.isRef, FieldType.isReference]
              first | (intro acts; rw [hr _ acts rfl rfl rfl]) | rw [hr _ _ rfl rfl rfl]
              exact Steps.refl _
            · show Q1 Z i q j  h0 n0 _ T97.heap _
              rw [e97]
              exact ⟨b83, k83, [(114 : Int32), (101 : Int32), (115 : Int32), (112 : Int32), (111 : Int32), (110 : Int32), (115 : Int32)], rfl, N97, K, V_b83, z_b83, g_b83, (Nat.le_of_ble_eq_true rfl), (List.forall_mem_cons.mpr ⟨⟨by decide, by decide⟩, List.forall_mem_cons.mpr ⟨⟨by decide, by decide⟩, List.forall_mem_cons.mpr ⟨⟨by decide, by decide⟩, List.forall_mem_cons.mpr ⟨⟨by decide, by decide⟩, List.forall_mem_cons.mpr ⟨⟨by decide, by decide⟩, List.forall_mem_cons.mpr ⟨⟨by decide, by decide⟩, List.forall_mem_cons.mpr ⟨⟨by decide, by decide⟩, fun c hc => nomatch hc⟩⟩⟩⟩⟩⟩⟩)⟩
          · have w99 : ∀ t, Steps p.tables e below (s₁.setTop (mkF m 259 #[.val (.int i), .val (.long q), .second, .val (.int j)] [(.int (5 : Int32)), (.int i)])) t → Steps p.tables e below (s₁.setTop (entryFrame m #[(.int i), (.long q), (.int j)] 4)) t := fun t k => by
              refine w81 t ?_
              refine XS.icmpYes X0.here hx rfl (pc0 := 213) (pc' := 257) rfl (hb hby d1_213) rfl (feq hc213_82).2 (by decide) (by decide) ?_
              show Steps p.tables e below (s₁.setTop (mkF m 257 #[.val (.int i), .val (.long q), .second, .val (.int j)] [])) _
              refine XS.iloadN X0.here hx rfl (hb hby d1_257) rfl ?_
              show Steps p.tables e below (s₁.setTop (mkF m 258 #[.val (.int i), .val (.long q), .second, .val (.int j)] [(.int i)])) _
              refine XS.iconst X0.here hx rfl (hb hby d1_258) ?_
              show Steps p.tables e below (s₁.setTop (mkF m 259 #[.val (.int i), .val (.long q), .second, .val (.int j)] [(.int (5 : Int32)), (.int i)])) _
              exact k
            by_cases hc259_100 : i = (5 : Int32)
            · obtain ⟨T101, h101, k101, X101, e101, E101, A101, st101⟩ := newP X0 hx hZ (hw _ (List.mem_of_getElem? (i := 4) rfl)) e0 (g := (mkF m 264 #[.val (.int i), .val (.long q), .second, .val (.int j)] [(.int (8 : Int32))])) rfl (hb hby d1_264) rfl (by decide) (cap := 8) (by decide) (by decide) (by decide) (by decide)
              obtain ⟨b101, gq101⟩ : ∃ z, z = Array.size h0 := ⟨_, rfl⟩
              rw [← gq101] at A101 st101
              have g_b101 : n0 ≤ b101 := Nat.le_trans (O.1 ▸ O.2.1) (Nat.le_of_eq gq101.symm)
              have z_b101 : h0.size ≤ b101 := Nat.le_trans K.1 (Nat.le_of_eq gq101.symm)
              have O := O.ext E101
              have K := K.ext E101
              have V_b101 : Arv Z h101 b101 k101 .char (8 : Int32) [(.int (0 : Int32)), (.int (0 : Int32)), (.int (0 : Int32)), (.int (0 : Int32)), (.int (0 : Int32)), (.int (0 : Int32)), (.int (0 : Int32)), (.int (0 : Int32))] (.int (0 : Int32)) := (Arv.new A101 (by decide)).pad (pad_rep [] (.int (0 : Int32)) 8)
              obtain ⟨cl102, Ar102, q102, Z102, N102, H102, G102⟩ := id V_b101
              have hin102 : ¬ ((0 : Int32) < 0 ∨ cl102.slots.size ≤ ((0 : Int32)).toNatClampNeg) := inb_of Z102 ⟨by decide, by decide⟩
              obtain ⟨T103, h103, X103, e103, W103, st103⟩ := stC X101 hx hZ e101 Ar102 (j := (0 : Int32)) hin102 (g := (mkF m 275 #[.val (.int i), .val (.long q), .second, .val (.int j)] [(.int (((q &&& (255 : Int64)).toInt32).toUInt32.toUInt16.toUInt32.toInt32)), (.int (0 : Int32)), (.ref b101), (.ref b101)])) rfl rfl (hb hby d1_275)
              have V_b101 : Arv Z h103 b101 k101 .char (8 : Int32) [(.int ((((q &&& (255 : Int64)).toInt32).toUInt32.toUInt16.toUInt32.toInt32).toUInt32.toUInt16.toUInt32.toInt32)), (.int (0 : Int32)), (.int (0 : Int32)), (.int (0 : Int32)), (.int (0 : Int32)), (.int (0 : Int32)), (.int (0 : Int32)), (.int (0 : Int32))] (.int (0 : Int32)) := Arv.set Ar102 q102 Z102 N102 H102 G102 (fits_nar_char _) W103 0 rfl (Nat.le_of_ble_eq_true rfl)
              have O := O.wr W103 g_b101
              have K := K.wr W103 (Or.inr z_b101)
              have N103 := Fr.snoc X103 N0 g_b101
              obtain ⟨cl104, Ar104, q104, Z104, N104, H104, G104⟩ := id V_b101
              have hin104 : ¬ ((1 : Int32) < 0 ∨ cl104.slots.size ≤ ((1 : Int32)).toNatClampNeg) := inb_of Z104 ⟨by decide, by decide⟩
              obtain ⟨T105, h105, X105, e105, W105, st105⟩ := stC X103 hx hZ e103 Ar104 (j := (1 : Int32)) hin104 (g := (mkF m 288 #[.val (.int i), .val (.long q), .second, .val (.int j)] [(.int (((((q.toUInt64 >>> ((8 : Int32) &&& 0x3f).toInt64.toUInt64).toInt64) &&& (255 : Int64)).toInt32).toUInt32.toUInt16.toUInt32.toInt32)), (.int (1 : Int32)), (.ref b101), (.ref b101)])) rfl rfl (hb hby d1_288)
              have V_b101 : Arv Z h105 b101 k101 .char (8 : Int32) [(.int ((((q &&& (255 : Int64)).toInt32).toUInt32.toUInt16.toUInt32.toInt32).toUInt32.toUInt16.toUInt32.toInt32)), (.int ((((((q.toUInt64 >>> ((8 : Int32) &&& 0x3f).toInt64.toUInt64).toInt64) &&& (255 : Int64)).toInt32).toUInt32.toUInt16.toUInt32.toInt32).toUInt32.toUInt16.toUInt32.toInt32)), (.int (0 : Int32)), (.int (0 : Int32)), (.int (0 : Int32)), (.int (0 : Int32)), (.int (0 : Int32)), (.int (0 : Int32))] (.int (0 : Int32)) := Arv.set Ar104 q104 Z104 N104 H104 G104 (fits_nar_char _) W105 1 rfl (Nat.le_of_ble_eq_true rfl)
              have O := O.wr W105 g_b101
              have K := K.wr W105 (Or.inr z_b101)
              have N105 := Fr.snoc X105 N103 g_b101
              obtain ⟨cl106, Ar106, q106, Z106, N106, H106, G106⟩ := id V_b101
              have hin106 : ¬ ((2 : Int32) < 0 ∨ cl106.slots.size ≤ ((2 : Int32)).toNatClampNeg) := inb_of Z106 ⟨by decide, by decide⟩
              obtain ⟨T107, h107, X107, e107, W107, st107⟩ := stC X105 hx hZ e105 Ar106 (j := (2 : Int32)) hin106 (g := (mkF m 301 #[.val (.int i), .val (.long q), .second, .val (.int j)] [(.int (((((q.toUInt64 >>> ((16 : Int32) &&& 0x3f).toInt64.toUInt64).toInt64) &&& (255 : Int64)).toInt32).toUInt32.toUInt16.toUInt32.toInt32)), (.int (2 : Int32)), (.ref b101), (.ref b101)])) rfl rfl (hb hby d1_301)
              have V_b101 : Arv Z h107 b101 k101 .char (8 : Int32) [(.int ((((q &&& (255 : Int64)).toInt32).toUInt32.toUInt16.toUInt32.toInt32).toUInt32.toUInt16.toUInt32.toInt32)), (.int ((((((q.toUInt64 >>> ((8 : Int32) &&& 0x3f).toInt64.toUInt64).toInt64) &&& (255 : Int64)).toInt32).toUInt32.toUInt16.toUInt32.toInt32).toUInt32.toUInt16.toUInt32.toInt32)), (.int ((((((q.toUInt64 >>> ((16 : Int32) &&& 0x3f).toInt64.toUInt64).toInt64) &&& (255 : Int64)).toInt32).toUInt32.toUInt16.toUInt32.toInt32).toUInt32.toUInt16.toUInt32.toInt32)), (.int (0 : Int32)), (.int (0 : Int32)), (.int (0 : Int32)), (.int (0 : Int32)), (.int (0 : Int32))] (.int (0 : Int32)) := Arv.set Ar106 q106 Z106 N106 H106 G106 (fits_nar_char _) W107 2 rfl (Nat.le_of_ble_eq_true rfl)
              have O := O.wr W107 g_b101
              have K := K.wr W107 (Or.inr z_b101)
              have N107 := Fr.snoc X107 N105 g_b101
              obtain ⟨cl108, Ar108, q108, Z108, N108, H108, G108⟩ := id V_b101
              have hin108 : ¬ ((3 : Int32) < 0 ∨ cl108.slots.size ≤ ((3 : Int32)).toNatClampNeg) := inb_of Z108 ⟨by decide, by decide⟩
              obtain ⟨T109, h109, X109, e109, W109, st109⟩ := stC X107 hx hZ e107 Ar108 (j := (3 : Int32)) hin108 (g := (mkF m 314 #[.val (.int i), .val (.long q), .second, .val (.int j)] [(.int (((((q.toUInt64 >>> ((24 : Int32) &&& 0x3f).toInt64.toUInt64).toInt64) &&& (255 : Int64)).toInt32).toUInt32.toUInt16.toUInt32.toInt32)), (.int (3 : Int32)), (.ref b101), (.ref b101)])) rfl rfl (hb hby d1_314)
              have V_b101 : Arv Z h109 b101 k101 .char (8 : Int32) [(.int ((((q &&& (255 : Int64)).toInt32).toUInt32.toUInt16.toUInt32.toInt32).toUInt32.toUInt16.toUInt32.toInt32)), (.int ((((((q.toUInt64 >>> ((8 : Int32) &&& 0x3f).toInt64.toUInt64).toInt64) &&& (255 : Int64)).toInt32).toUInt32.toUInt16.toUInt32.toInt32).toUInt32.toUInt16.toUInt32.toInt32)), (.int ((((((q.toUInt64 >>> ((16 : Int32) &&& 0x3f).toInt64.toUInt64).toInt64) &&& (255 : Int64)).toInt32).toUInt32.toUInt16.toUInt32.toInt32).toUInt32.toUInt16.toUInt32.toInt32)), (.int ((((((q.toUInt64 >>> ((24 : Int32) &&& 0x3f).toInt64.toUInt64).toInt64) &&& (255 : Int64)).toInt32).toUInt32.toUInt16.toUInt32.toInt32).toUInt32.toUInt16.toUInt32.toInt32)), (.int (0 : Int32)), (.int (0 : Int32)), (.int (0 : Int32)), (.int (0 : Int32))] (.int (0 : Int32)) := Arv.set Ar108 q108 Z108 N108 H108 G108 (fits_nar_char _) W109 3 rfl (Nat.le_of_ble_eq_true rfl)
              have O := O.wr W109 g_b101
              have K := K.wr W109 (Or.inr z_b101)
              have N109 := Fr.snoc X109 N107 g_b101
              obtain ⟨cl110, Ar110, q110, Z110, N110, H110, G110⟩ := id V_b101
              have hin110 : ¬ ((4 : Int32) < 0 ∨ cl110.slots.size ≤ ((4 : Int32)).toNatClampNeg) := inb_of Z110 ⟨by decide, by decide⟩
              obtain ⟨T111, h111, X111, e111, W111, st111⟩ := stC X109 hx hZ e109 Ar110 (j := (4 : Int32)) hin110 (g := (mkF m 327 #[.val (.int i), .val (.long q), .second, .val (.int j)] [(.int (((((q.toUInt64 >>> ((32 : Int32) &&& 0x3f).toInt64.toUInt64).toInt64) &&& (255 : Int64)).toInt32).toUInt32.toUInt16.toUInt32.toInt32)), (.int (4 : Int32)), (.ref b101), (.ref b101)])) rfl rfl (hb hby d1_327)
              have V_b101 : Arv Z h111 b101 k101 .char (8 : Int32) [(.int ((((q &&& (255 : Int64)).toInt32).toUInt32.toUInt16.toUInt32.toInt32).toUInt32.toUInt16.toUInt32.toInt32)), (.int ((((((q.toUInt64 >>> ((8 : Int32) &&& 0x3f).toInt64.toUInt64).toInt64) &&& (255 : Int64)).toInt32).toUInt32.toUInt16.toUInt32.toInt32).toUInt32.toUInt16.toUInt32.toInt32)), (.int ((((((q.toUInt64 >>> ((16 : Int32) &&& 0x3f).toInt64.toUInt64).toInt64) &&& (255 : Int64)).toInt32).toUInt32.toUInt16.toUInt32.toInt32).toUInt32.toUInt16.toUInt32.toInt32)), (.int ((((((q.toUInt64 >>> ((24 : Int32) &&& 0x3f).toInt64.toUInt64).toInt64) &&& (255 : Int64)).toInt32).toUInt32.toUInt16.toUInt32.toInt32).toUInt32.toUInt16.toUInt32.toInt32)), (.int ((((((q.toUInt64 >>> ((32 : Int32) &&& 0x3f).toInt64.toUInt64).toInt64) &&& (255 : Int64)).toInt32).toUInt32.toUInt16.toUInt32.toInt32).toUInt32.toUInt16.toUInt32.toInt32)), (.int (0 : Int32)), (.int (0 : Int32)), (.int (0 : Int32))] (.int (0 : Int32)) := Arv.set Ar110 q110 Z110 N110 H110 G110 (fits_nar_char _) W111 4 rfl (Nat.le_of_ble_eq_true rfl)
              have O := O.wr W111 g_b101
              have K := K.wr W111 (Or.inr z_b101)
              have N111 := Fr.snoc X111 N109 g_b101
              obtain ⟨cl112, Ar112, q112, Z112, N112, H112, G112⟩ := id V_b101
              have hin112 : ¬ ((5 : Int32) < 0 ∨ cl112.slots.size ≤ ((5 : Int32)).toNatClampNeg) := inb_of Z112 ⟨by decide, by decide⟩
              obtain ⟨T113, h113, X113, e113, W113, st113⟩ := stC X111 hx hZ e111 Ar112 (j := (5 : Int32)) hin112 (g := (mkF m 340 #[.val (.int i), .val (.long q), .second, .val (.int j)] [(.int (((((q.toUInt64 >>> ((40 : Int32) &&& 0x3f).toInt64.toUInt64).toInt64) &&& (255 : Int64)).toInt32).toUInt32.toUInt16.toUInt32.toInt32)), (.int (5 : Int32)), (.ref b101), (.ref b101)])) rfl rfl (hb hby d1_340)
              have V_b101 : Arv Z h113 b101 k101 .char (8 : Int32) [(.int ((((q &&& (255 : Int64)).toInt32).toUInt32.toUInt16.toUInt32.toInt32).toUInt32.toUInt16.toUInt32.toInt32)), (.int ((((((q.toUInt64 >>> ((8 : Int32) &&& 0x3f).toInt64.toUInt64).toInt64) &&& (255 : Int64)).toInt32).toUInt32.toUInt16.toUInt32.toInt32).toUInt32.toUInt16.toUInt32.toInt32)), (.int ((((((q.toUInt64 >>> ((16 : Int32) &&& 0x3f).toInt64.toUInt64).toInt64) &&& (255 : Int64)).toInt32).toUInt32.toUInt16.toUInt32.toInt32).toUInt32.toUInt16.toUInt32.toInt32)), (.int ((((((q.toUInt64 >>> ((24 : Int32) &&& 0x3f).toInt64.toUInt64).toInt64) &&& (255 : Int64)).toInt32).toUInt32.toUInt16.toUInt32.toInt32).toUInt32.toUInt16.toUInt32.toInt32)), (.int ((((((q.toUInt64 >>> ((32 : Int32) &&& 0x3f).toInt64.toUInt64).toInt64) &&& (255 : Int64)).toInt32).toUInt32.toUInt16.toUInt32.toInt32).toUInt32.toUInt16.toUInt32.toInt32)), (.int ((((((q.toUInt64 >>> ((40 : Int32) &&& 0x3f).toInt64.toUInt64).toInt64) &&& (255 : Int64)).toInt32).toUInt32.toUInt16.toUInt32.toInt32).toUInt32.toUInt16.toUInt32.toInt32)), (.int (0 : Int32)), (.int (0 : Int32))] (.int (0 : Int32)) := Arv.set Ar112 q112 Z112 N112 H112 G112 (fits_nar_char _) W113 5 rfl (Nat.le_of_ble_eq_true rfl)
              have O := O.wr W113 g_b101
              have K := K.wr W113 (Or.inr z_b101)
              have N113 := Fr.snoc X113 N111 g_b101
              obtain ⟨cl114, Ar114, q114, Z114, N114, H114, G114⟩ := id V_b101
              have hin114 : ¬ ((6 : Int32) < 0 ∨ cl114.slots.size ≤ ((6 : Int32)).toNatClampNeg) := inb_of Z114 ⟨by decide, by decide⟩
              obtain ⟨T115, h115, X115, e115, W115, st115⟩ := stC X113 hx hZ e113 Ar114 (j := (6 : Int32)) hin114 (g := (mkF m 354 #[.val (.int i), .val (.long q), .second, .val (.int j)] [(.int (((((q.toUInt64 >>> ((48 : Int32) &&& 0x3f).toInt64.toUInt64).toInt64) &&& (255 : Int64)).toInt32).toUInt32.toUInt16.toUInt32.toInt32)), (.int (6 : Int32)), (.ref b101), (.ref b101)])) rfl rfl (hb hby d1_354)
              have V_b101 : Arv Z h115 b101 k101 .char (8 : Int32) [(.int ((((q &&& (255 : Int64)).toInt32).toUInt32.toUInt16.toUInt32.toInt32).toUInt32.toUInt16.toUInt32.toInt32)), (.int ((((((q.toUInt64 >>> ((8 : Int32) &&& 0x3f).toInt64.toUInt64).toInt64) &&& (255 : Int64)).toInt32).toUInt32.toUInt16.toUInt32.toInt32).toUInt32.toUInt16.toUInt32.toInt32)), (.int ((((((q.toUInt64 >>> ((16 : Int32) &&& 0x3f).toInt64.toUInt64).toInt64) &&& (255 : Int64)).toInt32).toUInt32.toUInt16.toUInt32.toInt32).toUInt32.toUInt16.toUInt32.toInt32)), (.int ((((((q.toUInt64 >>> ((24 : Int32) &&& 0x3f).toInt64.toUInt64).toInt64) &&& (255 : Int64)).toInt32).toUInt32.toUInt16.toUInt32.toInt32).toUInt32.toUInt16.toUInt32.toInt32)), (.int ((((((q.toUInt64 >>> ((32 : Int32) &&& 0x3f).toInt64.toUInt64).toInt64) &&& (255 : Int64)).toInt32).toUInt32.toUInt16.toUInt32.toInt32).toUInt32.toUInt16.toUInt32.toInt32)), (.int ((((((q.toUInt64 >>> ((40 : Int32) &&& 0x3f).toInt64.toUInt64).toInt64) &&& (255 : Int64)).toInt32).toUInt32.toUInt16.toUInt32.toInt32).toUInt32.toUInt16.toUInt32.toInt32)), (.int ((((((q.toUInt64 >>> ((48 : Int32) &&& 0x3f).toInt64.toUInt64).toInt64) &&& (255 : Int64)).toInt32).toUInt32.toUInt16.toUInt32.toInt32).toUInt32.toUInt16.toUInt32.toInt32)), (.int (0 : Int32))] (.int (0 : Int32)) := Arv.set Ar114 q114 Z114 N114 H114 G114 (fits_nar_char _) W115 6 rfl (Nat.le_of_ble_eq_true rfl)
              have O := O.wr W115 g_b101
              have K := K.wr W115 (Or.inr z_b101)
              have N115 := Fr.snoc X115 N113 g_b101
              obtain ⟨cl116, Ar116, q116, Z116, N116, H116, G116⟩ := id V_b101
              have hin116 : ¬ ((7 : Int32) < 0 ∨ cl116.slots.size ≤ ((7 : Int32)).toNatClampNeg) := inb_of Z116 ⟨by decide, by decide⟩
              obtain ⟨T117, h117, X117, e117, W117, st117⟩ := stC X115 hx hZ e115 Ar116 (j := (7 : Int32)) hin116 (g := (mkF m 368 #[.val (.int i), .val (.long q), .second, .val (.int j)] [(.int (((((q.toUInt64 >>> ((56 : Int32) &&& 0x3f).toInt64.toUInt64).toInt64) &&& (255 : Int64)).toInt32).toUInt32.toUInt16.toUInt32.toInt32)), (.int (7 : Int32)), (.ref b101), (.ref b101)])) rfl rfl (hb hby d1_368)
              have V_b101 : Arv Z h117 b101 k101 .char (8 : Int32) [(.int ((((q &&& (255 : Int64)).toInt32).toUInt32.toUInt16.toUInt32.toInt32).toUInt32.toUInt16.toUInt32.toInt32)), (.int ((((((q.toUInt64 >>> ((8 : Int32) &&& 0x3f).toInt64.toUInt64).toInt64) &&& (255 : Int64)).toInt32).toUInt32.toUInt16.toUInt32.toInt32).toUInt32.toUInt16.toUInt32.toInt32)), (.int ((((((q.toUInt64 >>> ((16 : Int32) &&& 0x3f).toInt64.toUInt64).toInt64) &&& (255 : Int64)).toInt32).toUInt32.toUInt16.toUInt32.toInt32).toUInt32.toUInt16.toUInt32.toInt32)), (.int ((((((q.toUInt64 >>> ((24 : Int32) &&& 0x3f).toInt64.toUInt64).toInt64) &&& (255 : Int64)).toInt32).toUInt32.toUInt16.toUInt32.toInt32).toUInt32.toUInt16.toUInt32.toInt32)), (.int ((((((q.toUInt64 >>> ((32 : Int32) &&& 0x3f).toInt64.toUInt64).toInt64) &&& (255 : Int64)).toInt32).toUInt32.toUInt16.toUInt32.toInt32).toUInt32.toUInt16.toUInt32.toInt32)), (.int ((((((q.toUInt64 >>> ((40 : Int32) &&& 0x3f).toInt64.toUInt64).toInt64) &&& (255 : Int64)).toInt32).toUInt32.toUInt16.toUInt32.toInt32).toUInt32.toUInt16.toUInt32.toInt32)), (.int ((((((q.toUInt64 >>> ((48 : Int32) &&& 0x3f).toInt64.toUInt64).toInt64) &&& (255 : Int64)).toInt32).toUInt32.toUInt16.toUInt32.toInt32).toUInt32.toUInt16.toUInt32.toInt32)), (.int ((((((q.toUInt64 >>> ((56 : Int32) &&& 0x3f).toInt64.toUInt64).toInt64) &&& (255 : Int64)).toInt32).toUInt32.toUInt16.toUInt32.toInt32).toUInt32.toUInt16.toUInt32.toInt32))] (.int (0 : Int32)) := Arv.set Ar116 q116 Z116 N116 H116 G116 (fits_nar_char _) W117 7 rfl (Nat.le_of_ble_eq_true rfl)
              have O := O.wr W117 g_b101
              have K := K.wr W117 (Or.inr z_b101)
              have N117 := Fr.snoc X117 N115 g_b101
              have w118 : ∀ t, Steps p.tables e below (T117.setTop (mkF m 369 #[.val (.int i), .val (.long q), .second, .val (.int j)] [(.ref b101)])) t → Steps p.tables e below (s₁.setTop (entryFrame m #[(.int i), (.long q), (.int j)] 4)) t := fun t k => by
                refine w99 t ?_
                refine XS.icmpNo X0.here hx rfl (hb hby d1_259) rfl (teq hc259_100).2 ?_
                show Steps p.tables e below (s₁.setTop (mkF m 262 #[.val (.int i), .val (.long q), .second, .val (.int j)] [])) _
                refine XS.bipush X0.here hx rfl (hb hby d1_262) ?_
                show Steps p.tables e below (s₁.setTop (mkF m 264 #[.val (.int i), .val (.long q), .second, .val (.int j)] [(.int (8 : Int32))])) _
                refine st101 _ ?_
                show Steps p.tables e below (T101.setTop (mkF m 266 #[.val (.int i), .val (.long q), .second, .val (.int j)] [(.ref b101)])) _
                refine XS.dup X101.here hx rfl (hb hby d1_266) rfl rfl ?_
                show Steps p.tables e below (T101.setTop (mkF m 267 #[.val (.int i), .val (.long q), .second, .val (.int j)] [(.ref b101), (.ref b101)])) _
                refine XS.iconst X101.here hx rfl (hb hby d1_267) ?_
                show Steps p.tables e below (T101.setTop (mkF m 268 #[.val (.int i), .val (.long q), .second, .val (.int j)] [(.int (0 : Int32)), (.ref b101), (.ref b101)])) _
                refine XS.lloadN X101.here hx rfl (hb hby d1_268) rfl ?_
                show Steps p.tables e below (T101.setTop (mkF m 269 #[.val (.int i), .val (.long q), .second, .val (.int j)] [(.long q), (.int (0 : Int32)), (.ref b101), (.ref b101)])) _
                refine X101.ldc2Long hx hown (mvT hZ (hw _ (List.mem_of_getElem? (i := 112) rfl))) (g := (mkF m 269 #[.val (.int i), .val (.long q), .second, .val (.int j)] [(.long q), (.int (0 : Int32)), (.ref b101), (.ref b101)])) rfl (hb hby d1_269) _ ?_
                show Steps p.tables e below (T101.setTop (mkF m 272 #[.val (.int i), .val (.long q), .second, .val (.int j)] [(.long (255 : Int64)), (.long q), (.int (0 : Int32)), (.ref b101), (.ref b101)])) _
                refine XS.land X101.here hx rfl (hb hby d1_272) rfl ?_
                show Steps p.tables e below (T101.setTop (mkF m 273 #[.val (.int i), .val (.long q), .second, .val (.int j)] [(.long (q &&& (255 : Int64))), (.int (0 : Int32)), (.ref b101), (.ref b101)])) _
                refine XS.l2i X101.here hx rfl (hb hby d1_273) rfl ?_
                show Steps p.tables e below (T101.setTop (mkF m 274 #[.val (.int i), .val (.long q), .second, .val (.int j)] [(.int ((q &&& (255 : Int64)).toInt32)), (.int (0 : Int32)), (.ref b101), (.ref b101)])) _
                refine XS.i2c X101.here hx rfl (hb hby d1_274) rfl ?_
                show Steps p.tables e below (T101.setTop (mkF m 275 #[.val (.int i), .val (.long q), .second, .val (.int j)] [(.int (((q &&& (255 : Int64)).toInt32).toUInt32.toUInt16.toUInt32.toInt32)), (.int (0 : Int32)), (.ref b101), (.ref b101)])) _
                refine st103 _ ?_
                show Steps p.tables e below (T103.setTop (mkF m 276 #[.val (.int i), .val (.long q), .second, .val (.int j)] [(.ref b101)])) _
                refine XS.dup X103.here hx rfl (hb hby d1_276) rfl rfl ?_
                show Steps p.tables e below (T103.setTop (mkF m 277 #[.val (.int i), .val (.long q), .second, .val (.int j)] [(.ref b101), (.ref b101)])) _
                refine XS.iconst X103.here hx rfl (hb hby d1_277) ?_
                show Steps p.tables e below (T103.setTop (mkF m 278 #[.val (.int i), .val (.long q), .second, .val (.int j)] [(.int (1 : Int32)), (.ref b101), (.ref b101)])) _
                refine XS.lloadN X103.here hx rfl (hb hby d1_278) rfl ?_
                show Steps p.tables e below (T103.setTop (mkF m 279 #[.val (.int i), .val (.long q), .second, .val (.int j)] [(.long q), (.int (1 : Int32)), (.ref b101), (.ref b101)])) _
                refine XS.bipush X103.here hx rfl (hb hby d1_279) ?_
                show Steps p.tables e below (T103.setTop (mkF m 281 #[.val (.int i), .val (.long q), .second, .val (.int j)] [(.int (8 : Int32)), (.long q), (.int (1 : Int32)), (.ref b101), (.ref b101)])) _
                refine XS.lushr X103.here hx rfl (hb hby d1_281) rfl ?_
                show Steps p.tables e below (T103.setTop (mkF m 282 #[.val (.int i), .val (.long q), .second, .val (.int j)] [(.long ((q.toUInt64 >>> ((8 : Int32) &&& 0x3f).toInt64.toUInt64).toInt64)), (.int (1 : Int32)), (.ref b101), (.ref b101)])) _
                refine X103.ldc2Long hx hown (mvT hZ (hw _ (List.mem_of_getElem? (i := 112) rfl))) (g := (mkF m 282 #[.val (.int i), .val (.long q), .second, .val (.int j)] [(.long ((q.toUInt64 >>> ((8 : Int32) &&& 0x3f).toInt64.toUInt64).toInt64)), (.int (1 : Int32)), (.ref b101), (.ref b101)])) rfl (hb hby d1_282) _ ?_
                show Steps p.tables e below (T103.setTop (mkF m 285 #[.val (.int i), .val (.long q), .second, .val (.int j)] [(.long (255 : Int64)), (.long ((q.toUInt64 >>> ((8 : Int32) &&& 0x3f).toInt64.toUInt64).toInt64)), (.int (1 : Int32)), (.ref b101), (.ref b101)])) _
                refine XS.land X103.here hx rfl (hb hby d1_285) rfl ?_
                show Steps p.tables e below (T103.setTop (mkF m 286 #[.val (.int i), .val (.long q), .second, .val (.int j)] [(.long (((q.toUInt64 >>> ((8 : Int32) &&& 0x3f).toInt64.toUInt64).toInt64) &&& (255 : Int64))), (.int (1 : Int32)), (.ref b101), (.ref b101)])) _
                refine XS.l2i X103.here hx rfl (hb hby d1_286) rfl ?_
                show Steps p.tables e below (T103.setTop (mkF m 287 #[.val (.int i), .val (.long q), .second, .val (.int j)] [(.int ((((q.toUInt64 >>> ((8 : Int32) &&& 0x3f).toInt64.toUInt64).toInt64) &&& (255 : Int64)).toInt32)), (.int (1 : Int32)), (.ref b101), (.ref b101)])) _
                refine XS.i2c X103.here hx rfl (hb hby d1_287) rfl ?_
                show Steps p.tables e below (T103.setTop (mkF m 288 #[.val (.int i), .val (.long q), .second, .val (.int j)] [(.int (((((q.toUInt64 >>> ((8 : Int32) &&& 0x3f).toInt64.toUInt64).toInt64) &&& (255 : Int64)).toInt32).toUInt32.toUInt16.toUInt32.toInt32)), (.int (1 : Int32)), (.ref b101), (.ref b101)])) _
                refine st105 _ ?_
                show Steps p.tables e below (T105.setTop (mkF m 289 #[.val (.int i), .val (.long q), .second, .val (.int j)] [(.ref b101)])) _
                refine XS.dup X105.here hx rfl (hb hby d1_289) rfl rfl ?_
                show Steps p.tables e below (T105.setTop (mkF m 290 #[.val (.int i), .val (.long q), .second, .val (.int j)] [(.ref b101), (.ref b101)])) _
                refine XS.iconst X105.here hx rfl (hb hby d1_290) ?_
                show Steps p.tables e below (T105.setTop (mkF m 291 #[.val (.int i), .val (.long q), .second, .val (.int j)] [(.int (2 : Int32)), (.ref b101), (.ref b101)])) _
                refine XS.lloadN X105.here hx rfl (hb hby d1_291) rfl ?_
                show Steps p.tables e below (T105.setTop (mkF m 292 #[.val (.int i), .val (.long q), .second, .val (.int j)] [(.long q), (.int (2 : Int32)), (.ref b101), (.ref b101)])) _
                refine XS.bipush X105.here hx rfl (hb hby d1_292) ?_
                show Steps p.tables e below (T105.setTop (mkF m 294 #[.val (.int i), .val (.long q), .second, .val (.int j)] [(.int (16 : Int32)), (.long q), (.int (2 : Int32)), (.ref b101), (.ref b101)])) _
                refine XS.lushr X105.here hx rfl (hb hby d1_294) rfl ?_
                show Steps p.tables e below (T105.setTop (mkF m 295 #[.val (.int i), .val (.long q), .second, .val (.int j)] [(.long ((q.toUInt64 >>> ((16 : Int32) &&& 0x3f).toInt64.toUInt64).toInt64)), (.int (2 : Int32)), (.ref b101), (.ref b101)])) _
                refine X105.ldc2Long hx hown (mvT hZ (hw _ (List.mem_of_getElem? (i := 112) rfl))) (g := (mkF m 295 #[.val (.int i), .val (.long q), .second, .val (.int j)] [(.long ((q.toUInt64 >>> ((16 : Int32) &&& 0x3f).toInt64.toUInt64).toInt64)), (.int (2 : Int32)), (.ref b101), (.ref b101)])) rfl (hb hby d1_295) _ ?_
                show Steps p.tables e below (T105.setTop (mkF m 298 #[.val (.int i), .val (.long q), .second, .val (.int j)] [(.long (255 : Int64)), (.long ((q.toUInt64 >>> ((16 : Int32) &&& 0x3f).toInt64.toUInt64).toInt64)), (.int (2 : Int32)), (.ref b101), (.ref b101)])) _
                refine XS.land X105.here hx rfl (hb hby d1_298) rfl ?_
                show Steps p.tables e below (T105.setTop (mkF m 299 #[.val (.int i), .val (.long q), .second, .val (.int j)] [(.long (((q.toUInt64 >>> ((16 : Int32) &&& 0x3f).toInt64.toUInt64).toInt64) &&& (255 : Int64))), (.int (2 : Int32)), (.ref b101), (.ref b101)])) _
                refine XS.l2i X105.here hx rfl (hb hby d1_299) rfl ?_
                show Steps p.tables e below (T105.setTop (mkF m 300 #[.val (.int i), .val (.long q), .second, .val (.int j)] [(.int ((((q.toUInt64 >>> ((16 : Int32) &&& 0x3f).toInt64.toUInt64).toInt64) &&& (255 : Int64)).toInt32)), (.int (2 : Int32)), (.ref b101), (.ref b101)])) _
                refine XS.i2c X105.here hx rfl (hb hby d1_300) rfl ?_
                show Steps p.tables e below (T105.setTop (mkF m 301 #[.val (.int i), .val (.long q), .second, .val (.int j)] [(.int (((((q.toUInt64 >>> ((16 : Int32) &&& 0x3f).toInt64.toUInt64).toInt64) &&& (255 : Int64)).toInt32).toUInt32.toUInt16.toUInt32.toInt32)), (.int (2 : Int32)), (.ref b101), (.ref b101)])) _
                refine st107 _ ?_
                show Steps p.tables e below (T107.setTop (mkF m 302 #[.val (.int i), .val (.long q), .second, .val (.int j)] [(.ref b101)])) _
                refine XS.dup X107.here hx rfl (hb hby d1_302) rfl rfl ?_
                show Steps p.tables e below (T107.setTop (mkF m 303 #[.val (.int i), .val (.long q), .second, .val (.int j)] [(.ref b101), (.ref b101)])) _
                refine XS.iconst X107.here hx rfl (hb hby d1_303) ?_
                show Steps p.tables e below (T107.setTop (mkF m 304 #[.val (.int i), .val (.long q), .second, .val (.int j)] [(.int (3 : Int32)), (.ref b101), (.ref b101)])) _
                refine XS.lloadN X107.here hx rfl (hb hby d1_304) rfl ?_
                show Steps p.tables e below (T107.setTop (mkF m 305 #[.val (.int i), .val (.long q), .second, .val (.int j)] [(.long q), (.int (3 : Int32)), (.ref b101), (.ref b101)])) _
                refine XS.bipush X107.here hx rfl (hb hby d1_305) ?_
                show Steps p.tables e below (T107.setTop (mkF m 307 #[.val (.int i), .val (.long q), .second, .val (.int j)] [(.int (24 : Int32)), (.long q), (.int (3 : Int32)), (.ref b101), (.ref b101)])) _
                refine XS.lushr X107.here hx rfl (hb hby d1_307) rfl ?_
                show Steps p.tables e below (T107.setTop (mkF m 308 #[.val (.int i), .val (.long q), .second, .val (.int j)] [(.long ((q.toUInt64 >>> ((24 : Int32) &&& 0x3f).toInt64.toUInt64).toInt64)), (.int (3 : Int32)), (.ref b101), (.ref b101)])) _
                refine X107.ldc2Long hx hown (mvT hZ (hw _ (List.mem_of_getElem? (i := 112) rfl))) (g := (mkF m 308 #[.val (.int i), .val (.long q), .second, .val (.int j)] [(.long ((q.toUInt64 >>> ((24 : Int32) &&& 0x3f).toInt64.toUInt64).toInt64)), (.int (3 : Int32)), (.ref b101), (.ref b101)])) rfl (hb hby d1_308) _ ?_
                show Steps p.tables e below (T107.setTop (mkF m 311 #[.val (.int i), .val (.long q), .second, .val (.int j)] [(.long (255 : Int64)), (.long ((q.toUInt64 >>> ((24 : Int32) &&& 0x3f).toInt64.toUInt64).toInt64)), (.int (3 : Int32)), (.ref b101), (.ref b101)])) _
                refine XS.land X107.here hx rfl (hb hby d1_311) rfl ?_
                show Steps p.tables e below (T107.setTop (mkF m 312 #[.val (.int i), .val (.long q), .second, .val (.int j)] [(.long (((q.toUInt64 >>> ((24 : Int32) &&& 0x3f).toInt64.toUInt64).toInt64) &&& (255 : Int64))), (.int (3 : Int32)), (.ref b101), (.ref b101)])) _
                refine XS.l2i X107.here hx rfl (hb hby d1_312) rfl ?_
                show Steps p.tables e below (T107.setTop (mkF m 313 #[.val (.int i), .val (.long q), .second, .val (.int j)] [(.int ((((q.toUInt64 >>> ((24 : Int32) &&& 0x3f).toInt64.toUInt64).toInt64) &&& (255 : Int64)).toInt32)), (.int (3 : Int32)), (.ref b101), (.ref b101)])) _
                refine XS.i2c X107.here hx rfl (hb hby d1_313) rfl ?_
                show Steps p.tables e below (T107.setTop (mkF m 314 #[.val (.int i), .val (.long q), .second, .val (.int j)] [(.int (((((q.toUInt64 >>> ((24 : Int32) &&& 0x3f).toInt64.toUInt64).toInt64) &&& (255 : Int64)).toInt32).toUInt32.toUInt16.toUInt32.toInt32)), (.int (3 : Int32)), (.ref b101), (.ref b101)])) _
                refine st109 _ ?_
                show Steps p.tables e below (T109.setTop (mkF m 315 #[.val (.int i), .val (.long q), .second, .val (.int j)] [(.ref b101)])) _
                refine XS.dup X109.here hx rfl (hb hby d1_315) rfl rfl ?_
                show Steps p.tables e below (T109.setTop (mkF m 316 #[.val (.int i), .val (.long q), .second, .val (.int j)] [(.ref b101), (.ref b101)])) _
                refine XS.iconst X109.here hx rfl (hb hby d1_316) ?_
                show Steps p.tables e below (T109.setTop (mkF m 317 #[.val (.int i), .val (.long q), .second, .val (.int j)] [(.int (4 : Int32)), (.ref b101), (.ref b101)])) _
                refine XS.lloadN X109.here hx rfl (hb hby d1_317) rfl ?_
                show Steps p.tables e below (T109.setTop (mkF m 318 #[.val (.int i), .val (.long q), .second, .val (.int j)] [(.long q), (.int (4 : Int32)), (.ref b101), (.ref b101)])) _
                refine XS.bipush X109.here hx rfl (hb hby d1_318) ?_
                show Steps p.tables e below (T109.setTop (mkF m 320 #[.val (.int i), .val (.long q), .second, .val (.int j)] [(.int (32 : Int32)), (.long q), (.int (4 : Int32)), (.ref b101), (.ref b101)])) _
                refine XS.lushr X109.here hx rfl (hb hby d1_320) rfl ?_
                show Steps p.tables e below (T109.setTop (mkF m 321 #[.val (.int i), .val (.long q), .second, .val (.int j)] [(.long ((q.toUInt64 >>> ((32 : Int32) &&& 0x3f).toInt64.toUInt64).toInt64)), (.int (4 : Int32)), (.ref b101), (.ref b101)])) _
                refine X109.ldc2Long hx hown (mvT hZ (hw _ (List.mem_of_getElem? (i := 112) rfl))) (g := (mkF m 321 #[.val (.int i), .val (.long q), .second, .val (.int j)] [(.long ((q.toUInt64 >>> ((32 : Int32) &&& 0x3f).toInt64.toUInt64).toInt64)), (.int (4 : Int32)), (.ref b101), (.ref b101)])) rfl (hb hby d1_321) _ ?_
                show Steps p.tables e below (T109.setTop (mkF m 324 #[.val (.int i), .val (.long q), .second, .val (.int j)] [(.long (255 : Int64)), (.long ((q.toUInt64 >>> ((32 : Int32) &&& 0x3f).toInt64.toUInt64).toInt64)), (.int (4 : Int32)), (.ref b101), (.ref b101)])) _
                refine XS.land X109.here hx rfl (hb hby d1_324) rfl ?_
                show Steps p.tables e below (T109.setTop (mkF m 325 #[.val (.int i), .val (.long q), .second, .val (.int j)] [(.long (((q.toUInt64 >>> ((32 : Int32) &&& 0x3f).toInt64.toUInt64).toInt64) &&& (255 : Int64))), (.int (4 : Int32)), (.ref b101), (.ref b101)])) _
                refine XS.l2i X109.here hx rfl (hb hby d1_325) rfl ?_
                show Steps p.tables e below (T109.setTop (mkF m 326 #[.val (.int i), .val (.long q), .second, .val (.int j)] [(.int ((((q.toUInt64 >>> ((32 : Int32) &&& 0x3f).toInt64.toUInt64).toInt64) &&& (255 : Int64)).toInt32)), (.int (4 : Int32)), (.ref b101), (.ref b101)])) _
                refine XS.i2c X109.here hx rfl (hb hby d1_326) rfl ?_
                show Steps p.tables e below (T109.setTop (mkF m 327 #[.val (.int i), .val (.long q), .second, .val (.int j)] [(.int (((((q.toUInt64 >>> ((32 : Int32) &&& 0x3f).toInt64.toUInt64).toInt64) &&& (255 : Int64)).toInt32).toUInt32.toUInt16.toUInt32.toInt32)), (.int (4 : Int32)), (.ref b101), (.ref b101)])) _
                refine st111 _ ?_
                show Steps p.tables e below (T111.setTop (mkF m 328 #[.val (.int i), .val (.long q), .second, .val (.int j)] [(.ref b101)])) _
                refine XS.dup X111.here hx rfl (hb hby d1_328) rfl rfl ?_
                show Steps p.tables e below (T111.setTop (mkF m 329 #[.val (.int i), .val (.long q), .second, .val (.int j)] [(.ref b101), (.ref b101)])) _
                refine XS.iconst X111.here hx rfl (hb hby d1_329) ?_
                show Steps p.tables e below (T111.setTop (mkF m 330 #[.val (.int i), .val (.long q), .second, .val (.int j)] [(.int (5 : Int32)), (.ref b101), (.ref b101)])) _
                refine XS.lloadN X111.here hx rfl (hb hby d1_330) rfl ?_
                show Steps p.tables e below (T111.setTop (mkF m 331 #[.val (.int i), .val (.long q), .second, .val (.int j)] [(.long q), (.int (5 : Int32)), (.ref b101), (.ref b101)])) _
                refine XS.bipush X111.here hx rfl (hb hby d1_331) ?_
                show Steps p.tables e below (T111.setTop (mkF m 333 #[.val (.int i), .val (.long q), .second, .val (.int j)] [(.int (40 : Int32)), (.long q), (.int (5 : Int32)), (.ref b101), (.ref b101)])) _
                refine XS.lushr X111.here hx rfl (hb hby d1_333) rfl ?_
                show Steps p.tables e below (T111.setTop (mkF m 334 #[.val (.int i), .val (.long q), .second, .val (.int j)] [(.long ((q.toUInt64 >>> ((40 : Int32) &&& 0x3f).toInt64.toUInt64).toInt64)), (.int (5 : Int32)), (.ref b101), (.ref b101)])) _
                refine X111.ldc2Long hx hown (mvT hZ (hw _ (List.mem_of_getElem? (i := 112) rfl))) (g := (mkF m 334 #[.val (.int i), .val (.long q), .second, .val (.int j)] [(.long ((q.toUInt64 >>> ((40 : Int32) &&& 0x3f).toInt64.toUInt64).toInt64)), (.int (5 : Int32)), (.ref b101), (.ref b101)])) rfl (hb hby d1_334) _ ?_
                show Steps p.tables e below (T111.setTop (mkF m 337 #[.val (.int i), .val (.long q), .second, .val (.int j)] [(.long (255 : Int64)), (.long ((q.toUInt64 >>> ((40 : Int32) &&& 0x3f).toInt64.toUInt64).toInt64)), (.int (5 : Int32)), (.ref b101), (.ref b101)])) _
                refine XS.land X111.here hx rfl (hb hby d1_337) rfl ?_
                show Steps p.tables e below (T111.setTop (mkF m 338 #[.val (.int i), .val (.long q), .second, .val (.int j)] [(.long (((q.toUInt64 >>> ((40 : Int32) &&& 0x3f).toInt64.toUInt64).toInt64) &&& (255 : Int64))), (.int (5 : Int32)), (.ref b101), (.ref b101)])) _
                refine XS.l2i X111.here hx rfl (hb hby d1_338) rfl ?_
                show Steps p.tables e below (T111.setTop (mkF m 339 #[.val (.int i), .val (.long q), .second, .val (.int j)] [(.int ((((q.toUInt64 >>> ((40 : Int32) &&& 0x3f).toInt64.toUInt64).toInt64) &&& (255 : Int64)).toInt32)), (.int (5 : Int32)), (.ref b101), (.ref b101)])) _
                refine XS.i2c X111.here hx rfl (hb hby d1_339) rfl ?_
                show Steps p.tables e below (T111.setTop (mkF m 340 #[.val (.int i), .val (.long q), .second, .val (.int j)] [(.int (((((q.toUInt64 >>> ((40 : Int32) &&& 0x3f).toInt64.toUInt64).toInt64) &&& (255 : Int64)).toInt32).toUInt32.toUInt16.toUInt32.toInt32)), (.int (5 : Int32)), (.ref b101), (.ref b101)])) _
                refine st113 _ ?_
                show Steps p.tables e below (T113.setTop (mkF m 341 #[.val (.int i), .val (.long q), .second, .val (.int j)] [(.ref b101)])) _
                refine XS.dup X113.here hx rfl (hb hby d1_341) rfl rfl ?_
                show Steps p.tables e below (T113.setTop (mkF m 342 #[.val (.int i), .val (.long q), .second, .val (.int j)] [(.ref b101), (.ref b101)])) _
                refine XS.bipush X113.here hx rfl (hb hby d1_342) ?_
                show Steps p.tables e below (T113.setTop (mkF m 344 #[.val (.int i), .val (.long q), .second, .val (.int j)] [(.int (6 : Int32)), (.ref b101), (.ref b101)])) _
                refine XS.lloadN X113.here hx rfl (hb hby d1_344) rfl ?_
                show Steps p.tables e below (T113.setTop (mkF m 345 #[.val (.int i), .val (.long q), .second, .val (.int j)] [(.long q), (.int (6 : Int32)), (.ref b101), (.ref b101)])) _
                refine XS.bipush X113.here hx rfl (hb hby d1_345) ?_
                show Steps p.tables e below (T113.setTop (mkF m 347 #[.val (.int i), .val (.long q), .second, .val (.int j)] [(.int (48 : Int32)), (.long q), (.int (6 : Int32)), (.ref b101), (.ref b101)])) _
                refine XS.lushr X113.here hx rfl (hb hby d1_347) rfl ?_
                show Steps p.tables e below (T113.setTop (mkF m 348 #[.val (.int i), .val (.long q), .second, .val (.int j)] [(.long ((q.toUInt64 >>> ((48 : Int32) &&& 0x3f).toInt64.toUInt64).toInt64)), (.int (6 : Int32)), (.ref b101), (.ref b101)])) _
                refine X113.ldc2Long hx hown (mvT hZ (hw _ (List.mem_of_getElem? (i := 112) rfl))) (g := (mkF m 348 #[.val (.int i), .val (.long q), .second, .val (.int j)] [(.long ((q.toUInt64 >>> ((48 : Int32) &&& 0x3f).toInt64.toUInt64).toInt64)), (.int (6 : Int32)), (.ref b101), (.ref b101)])) rfl (hb hby d1_348) _ ?_
                show Steps p.tables e below (T113.setTop (mkF m 351 #[.val (.int i), .val (.long q), .second, .val (.int j)] [(.long (255 : Int64)), (.long ((q.toUInt64 >>> ((48 : Int32) &&& 0x3f).toInt64.toUInt64).toInt64)), (.int (6 : Int32)), (.ref b101), (.ref b101)])) _
                refine XS.land X113.here hx rfl (hb hby d1_351) rfl ?_
                show Steps p.tables e below (T113.setTop (mkF m 352 #[.val (.int i), .val (.long q), .second, .val (.int j)] [(.long (((q.toUInt64 >>> ((48 : Int32) &&& 0x3f).toInt64.toUInt64).toInt64) &&& (255 : Int64))), (.int (6 : Int32)), (.ref b101), (.ref b101)])) _
                refine XS.l2i X113.here hx rfl (hb hby d1_352) rfl ?_
                show Steps p.tables e below (T113.setTop (mkF m 353 #[.val (.int i), .val (.long q), .second, .val (.int j)] [(.int ((((q.toUInt64 >>> ((48 : Int32) &&& 0x3f).toInt64.toUInt64).toInt64) &&& (255 : Int64)).toInt32)), (.int (6 : Int32)), (.ref b101), (.ref b101)])) _
                refine XS.i2c X113.here hx rfl (hb hby d1_353) rfl ?_
                show Steps p.tables e below (T113.setTop (mkF m 354 #[.val (.int i), .val (.long q), .second, .val (.int j)] [(.int (((((q.toUInt64 >>> ((48 : Int32) &&& 0x3f).toInt64.toUInt64).toInt64) &&& (255 : Int64)).toInt32).toUInt32.toUInt16.toUInt32.toInt32)), (.int (6 : Int32)), (.ref b101), (.ref b101)])) _
                refine st115 _ ?_
                show Steps p.tables e below (T115.setTop (mkF m 355 #[.val (.int i), .val (.long q), .second, .val (.int j)] [(.ref b101)])) _
                refine XS.dup X115.here hx rfl (hb hby d1_355) rfl rfl ?_
                show Steps p.tables e below (T115.setTop (mkF m 356 #[.val (.int i), .val (.long q), .second, .val (.int j)] [(.ref b101), (.ref b101)])) _
                refine XS.bipush X115.here hx rfl (hb hby d1_356) ?_
                show Steps p.tables e below (T115.setTop (mkF m 358 #[.val (.int i), .val (.long q), .second, .val (.int j)] [(.int (7 : Int32)), (.ref b101), (.ref b101)])) _
                refine XS.lloadN X115.here hx rfl (hb hby d1_358) rfl ?_
                show Steps p.tables e below (T115.setTop (mkF m 359 #[.val (.int i), .val (.long q), .second, .val (.int j)] [(.long q), (.int (7 : Int32)), (.ref b101), (.ref b101)])) _
                refine XS.bipush X115.here hx rfl (hb hby d1_359) ?_
                show Steps p.tables e below (T115.setTop (mkF m 361 #[.val (.int i), .val (.long q), .second, .val (.int j)] [(.int (56 : Int32)), (.long q), (.int (7 : Int32)), (.ref b101), (.ref b101)])) _
                refine XS.lushr X115.here hx rfl (hb hby d1_361) rfl ?_
                show Steps p.tables e below (T115.setTop (mkF m 362 #[.val (.int i), .val (.long q), .second, .val (.int j)] [(.long ((q.toUInt64 >>> ((56 : Int32) &&& 0x3f).toInt64.toUInt64).toInt64)), (.int (7 : Int32)), (.ref b101), (.ref b101)])) _
                refine X115.ldc2Long hx hown (mvT hZ (hw _ (List.mem_of_getElem? (i := 112) rfl))) (g := (mkF m 362 #[.val (.int i), .val (.long q), .second, .val (.int j)] [(.long ((q.toUInt64 >>> ((56 : Int32) &&& 0x3f).toInt64.toUInt64).toInt64)), (.int (7 : Int32)), (.ref b101), (.ref b101)])) rfl (hb hby d1_362) _ ?_
                show Steps p.tables e below (T115.setTop (mkF m 365 #[.val (.int i), .val (.long q), .second, .val (.int j)] [(.long (255 : Int64)), (.long ((q.toUInt64 >>> ((56 : Int32) &&& 0x3f).toInt64.toUInt64).toInt64)), (.int (7 : Int32)), (.ref b101), (.ref b101)])) _
                refine XS.land X115.here hx rfl (hb hby d1_365) rfl ?_
                show Steps p.tables e below (T115.setTop (mkF m 366 #[.val (.int i), .val (.long q), .second, .val (.int j)] [(.long (((q.toUInt64 >>> ((56 : Int32) &&& 0x3f).toInt64.toUInt64).toInt64) &&& (255 : Int64))), (.int (7 : Int32)), (.ref b101), (.ref b101)])) _
                refine XS.l2i X115.here hx rfl (hb hby d1_366) rfl ?_
                show Steps p.tables e below (T115.setTop (mkF m 367 #[.val (.int i), .val (.long q), .second, .val (.int j)] [(.int ((((q.toUInt64 >>> ((56 : Int32) &&& 0x3f).toInt64.toUInt64).toInt64) &&& (255 : Int64)).toInt32)), (.int (7 : Int32)), (.ref b101), (.ref b101)])) _
                refine XS.i2c X115.here hx rfl (hb hby d1_367) rfl ?_
                show Steps p.tables e below (T115.setTop (mkF m 368 #[.val (.int i), .val (.long q), .second, .val (.int j)] [(.int (((((q.toUInt64 >>> ((56 : Int32) &&& 0x3f).toInt64.toUInt64).toInt64) &&& (255 : Int64)).toInt32).toUInt32.toUInt16.toUInt32.toInt32)), (.int (7 : Int32)), (.ref b101), (.ref b101)])) _
                refine st117 _ ?_
                show Steps p.tables e below (T117.setTop (mkF m 369 #[.val (.int i), .val (.long q), .second, .val (.int j)] [(.ref b101)])) _
                exact k
              obtain ⟨fs, hr, hrun, hended, hW, hsame⟩ := X117.leave (v := some (.ref b101)) (fun h => by rw [Bd.returns] at h; cases h)
              refine ⟨_, _, w118 _ ?_, hrun, hended, _, _, rfl, ?_, ⟨_, rfl⟩, hW, hsame.mono (by decide) (by decide)⟩
              · jvm_step X117.here [X117.here.top, hx, (hb hby d1_369), X117.method', Bd.returns, Value.isRef, FieldType.isReference]
                first | (intro acts; rw [hr _ acts rfl rfl rfl]) | rw [hr _ _ rfl rfl rfl]
                exact Steps.refl _
              · show Q1 Z i q j  h0 n0 _ T117.heap _
                rw [e117]
                exact ⟨b101, k101, [((((q &&& (255 : Int64)).toInt32).toUInt32.toUInt16.toUInt32.toInt32).toUInt32.toUInt16.toUInt32.toInt32), ((((((q.toUInt64 >>> ((8 : Int32) &&& 0x3f).toInt64.toUInt64).toInt64) &&& (255 : Int64)).toInt32).toUInt32.toUInt16.toUInt32.toInt32).toUInt32.toUInt16.toUInt32.toInt32), ((((((q.toUInt64 >>> ((16 : Int32) &&& 0x3f).toInt64.toUInt64).toInt64) &&& (255 : Int64)).toInt32).toUInt32.toUInt16.toUInt32.toInt32).toUInt32.toUInt16.toUInt32.toInt32), ((((((q.toUInt64 >>> ((24 : Int32) &&& 0x3f).toInt64.toUInt64).toInt64) &&& (255 : Int64)).toInt32).toUInt32.toUInt16.toUInt32.toInt32).toUInt32.toUInt16.toUInt32.toInt32), ((((((q.toUInt64 >>> ((32 : Int32) &&& 0x3f).toInt64.toUInt64).toInt64) &&& (255 : Int64)).toInt32).toUInt32.toUInt16.toUInt32.toInt32).toUInt32.toUInt16.toUInt32.toInt32), ((((((q.toUInt64 >>> ((40 : Int32) &&& 0x3f).toInt64.toUInt64).toInt64) &&& (255 : Int64)).toInt32).toUInt32.toUInt16.toUInt32.toInt32).toUInt32.toUInt16.toUInt32.toInt32), ((((((q.toUInt64 >>> ((48 : Int32) &&& 0x3f).toInt64.toUInt64).toInt64) &&& (255 : Int64)).toInt32).toUInt32.toUInt16.toUInt32.toInt32).toUInt32.toUInt16.toUInt32.toInt32), ((((((q.toUInt64 >>> ((56 : Int32) &&& 0x3f).toInt64.toUInt64).toInt64) &&& (255 : Int64)).toInt32).toUInt32.toUInt16.toUInt32.toInt32).toUInt32.toUInt16.toUInt32.toInt32)], rfl, N117, K, V_b101, z_b101, g_b101, (Nat.le_of_ble_eq_true rfl), (List.forall_mem_cons.mpr ⟨own_bL _, List.forall_mem_cons.mpr ⟨own_bL _, List.forall_mem_cons.mpr ⟨own_bL _, List.forall_mem_cons.mpr ⟨own_bL _, List.forall_mem_cons.mpr ⟨own_bL _, List.forall_mem_cons.mpr ⟨own_bL _, List.forall_mem_cons.mpr ⟨own_bL _, List.forall_mem_cons.mpr ⟨own_bL _, fun c hc => nomatch hc⟩⟩⟩⟩⟩⟩⟩⟩)⟩
            · obtain ⟨T119, h119, k119, X119, e119, E119, A119, st119⟩ := newP X0 hx hZ (hw _ (List.mem_of_getElem? (i := 4) rfl)) e0 (g := (mkF m 371 #[.val (.int i), .val (.long q), .second, .val (.int j)] [(.int (0 : Int32))])) rfl (hb hby d1_371) rfl (by decide) (cap := 0) (by decide) (by decide) (by decide) (by decide)
              obtain ⟨b119, gq119⟩ : ∃ z, z = Array.size h0 := ⟨_, rfl⟩
              rw [← gq119] at A119 st119
              have g_b119 : n0 ≤ b119 := Nat.le_trans (O.1 ▸ O.2.1) (Nat.le_of_eq gq119.symm)
              have z_b119 : h0.size ≤ b119 := Nat.le_trans K.1 (Nat.le_of_eq gq119.symm)
              have O := O.ext E119
              have K := K.ext E119
              have V_b119 : Arv Z h119 b119 k119 .char (0 : Int32) [] (.int (0 : Int32)) := (Arv.new A119 (by decide))
              have w120 : ∀ t, Steps p.tables e below (T119.setTop (mkF m 373 #[.val (.int i), .val (.long q), .second, .val (.int j)] [(.ref b119)])) t → Steps p.tables e below (s₁.setTop (entryFrame m #[(.int i), (.long q), (.int j)] 4)) t := fun t k => by
                refine w99 t ?_
                refine XS.icmpYes X0.here hx rfl (pc0 := 259) (pc' := 370) rfl (hb hby d1_259) rfl (feq hc259_100).2 (by decide) (by decide) ?_
                show Steps p.tables e below (s₁.setTop (mkF m 370 #[.val (.int i), .val (.long q), .second, .val (.int j)] [])) _
                refine XS.iconst X0.here hx rfl (hb hby d1_370) ?_
                show Steps p.tables e below (s₁.setTop (mkF m 371 #[.val (.int i), .val (.long q), .second, .val (.int j)] [(.int (0 : Int32))])) _
                refine st119 _ ?_
                show Steps p.tables e below (T119.setTop (mkF m 373 #[.val (.int i), .val (.long q), .second, .val (.int j)] [(.ref b119)])) _
                exact k
              obtain ⟨fs, hr, hrun, hended, hW, hsame⟩ := X119.leave (v := some (.ref b119)) (fun h => by rw [Bd.returns] at h; cases h)
              refine ⟨_, _, w120 _ ?_, hrun, hended, _, _, rfl, ?_, ⟨_, rfl⟩, hW, hsame.mono (by decide) (by decide)⟩
              · jvm_step X119.here [X119.here.top, hx, (hb hby d1_373), X119.method', Bd.returns, Value.isRef, FieldType.isReference]
                first | (intro acts; rw [hr _ acts rfl rfl rfl]) | rw [hr _ _ rfl rfl rfl]
                exact Steps.refl _
              · show Q1 Z i q j  h0 n0 _ T119.heap _
                rw [e119]
                exact ⟨b119, k119, [], rfl, N0, K, V_b119, z_b119, g_b119, (Nat.le_of_ble_eq_true rfl), (fun c hc => nomatch hc)⟩
theorem d9_0 : decode jdk_42_method_66_code 0 = .ok (.aload_n 0, 1) := by decide +kernel
theorem d9_1 : decode jdk_42_method_66_code 1 = .ok (.aload_n 1, 1) := by decide +kernel
theorem d9_2 : decode jdk_42_method_66_code 2 = .ok (.if_acmp .ne 5, 3) := by decide +kernel
theorem d9_7 : decode jdk_42_method_66_code 7 = .ok (.aload_n 1, 1) := by decide +kernel
theorem d9_8 : decode jdk_42_method_66_code 8 = .ok (.instanceof 10, 3) := by decide +kernel
theorem d9_11 : decode jdk_42_method_66_code 11 = .ok (.ifCond .eq 43, 3) := by decide +kernel
theorem d9_54 : decode jdk_42_method_66_code 54 = .ok (.iconst 0, 1) := by decide +kernel
theorem d9_55 : decode jdk_42_method_66_code 55 = .ok (.ireturn, 1) := by decide +kernel
theorem ef_9_n (m : MethodId) (x0 : Addr) : entryFrame m #[(.ref x0), .null] 3 = mkF m 0 #[.val (.ref x0), .val .null, .unset] [] := by first | (simp [entryFrame, mkF, argsToLocals, Value.category]; done) | rfl
def Q9_n (Z : State) (a : Addr) (h0 : Heap) (n0 : Nat) (v : Option Value) (h : Heap) (L : List Loc) : Prop := v = some (.int (0 : Int32)) ∧ Fr n0 L ∧ h = h0
set_option maxRecDepth 65536 in
set_option maxHeartbeats 40000000 in
theorem rm9_n (l : Launch) (Z : State) (a0 : Array Value) (hw : ∀ d ∈ tables_1, d.before a0 Z = true) (ws : List Jvm.Cond) (a : Addr) (h0 : Heap) (n0 : Nat) (O0 : Old Z n0 h0) :
    MetFree l (⟨"java/lang/String", "equals", "(Ljava/lang/Object;)Z"⟩ : MethodName) (head1 (Jvm.Cond.code (⟨"java/lang/String", "equals", "(Ljava/lang/Object;)Z"⟩ : MethodName) jdk_42_method_66_code 3 (some .boolean) :: ws) ({ frames := 0, cells := 0, slots := 0, locals := 0 } : Room)) (fun aA uU => aA = #[(.ref a), .null] ∧ Z.Warmed39 uU.vm ∧ uU.heap = h0) (fun _ _ _ _ _ => True) (fun _ uU oO uU' => ∃ vV lL, oO = .returned vV ∧ Q9_n Z a  h0 n0 vV uU'.heap lL ∧ FrameEnd uU oO uU' lL ({ frames := 0, cells := 0, slots := 0, locals := 0 } : Room).cells ({ frames := 0, cells := 0, slots := 0, locals := 0 } : Room).slots) := by
  refine MetFree.of_bodySF (plainFor_of_name pn_java_lang_String) hisR ?_
  intro p e s m args below meth c s₁ Bd hml0 hP hK
  obtain ⟨rfl, hZ, hh⟩ := hP
  have hx := Bd.exec
  have hby := Bd.bytes
  have hml : c.maxLocals = 3 := hml0
  have hown : s.vm.findClass "java/lang/String" = some m.cls := findClass_of_methodNamed Bd.named
  have hnm := (name_of_methodNamed Bd.named Bd.method).1
  have X0 : Stand p l e ({ frames := 0, cells := 0, slots := 0, locals := 0 } : Room) s m #[(.ref a), .null] below meth c s₁ [] 0 0 := Stand.of_body Bd
  have e0 : s₁.heap = h0 := by rw [← hh, Bd.state]; rfl
  have N0 := Fr.nil n0
  have O := O0
  have pre0 : ∀ t, Steps p.tables e below (s₁.setTop (mkF m 0 #[.val (.ref a), .val .null, .unset] [])) t → Steps p.tables e below (s₁.setTop (entryFrame m #[(.ref a), .null] 3)) t := fun t k => castTop (ef_9_n m a) k
  have w1 : ∀ t, Steps p.tables e below (s₁.setTop (mkF m 55 #[.val (.ref a), .val .null, .unset] [(.int (0 : Int32))])) t → Steps p.tables e below (s₁.setTop (entryFrame m #[(.ref a), .null] 3)) t := fun t k => by
    refine pre0 t ?_
    refine XS.aloadN X0.here hx rfl (hb hby d9_0) rfl rfl ?_
    show Steps p.tables e below (s₁.setTop (mkF m 1 #[.val (.ref a), .val .null, .unset] [(.ref a)])) _
    refine XS.aloadN X0.here hx rfl (hb hby d9_1) rfl rfl ?_
    show Steps p.tables e below (s₁.setTop (mkF m 2 #[.val (.ref a), .val .null, .unset] [.null, (.ref a)])) _
    refine Jvm.RoadKit.acmp (g := (mkF m 2 #[.val (.ref a), .val .null, .unset] [.null, (.ref a)])) X0 hx rfl rfl rfl (pc0 := 2) (pc' := 7) (same := false) rfl (hb hby d9_2) rfl (decide_eq_false nofun) (by decide) (by decide) ?_
    show Steps p.tables e below (s₁.setTop (mkF m 7 #[.val (.ref a), .val .null, .unset] [])) _
    refine XS.aloadN X0.here hx rfl (hb hby d9_7) rfl rfl ?_
    show Steps p.tables e below (s₁.setTop (mkF m 8 #[.val (.ref a), .val .null, .unset] [.null])) _
    refine X0.instanceofNull hx (g := (mkF m 8 #[.val (.ref a), .val .null, .unset] [.null])) rfl rfl (hb hby d9_8) _ ?_
    show Steps p.tables e below (s₁.setTop (mkF m 11 #[.val (.ref a), .val .null, .unset] [(.int (0 : Int32))])) _
    refine XS.ifYes X0.here hx rfl (pc0 := 11) (pc' := 54) rfl (hb hby d9_11) rfl ((if0 _ _).trans (teq (rfl : (0 : Int32) = (0 : Int32))).1) (by decide) (by decide) ?_
    show Steps p.tables e below (s₁.setTop (mkF m 54 #[.val (.ref a), .val .null, .unset] [])) _
    refine XS.iconst X0.here hx rfl (hb hby d9_54) ?_
    show Steps p.tables e below (s₁.setTop (mkF m 55 #[.val (.ref a), .val .null, .unset] [(.int (0 : Int32))])) _
    exact k
  obtain ⟨fs, hr, hrun, hended, hW, hsame⟩ := X0.leave (v := some (.int (0 : Int32))) (fun h => by rw [Bd.returns] at h; cases h)
  refine ⟨_, _, w1 _ ?_, hrun, hended, _, _, rfl, ?_, ⟨_, rfl⟩, hW, hsame.mono (by decide) (by decide)⟩
  · exact retN X0 hx (t := .boolean) Bd.returns (by simp) (hb hby d9_55) hr
  · show Q9_n Z a  h0 n0 _ s₁.heap _
    rw [e0]
    exact ⟨rfl, N0, rfl⟩
theorem own_01 : ¬ ([(114 : Int32), (101 : Int32), (118 : Int32), (105 : Int32), (115 : Int32), (105 : Int32), (116 : Int32)] : List Int32) = ([(114 : Int32), (101 : Int32), (115 : Int32), (112 : Int32), (111 : Int32), (110 : Int32), (115 : Int32), (101 : Int32)] : List Int32) := by decide
theorem own_02 : ¬ ([(114 : Int32), (101 : Int32), (115 : Int32), (111 : Int32), (117 : Int32), (114 : Int32), (99 : Int32), (101 : Int32)] : List Int32) = ([(114 : Int32), (101 : Int32), (115 : Int32), (112 : Int32), (111 : Int32), (110 : Int32), (115 : Int32), (101 : Int32)] : List Int32) := by decide
theorem own_12 : ¬ ([(114 : Int32), (101 : Int32), (115 : Int32), (111 : Int32), (117 : Int32), (114 : Int32), (99 : Int32), (101 : Int32)] : List Int32) = ([(114 : Int32), (101 : Int32), (118 : Int32), (105 : Int32), (115 : Int32), (105 : Int32), (116 : Int32)] : List Int32) := by decide
theorem d8_0 : decode method_3_code 0 = .ok (.aload_n 0, 1) := by decide +kernel
theorem d8_1 : decode method_3_code 1 = .ok (.ifnonnull 5, 3) := by decide +kernel
theorem d8_6 : decode method_3_code 6 = .ok (.aload_n 0, 1) := by decide +kernel
theorem d8_7 : decode method_3_code 7 = .ok (.ldc 39, 2) := by decide +kernel
theorem d8_9 : decode method_3_code 9 = .ok (.invokevirtual 41, 3) := by decide +kernel
theorem own_cod_114_101_115_112_111_110_115_101 : StrChars.Road.CodA ([(114 : Int32), (101 : Int32), (115 : Int32), (112 : Int32), (111 : Int32), (110 : Int32), (115 : Int32), (101 : Int32)] : List Int32) 0 (8 : Int32) [(.int (114 : Int32)), (.int (101 : Int32)), (.int (115 : Int32)), (.int (112 : Int32)), (.int (111 : Int32)), (.int (110 : Int32)), (.int (115 : Int32)), (.int (101 : Int32))] := Or.inl ⟨rfl, rfl, by decide +kernel, by decide +kernel⟩
theorem own_cod_114_101_115_112_111_110_115_101b : ∀ c ∈ ([(114 : Int32), (101 : Int32), (115 : Int32), (112 : Int32), (111 : Int32), (110 : Int32), (115 : Int32), (101 : Int32)] : List Int32), ¬ c < 0 ∧ ¬ (65535 : Int32) < c := by decide +kernel
theorem pd__40Ljava_47lang_47Object_59_41Z : parseMethodDescriptor "(Ljava/lang/Object;)Z" = some ⟨[(.object "java/lang/Object")], some .boolean⟩ := by decide +kernel
theorem d8_12 : decode method_3_code 12 = .ok (.ifCond .eq 7, 3) := by decide +kernel
theorem d8_15 : decode method_3_code 15 = .ok (.getstatic 45, 3) := by decide +kernel
theorem d8_18 : decode method_3_code 18 = .ok (.areturn, 1) := by decide +kernel
theorem ef_8_0 (m : MethodId) (x0 : Addr) : entryFrame m #[(.ref x0)] 1 = mkF m 0 #[.val (.ref x0)] [] := by first | (simp [entryFrame, mkF, argsToLocals, Value.category]; done) | rfl
def Q8_0 (Z : State) (a : Addr) (t1 : Addr) (kb : ClassId) (cs : List Int32) (zc : Int32) (s_RESPONSE : Addr) (h0 : Heap) (n0 : Nat) (v : Option Value) (h : Heap) (L : List Loc) : Prop := v = some (.ref s_RESPONSE) ∧ Fr n0 L ∧ Keep h0 h []
set_option maxRecDepth 65536 in
set_option maxHeartbeats 40000000 in
theorem rm8_0 (l : Launch) (Z : State) (a0 : Array Value) (hw : ∀ d ∈ tables_1, d.before a0 Z = true) (ws : List Jvm.Cond) (a : Addr) (t1 : Addr) (kb : ClassId) (cs : List Int32) (zc : Int32) (s_RESPONSE : Addr) (h0 : Heap) (n0 : Nat) (O0 : Old Z n0 h0) (S_s_RESPONSE : Sta Z Z.heap "com/example/rolling_ledger/rollingledger/model/CaptureKind" "RESPONSE" "Lcom/example/rolling_ledger/rollingledger/model/CaptureKind;" (.ref s_RESPONSE)) (E_a : Exa Z h0 a "java/lang/String") (F_v_a : Fld Z h0 a "java/lang/String" "value" "[B" (.ref t1)) (F_c_a : Fld Z h0 a "java/lang/String" "coder" "B" (.int (0 : Int32))) (V_t1 : Arv Z h0 t1 kb .byte (Int32.ofNat cs.length) ((cs.map (fun c => c.toInt8.toInt32)).map Value.int) (.int (0 : Int32))) (hp : ∀ c ∈ cs, ¬ c < 0 ∧ ¬ (255 : Int32) < c) (hl : cs.length ≤ 4000) (hy0 : cs = ([(114 : Int32), (101 : Int32), (115 : Int32), (112 : Int32), (111 : Int32), (110 : Int32), (115 : Int32), (101 : Int32)] : List Int32)) (SC : Sta Z Z.heap "java/lang/String" "COMPACT_STRINGS" "Z" (.int zc)) (hzc : ¬ zc = 0) :
    MetFree l (⟨"com/example/rolling_ledger/rollingledger/model/CaptureKindOfWarcTypePinLaw", "expect", "(Ljava/lang/String;)Lcom/example/rolling_ledger/rollingledger/model/CaptureKind;"⟩ : MethodName) (head1 (Jvm.Cond.code (⟨"com/example/rolling_ledger/rollingledger/model/CaptureKindOfWarcTypePinLaw", "expect", "(Ljava/lang/String;)Lcom/example/rolling_ledger/rollingledger/model/CaptureKind;"⟩ : MethodName) method_3_code 1 (some (.object "com/example/rolling_ledger/rollingledger/model/CaptureKind")) :: ws) ({ frames := 2, cells := 2, slots := 36, locals := 28 } : Room)) (fun aA uU => aA = #[(.ref a)] ∧ Z.Warmed39 uU.vm ∧ uU.heap = h0 ∧ CHv Z consts_1 uU.vm h0) (fun _ _ _ _ _ => True) (fun _ uU oO uU' => ∃ vV lL, oO = .returned vV ∧ Q8_0 Z a t1 kb cs zc s_RESPONSE h0 n0 vV uU'.heap lL ∧ CHr Z consts_1 uU.vm uU.heap uU'.vm uU'.heap ∧ ReturnedEndW uU oO uU' lL ({ frames := 2, cells := 2, slots := 36, locals := 28 } : Room).cells ({ frames := 2, cells := 2, slots := 36, locals := 28 } : Room).slots) := by
  refine MetFree.of_bodySF (plainFor_of_name pn_com_example_rolling_ledger_rollingledger_model_CaptureKindOfWarcTypePinLaw) hisR ?_
  intro p e s m args below meth c s₁ Bd hml0 hP hK
  obtain ⟨rfl, hZ, hh, H0⟩ := hP
  have hx := Bd.exec
  have hby := Bd.bytes
  have hml : c.maxLocals = 1 := hml0
  have hown : s.vm.findClass "com/example/rolling_ledger/rollingledger/model/CaptureKindOfWarcTypePinLaw" = some m.cls := findClass_of_methodNamed Bd.named
  have hnm := (name_of_methodNamed Bd.named Bd.method).1
  have X0 : Stand p l e ({ frames := 2, cells := 2, slots := 36, locals := 28 } : Room) (s.setVm s.vm) m #[(.ref a)] below meth c s₁ [] 0 0 := Stand.of_body Bd
  have e0 : s₁.heap = h0 := by rw [← hh, Bd.state]; rfl
  have N0 := Fr.nil n0
  have O := O0
  have K := Keep.refl h0 []
  have hS : s.Since s.vm h0.size := own_since s _
  have hk : h0.size ≤ h0.size := Nat.le_refl _
  have C : CHr Z consts_1 s.vm h0 s.vm h0 := CHr.refl H0
  have hEL := own_EW hw
  have hSA := own_wS hw
  have pre0 : ∀ t, Steps p.tables e below (s₁.setTop (mkF m 0 #[.val (.ref a)] [])) t → Steps p.tables e below (s₁.setTop (entryFrame m #[(.ref a)] 1)) t := fun t k => castTop (ef_8_0 m a) k
  obtain ⟨a1, T1, h1, kk1, b1, kb1, X1, e1, E1, hS, hk', hZ, hown, Ex1, Fc1, Fv1, Av1, -, -, R1, -, Sf1, st1⟩ := ldcCH X0 hx hZ hown (hw _ (List.mem_of_getElem? (i := 37) rfl)) hSA e0 hS hk hEL (List.mem_of_getElem? (i := 0) rfl) C.1 (vs := [(.int (114 : Int32)), (.int (101 : Int32)), (.int (115 : Int32)), (.int (112 : Int32)), (.int (111 : Int32)), (.int (110 : Int32)), (.int (115 : Int32)), (.int (101 : Int32))]) (z := (8 : Int32)) ⟨by decide +kernel, by decide +kernel⟩ (by decide) rfl (g := (mkF m 7 #[.val (.ref a)] [(.ref a)])) rfl (hb hby d8_7) (n := 32) (by decide +kernel) (by decide) (by decide) (by decide)
  have R := R1
  have C := C.trans R
  have hk := hk'
  have E_a := E_a.ext E1
  have F_v_a := F_v_a.ext E1
  have F_c_a := F_c_a.ext E1
  have V_t1 := V_t1.ext E1
  have O := O.ext E1
  have K := K.ext E1
  obtain ⟨cq2, kq2, q2a, q2b, q2c⟩ := isOf hZ e1 E_a
  obtain ⟨v2, _, ⟨T2, L2, k2, n2⟩, -, X2, ⟨Lc2, hQ2, l2, y2, z2⟩, st2⟩ := X1.virtualBack hx (y := (⟨"java/lang/String", "equals", "(Ljava/lang/Object;)Z"⟩ : MethodName)) (z := (⟨"java/lang/String", "equals", "(Ljava/lang/Object;)Z"⟩ : MethodName)) hown (mvT hZ (hw _ (List.mem_of_getElem? (i := 40) rfl))) (mvT hZ (hw _ (List.mem_of_getElem? (i := 41) rfl))) (notFace_of_selects (args := #[]) (mvT hZ (hw _ (List.mem_of_getElem? (i := 43) rfl)))) (mvT hZ (hw _ (List.mem_of_getElem? (i := 43) rfl))) (mvT hZ (hw _ (List.mem_of_getElem? (i := 42) rfl))) (by decide) (StrChars.Road.eqW (W := 0) hZ (own_wEq hw) (kI := 4) (hw _ (List.mem_of_getElem? (i := 6) rfl)) E_a F_v_a F_c_a V_t1 (StrChars.Road.codOf rfl (fun c hc => (hp c hc).2)) (own_up hp) hl Ex1 Fv1 Fc1 Av1 own_cod_114_101_115_112_111_110_115_101 own_cod_114_101_115_112_111_110_115_101b (Nat.le_of_ble_eq_true rfl) (SC.ext O.2) hzc (by decide) (by decide)) q2a q2c (g := (mkF m 9 #[.val (.ref a)] [(.ref a1), (.ref a)])) rfl (by rw [hml]; rfl) (Steps.refl _) (argsL := [(.ref a1)]) (rest := []) (lenOf pd__40Ljava_47lang_47Object_59_41Z rfl) rfl (by show 2 * 0 + _ ≤ _; exact Nat.le_of_eq rfl) (hb hby d8_9) (fun _ _ => ⟨rfl, e1, (by decide : 2 + 0 ≤ _), (by decide : 36 + 0 ≤ _)⟩)
  dsimp only [Pt.U, Pt.locs, Pt.cells, Pt.slots] at X2 l2 y2 z2 st2 hQ2
  subst l2 y2 z2
  obtain ⟨hv2, rfl, eh2⟩ := hQ2
  obtain rfl : v2 = some (.int (own_eqs cs ([(114 : Int32), (101 : Int32), (115 : Int32), (112 : Int32), (111 : Int32), (110 : Int32), (115 : Int32), (101 : Int32)] : List Int32))) := by rcases hv2 with ⟨h1, h2⟩ | ⟨h1, h2⟩ <;> rw [h1] <;> simp only [own_eqs, h2, if_true, if_false]
  have N2 := Fr.app N0 (Fr.nil n0)
  obtain ⟨T3, X3, e3, st3⟩ := getS2 X2 hx hZ hown (host := "") (Or.inl (hw _ (List.mem_of_getElem? (i := 50) rfl))) Via.refl eh2 (S_s_RESPONSE.ext O.2) (g := (mkF m 15 #[.val (.ref a)] [])) rfl (hb hby d8_15)
  have w4 : ∀ t, Steps p.tables e below (T3.setTop (mkF m 18 #[.val (.ref a)] [(.ref s_RESPONSE)])) t → Steps p.tables e below (s₁.setTop (entryFrame m #[(.ref a)] 1)) t := fun t k => by
    refine pre0 t ?_
    refine XS.aloadN X0.here hx rfl (hb hby d8_0) rfl rfl ?_
    show Steps p.tables e below (s₁.setTop (mkF m 1 #[.val (.ref a)] [(.ref a)])) _
    refine XS.ifnonnullYes X0.here hx rfl (pc0 := 1) (pc' := 6) rfl (hb hby d8_1) rfl (by decide) (by decide) ?_
    show Steps p.tables e below (s₁.setTop (mkF m 6 #[.val (.ref a)] [])) _
    refine XS.aloadN X0.here hx rfl (hb hby d8_6) rfl rfl ?_
    show Steps p.tables e below (s₁.setTop (mkF m 7 #[.val (.ref a)] [(.ref a)])) _
    refine st1 _ ?_
    show Steps p.tables e below (T1.setTop (mkF m 9 #[.val (.ref a)] [(.ref a1), (.ref a)])) _
    refine st2.trans ?_
    show Steps p.tables e below (T2.setTop (mkF m 12 #[.val (.ref a)] [(.int (own_eqs cs ([(114 : Int32), (101 : Int32), (115 : Int32), (112 : Int32), (111 : Int32), (110 : Int32), (115 : Int32), (101 : Int32)] : List Int32)))])) _
    refine XS.ifNo X2.here hx rfl (hb hby d8_12) rfl ((if0 _ _).trans (feq (own_ey hy0 : ¬ ((own_eqs cs ([(114 : Int32), (101 : Int32), (115 : Int32), (112 : Int32), (111 : Int32), (110 : Int32), (115 : Int32), (101 : Int32)] : List Int32)) = (0 : Int32)))).1) ?_
    show Steps p.tables e below (T2.setTop (mkF m 15 #[.val (.ref a)] [])) _
    refine st3 _ ?_
    show Steps p.tables e below (T3.setTop (mkF m 18 #[.val (.ref a)] [(.ref s_RESPONSE)])) _
    exact k
  obtain ⟨fs, hr, hrun, hended, hE⟩ := Stand.leaveW (s := s) (vm₁ := T1.vm) X3 hS (by rw [e3]; exact hk) (v := some (.ref s_RESPONSE)) (fun h => by rw [Bd.returns] at h; cases h)
  refine ⟨_, _, w4 _ ?_, hrun, hended, _, _, rfl, ?_, ?_, own_mono hE (by decide) (by decide)⟩
  · jvm_step X3.here [X3.here.top, hx, (hb hby d8_18), X3.method', Bd.returns, Value.isRef, FieldType.isReference]
    first | (intro acts; rw [hr _ acts rfl rfl rfl]) | rw [hr _ _ rfl rfl rfl]
    exact Steps.refl _
  · show Q8_0 Z a t1 kb cs zc s_RESPONSE h0 n0 _ T3.heap _
    rw [e3]
    exact ⟨rfl, N2, K⟩
  · rw [hh]; show CHr Z consts_1 s.vm h0 T3.vm T3.heap; rw [e3]; exact C.trans (CHv.at X3 hZ hEL C.1)
theorem d8_19 : decode method_3_code 19 = .ok (.aload_n 0, 1) := by decide +kernel
theorem d8_20 : decode method_3_code 20 = .ok (.ldc 49, 2) := by decide +kernel
theorem d8_22 : decode method_3_code 22 = .ok (.invokevirtual 41, 3) := by decide +kernel
theorem own_cod_114_101_118_105_115_105_116 : StrChars.Road.CodA ([(114 : Int32), (101 : Int32), (118 : Int32), (105 : Int32), (115 : Int32), (105 : Int32), (116 : Int32)] : List Int32) 0 (7 : Int32) [(.int (114 : Int32)), (.int (101 : Int32)), (.int (118 : Int32)), (.int (105 : Int32)), (.int (115 : Int32)), (.int (105 : Int32)), (.int (116 : Int32))] := Or.inl ⟨rfl, rfl, by decide +kernel, by decide +kernel⟩
theorem own_cod_114_101_118_105_115_105_116b : ∀ c ∈ ([(114 : Int32), (101 : Int32), (118 : Int32), (105 : Int32), (115 : Int32), (105 : Int32), (116 : Int32)] : List Int32), ¬ c < 0 ∧ ¬ (65535 : Int32) < c := by decide +kernel
theorem d8_25 : decode method_3_code 25 = .ok (.ifCond .eq 7, 3) := by decide +kernel
theorem d8_28 : decode method_3_code 28 = .ok (.getstatic 51, 3) := by decide +kernel
theorem d8_31 : decode method_3_code 31 = .ok (.areturn, 1) := by decide +kernel
theorem ef_8_1 (m : MethodId) (x0 : Addr) : entryFrame m #[(.ref x0)] 1 = mkF m 0 #[.val (.ref x0)] [] := by first | (simp [entryFrame, mkF, argsToLocals, Value.category]; done) | rfl
def Q8_1 (Z : State) (a : Addr) (t1 : Addr) (kb : ClassId) (cs : List Int32) (zc : Int32) (s_REVISIT : Addr) (h0 : Heap) (n0 : Nat) (v : Option Value) (h : Heap) (L : List Loc) : Prop := v = some (.ref s_REVISIT) ∧ Fr n0 L ∧ Keep h0 h []
set_option maxRecDepth 65536 in
set_option maxHeartbeats 40000000 in
theorem rm8_1 (l : Launch) (Z : State) (a0 : Array Value) (hw : ∀ d ∈ tables_1, d.before a0 Z = true) (ws : List Jvm.Cond) (a : Addr) (t1 : Addr) (kb : ClassId) (cs : List Int32) (zc : Int32) (s_REVISIT : Addr) (h0 : Heap) (n0 : Nat) (O0 : Old Z n0 h0) (S_s_REVISIT : Sta Z Z.heap "com/example/rolling_ledger/rollingledger/model/CaptureKind" "REVISIT" "Lcom/example/rolling_ledger/rollingledger/model/CaptureKind;" (.ref s_REVISIT)) (E_a : Exa Z h0 a "java/lang/String") (F_v_a : Fld Z h0 a "java/lang/String" "value" "[B" (.ref t1)) (F_c_a : Fld Z h0 a "java/lang/String" "coder" "B" (.int (0 : Int32))) (V_t1 : Arv Z h0 t1 kb .byte (Int32.ofNat cs.length) ((cs.map (fun c => c.toInt8.toInt32)).map Value.int) (.int (0 : Int32))) (hp : ∀ c ∈ cs, ¬ c < 0 ∧ ¬ (255 : Int32) < c) (hl : cs.length ≤ 4000) (hy1 : cs = ([(114 : Int32), (101 : Int32), (118 : Int32), (105 : Int32), (115 : Int32), (105 : Int32), (116 : Int32)] : List Int32)) (SC : Sta Z Z.heap "java/lang/String" "COMPACT_STRINGS" "Z" (.int zc)) (hzc : ¬ zc = 0) :
    MetFree l (⟨"com/example/rolling_ledger/rollingledger/model/CaptureKindOfWarcTypePinLaw", "expect", "(Ljava/lang/String;)Lcom/example/rolling_ledger/rollingledger/model/CaptureKind;"⟩ : MethodName) (head1 (Jvm.Cond.code (⟨"com/example/rolling_ledger/rollingledger/model/CaptureKindOfWarcTypePinLaw", "expect", "(Ljava/lang/String;)Lcom/example/rolling_ledger/rollingledger/model/CaptureKind;"⟩ : MethodName) method_3_code 1 (some (.object "com/example/rolling_ledger/rollingledger/model/CaptureKind")) :: ws) ({ frames := 2, cells := 4, slots := 68, locals := 28 } : Room)) (fun aA uU => aA = #[(.ref a)] ∧ Z.Warmed39 uU.vm ∧ uU.heap = h0 ∧ CHv Z consts_1 uU.vm h0) (fun _ _ _ _ _ => True) (fun _ uU oO uU' => ∃ vV lL, oO = .returned vV ∧ Q8_1 Z a t1 kb cs zc s_REVISIT h0 n0 vV uU'.heap lL ∧ CHr Z consts_1 uU.vm uU.heap uU'.vm uU'.heap ∧ ReturnedEndW uU oO uU' lL ({ frames := 2, cells := 4, slots := 68, locals := 28 } : Room).cells ({ frames := 2, cells := 4, slots := 68, locals := 28 } : Room).slots) := by
  refine MetFree.of_bodySF (plainFor_of_name pn_com_example_rolling_ledger_rollingledger_model_CaptureKindOfWarcTypePinLaw) hisR ?_
  intro p e s m args below meth c s₁ Bd hml0 hP hK
  obtain ⟨rfl, hZ, hh, H0⟩ := hP
  have hx := Bd.exec
  have hby := Bd.bytes
  have hml : c.maxLocals = 1 := hml0
  have hown : s.vm.findClass "com/example/rolling_ledger/rollingledger/model/CaptureKindOfWarcTypePinLaw" = some m.cls := findClass_of_methodNamed Bd.named
  have hnm := (name_of_methodNamed Bd.named Bd.method).1
  have X0 : Stand p l e ({ frames := 2, cells := 4, slots := 68, locals := 28 } : Room) (s.setVm s.vm) m #[(.ref a)] below meth c s₁ [] 0 0 := Stand.of_body Bd
  have e0 : s₁.heap = h0 := by rw [← hh, Bd.state]; rfl
  have N0 := Fr.nil n0
  have O := O0
  have K := Keep.refl h0 []
  have hS : s.Since s.vm h0.size := own_since s _
  have hk : h0.size ≤ h0.size := Nat.le_refl _
  have C : CHr Z consts_1 s.vm h0 s.vm h0 := CHr.refl H0
  have hEL := own_EW hw
  have hSA := own_wS hw
  have pre0 : ∀ t, Steps p.tables e below (s₁.setTop (mkF m 0 #[.val (.ref a)] [])) t → Steps p.tables e below (s₁.setTop (entryFrame m #[(.ref a)] 1)) t := fun t k => castTop (ef_8_1 m a) k
  obtain ⟨a1, T1, h1, kk1, b1, kb1, X1, e1, E1, hS, hk', hZ, hown, Ex1, Fc1, Fv1, Av1, -, -, R1, -, Sf1, st1⟩ := ldcCH X0 hx hZ hown (hw _ (List.mem_of_getElem? (i := 37) rfl)) hSA e0 hS hk hEL (List.mem_of_getElem? (i := 0) rfl) C.1 (vs := [(.int (114 : Int32)), (.int (101 : Int32)), (.int (115 : Int32)), (.int (112 : Int32)), (.int (111 : Int32)), (.int (110 : Int32)), (.int (115 : Int32)), (.int (101 : Int32))]) (z := (8 : Int32)) ⟨by decide +kernel, by decide +kernel⟩ (by decide) rfl (g := (mkF m 7 #[.val (.ref a)] [(.ref a)])) rfl (hb hby d8_7) (n := 32) (by decide +kernel) (by decide) (by decide) (by decide)
  have R := R1
  have C := C.trans R
  have hk := hk'
  have E_a := E_a.ext E1
  have F_v_a := F_v_a.ext E1
  have F_c_a := F_c_a.ext E1
  have V_t1 := V_t1.ext E1
  have O := O.ext E1
  have K := K.ext E1
  obtain ⟨cq2, kq2, q2a, q2b, q2c⟩ := isOf hZ e1 E_a
  obtain ⟨v2, _, ⟨T2, L2, k2, n2⟩, -, X2, ⟨Lc2, hQ2, l2, y2, z2⟩, st2⟩ := X1.virtualBack hx (y := (⟨"java/lang/String", "equals", "(Ljava/lang/Object;)Z"⟩ : MethodName)) (z := (⟨"java/lang/String", "equals", "(Ljava/lang/Object;)Z"⟩ : MethodName)) hown (mvT hZ (hw _ (List.mem_of_getElem? (i := 40) rfl))) (mvT hZ (hw _ (List.mem_of_getElem? (i := 41) rfl))) (notFace_of_selects (args := #[]) (mvT hZ (hw _ (List.mem_of_getElem? (i := 43) rfl)))) (mvT hZ (hw _ (List.mem_of_getElem? (i := 43) rfl))) (mvT hZ (hw _ (List.mem_of_getElem? (i := 42) rfl))) (by decide) (StrChars.Road.eqW (W := 0) hZ (own_wEq hw) (kI := 4) (hw _ (List.mem_of_getElem? (i := 6) rfl)) E_a F_v_a F_c_a V_t1 (StrChars.Road.codOf rfl (fun c hc => (hp c hc).2)) (own_up hp) hl Ex1 Fv1 Fc1 Av1 own_cod_114_101_115_112_111_110_115_101 own_cod_114_101_115_112_111_110_115_101b (Nat.le_of_ble_eq_true rfl) (SC.ext O.2) hzc (by decide) (by decide)) q2a q2c (g := (mkF m 9 #[.val (.ref a)] [(.ref a1), (.ref a)])) rfl (by rw [hml]; rfl) (Steps.refl _) (argsL := [(.ref a1)]) (rest := []) (lenOf pd__40Ljava_47lang_47Object_59_41Z rfl) rfl (by show 2 * 0 + _ ≤ _; exact Nat.le_of_eq rfl) (hb hby d8_9) (fun _ _ => ⟨rfl, e1, (by decide : 2 + 0 ≤ _), (by decide : 36 + 0 ≤ _)⟩)
  dsimp only [Pt.U, Pt.locs, Pt.cells, Pt.slots] at X2 l2 y2 z2 st2 hQ2
  subst l2 y2 z2
  obtain ⟨hv2, rfl, eh2⟩ := hQ2
  obtain rfl : v2 = some (.int (own_eqs cs ([(114 : Int32), (101 : Int32), (115 : Int32), (112 : Int32), (111 : Int32), (110 : Int32), (115 : Int32), (101 : Int32)] : List Int32))) := by rcases hv2 with ⟨h1, h2⟩ | ⟨h1, h2⟩ <;> rw [h1] <;> simp only [own_eqs, h2, if_true, if_false]
  have N2 := Fr.app N0 (Fr.nil n0)
  obtain ⟨a3, T3, h3, kk3, b3, kb3, X3, e3, E3, hS, hk', hZ, hown, Ex3, Fc3, Fv3, Av3, -, -, R3, -, Sf3, st3⟩ := ldcCH X2 hx hZ hown (hw _ (List.mem_of_getElem? (i := 103) rfl)) hSA eh2 hS hk hEL (List.mem_of_getElem? (i := 1) rfl) C.1 (vs := [(.int (114 : Int32)), (.int (101 : Int32)), (.int (118 : Int32)), (.int (105 : Int32)), (.int (115 : Int32)), (.int (105 : Int32)), (.int (116 : Int32))]) (z := (7 : Int32)) ⟨by decide +kernel, by decide +kernel⟩ (by decide) rfl (g := (mkF m 20 #[.val (.ref a)] [(.ref a)])) rfl (hb hby d8_20) (n := 28) (by decide +kernel) (by decide) (by decide) (by decide)
  have R := R3
  have C := C.trans R
  have hk := hk'
  have E_a := E_a.ext E3
  have F_v_a := F_v_a.ext E3
  have F_c_a := F_c_a.ext E3
  have V_t1 := V_t1.ext E3
  have Ex1 := Ex1.ext E3
  have Fc1 := Fc1.ext E3
  have Fv1 := Fv1.ext E3
  have Av1 := Av1.ext E3
  have O := O.ext E3
  have K := K.ext E3
  obtain ⟨cq4, kq4, q4a, q4b, q4c⟩ := isOf hZ e3 E_a
  obtain ⟨v4, _, ⟨T4, L4, k4, n4⟩, -, X4, ⟨Lc4, hQ4, l4, y4, z4⟩, st4⟩ := X3.virtualBack hx (y := (⟨"java/lang/String", "equals", "(Ljava/lang/Object;)Z"⟩ : MethodName)) (z := (⟨"java/lang/String", "equals", "(Ljava/lang/Object;)Z"⟩ : MethodName)) hown (mvT hZ (hw _ (List.mem_of_getElem? (i := 40) rfl))) (mvT hZ (hw _ (List.mem_of_getElem? (i := 41) rfl))) (notFace_of_selects (args := #[]) (mvT hZ (hw _ (List.mem_of_getElem? (i := 43) rfl)))) (mvT hZ (hw _ (List.mem_of_getElem? (i := 43) rfl))) (mvT hZ (hw _ (List.mem_of_getElem? (i := 42) rfl))) (by decide) (StrChars.Road.eqW (W := 0) hZ (own_wEq hw) (kI := 4) (hw _ (List.mem_of_getElem? (i := 6) rfl)) E_a F_v_a F_c_a V_t1 (StrChars.Road.codOf rfl (fun c hc => (hp c hc).2)) (own_up hp) hl Ex3 Fv3 Fc3 Av3 own_cod_114_101_118_105_115_105_116 own_cod_114_101_118_105_115_105_116b (Nat.le_of_ble_eq_true rfl) (SC.ext O.2) hzc (by decide) (by decide)) q4a q4c (g := (mkF m 22 #[.val (.ref a)] [(.ref a3), (.ref a)])) rfl (by rw [hml]; rfl) (Steps.refl _) (argsL := [(.ref a3)]) (rest := []) (lenOf pd__40Ljava_47lang_47Object_59_41Z rfl) rfl (by show 2 * 0 + _ ≤ _; exact Nat.le_of_eq rfl) (hb hby d8_22) (fun _ _ => ⟨rfl, e3, (by decide : 4 + 0 ≤ _), (by decide : 68 + 0 ≤ _)⟩)
  dsimp only [Pt.U, Pt.locs, Pt.cells, Pt.slots] at X4 l4 y4 z4 st4 hQ4
  subst l4 y4 z4
  obtain ⟨hv4, rfl, eh4⟩ := hQ4
  obtain rfl : v4 = some (.int (own_eqs cs ([(114 : Int32), (101 : Int32), (118 : Int32), (105 : Int32), (115 : Int32), (105 : Int32), (116 : Int32)] : List Int32))) := by rcases hv4 with ⟨h1, h2⟩ | ⟨h1, h2⟩ <;> rw [h1] <;> simp only [own_eqs, h2, if_true, if_false]
  have N4 := Fr.app N2 (Fr.nil n0)
  obtain ⟨T5, X5, e5, st5⟩ := getS2 X4 hx hZ hown (host := "") (Or.inl (hw _ (List.mem_of_getElem? (i := 113) rfl))) Via.refl eh4 (S_s_REVISIT.ext O.2) (g := (mkF m 28 #[.val (.ref a)] [])) rfl (hb hby d8_28)
  have w6 : ∀ t, Steps p.tables e below (T5.setTop (mkF m 31 #[.val (.ref a)] [(.ref s_REVISIT)])) t → Steps p.tables e below (s₁.setTop (entryFrame m #[(.ref a)] 1)) t := fun t k => by
    refine pre0 t ?_
    refine XS.aloadN X0.here hx rfl (hb hby d8_0) rfl rfl ?_
    show Steps p.tables e below (s₁.setTop (mkF m 1 #[.val (.ref a)] [(.ref a)])) _
    refine XS.ifnonnullYes X0.here hx rfl (pc0 := 1) (pc' := 6) rfl (hb hby d8_1) rfl (by decide) (by decide) ?_
    show Steps p.tables e below (s₁.setTop (mkF m 6 #[.val (.ref a)] [])) _
    refine XS.aloadN X0.here hx rfl (hb hby d8_6) rfl rfl ?_
    show Steps p.tables e below (s₁.setTop (mkF m 7 #[.val (.ref a)] [(.ref a)])) _
    refine st1 _ ?_
    show Steps p.tables e below (T1.setTop (mkF m 9 #[.val (.ref a)] [(.ref a1), (.ref a)])) _
    refine st2.trans ?_
    show Steps p.tables e below (T2.setTop (mkF m 12 #[.val (.ref a)] [(.int (own_eqs cs ([(114 : Int32), (101 : Int32), (115 : Int32), (112 : Int32), (111 : Int32), (110 : Int32), (115 : Int32), (101 : Int32)] : List Int32)))])) _
    refine XS.ifYes X2.here hx rfl (pc0 := 12) (pc' := 19) rfl (hb hby d8_12) rfl ((if0 _ _).trans (teq (own_en (fun e => own_01 (hy1.symm.trans e)) : (own_eqs cs ([(114 : Int32), (101 : Int32), (115 : Int32), (112 : Int32), (111 : Int32), (110 : Int32), (115 : Int32), (101 : Int32)] : List Int32)) = (0 : Int32))).1) (by decide) (by decide) ?_
    show Steps p.tables e below (T2.setTop (mkF m 19 #[.val (.ref a)] [])) _
    refine XS.aloadN X2.here hx rfl (hb hby d8_19) rfl rfl ?_
    show Steps p.tables e below (T2.setTop (mkF m 20 #[.val (.ref a)] [(.ref a)])) _
    refine st3 _ ?_
    show Steps p.tables e below (T3.setTop (mkF m 22 #[.val (.ref a)] [(.ref a3), (.ref a)])) _
    refine st4.trans ?_
    show Steps p.tables e below (T4.setTop (mkF m 25 #[.val (.ref a)] [(.int (own_eqs cs ([(114 : Int32), (101 : Int32), (118 : Int32), (105 : Int32), (115 : Int32), (105 : Int32), (116 : Int32)] : List Int32)))])) _
    refine XS.ifNo X4.here hx rfl (hb hby d8_25) rfl ((if0 _ _).trans (feq (own_ey hy1 : ¬ ((own_eqs cs ([(114 : Int32), (101 : Int32), (118 : Int32), (105 : Int32), (115 : Int32), (105 : Int32), (116 : Int32)] : List Int32)) = (0 : Int32)))).1) ?_
    show Steps p.tables e below (T4.setTop (mkF m 28 #[.val (.ref a)] [])) _
    refine st5 _ ?_
    show Steps p.tables e below (T5.setTop (mkF m 31 #[.val (.ref a)] [(.ref s_REVISIT)])) _
    exact k
  obtain ⟨fs, hr, hrun, hended, hE⟩ := Stand.leaveW (s := s) (vm₁ := T3.vm) X5 hS (by rw [e5]; exact hk) (v := some (.ref s_REVISIT)) (fun h => by rw [Bd.returns] at h; cases h)
  refine ⟨_, _, w6 _ ?_, hrun, hended, _, _, rfl, ?_, ?_, own_mono hE (by decide) (by decide)⟩
  · jvm_step X5.here [X5.here.top, hx, (hb hby d8_31), X5.method', Bd.returns, Value.isRef, FieldType.isReference]
    first | (intro acts; rw [hr _ acts rfl rfl rfl]) | rw [hr _ _ rfl rfl rfl]
    exact Steps.refl _
  · show Q8_1 Z a t1 kb cs zc s_REVISIT h0 n0 _ T5.heap _
    rw [e5]
    exact ⟨rfl, N4, K⟩
  · rw [hh]; show CHr Z consts_1 s.vm h0 T5.vm T5.heap; rw [e5]; exact C.trans (CHv.at X5 hZ hEL C.1)
theorem d8_32 : decode method_3_code 32 = .ok (.aload_n 0, 1) := by decide +kernel
theorem d8_33 : decode method_3_code 33 = .ok (.ldc 54, 2) := by decide +kernel
theorem d8_35 : decode method_3_code 35 = .ok (.invokevirtual 41, 3) := by decide +kernel
theorem own_cod_114_101_115_111_117_114_99_101 : StrChars.Road.CodA ([(114 : Int32), (101 : Int32), (115 : Int32), (111 : Int32), (117 : Int32), (114 : Int32), (99 : Int32), (101 : Int32)] : List Int32) 0 (8 : Int32) [(.int (114 : Int32)), (.int (101 : Int32)), (.int (115 : Int32)), (.int (111 : Int32)), (.int (117 : Int32)), (.int (114 : Int32)), (.int (99 : Int32)), (.int (101 : Int32))] := Or.inl ⟨rfl, rfl, by decide +kernel, by decide +kernel⟩
theorem own_cod_114_101_115_111_117_114_99_101b : ∀ c ∈ ([(114 : Int32), (101 : Int32), (115 : Int32), (111 : Int32), (117 : Int32), (114 : Int32), (99 : Int32), (101 : Int32)] : List Int32), ¬ c < 0 ∧ ¬ (65535 : Int32) < c := by decide +kernel
theorem d8_38 : decode method_3_code 38 = .ok (.ifCond .eq 7, 3) := by decide +kernel
theorem d8_41 : decode method_3_code 41 = .ok (.getstatic 56, 3) := by decide +kernel
theorem d8_44 : decode method_3_code 44 = .ok (.areturn, 1) := by decide +kernel
theorem ef_8_2 (m : MethodId) (x0 : Addr) : entryFrame m #[(.ref x0)] 1 = mkF m 0 #[.val (.ref x0)] [] := by first | (simp [entryFrame, mkF, argsToLocals, Value.category]; done) | rfl
def Q8_2 (Z : State) (a : Addr) (t1 : Addr) (kb : ClassId) (cs : List Int32) (zc : Int32) (s_RESOURCE : Addr) (h0 : Heap) (n0 : Nat) (v : Option Value) (h : Heap) (L : List Loc) : Prop := v = some (.ref s_RESOURCE) ∧ Fr n0 L ∧ Keep h0 h []
set_option maxRecDepth 65536 in
set_option maxHeartbeats 40000000 in
theorem rm8_2 (l : Launch) (Z : State) (a0 : Array Value) (hw : ∀ d ∈ tables_1, d.before a0 Z = true) (ws : List Jvm.Cond) (a : Addr) (t1 : Addr) (kb : ClassId) (cs : List Int32) (zc : Int32) (s_RESOURCE : Addr) (h0 : Heap) (n0 : Nat) (O0 : Old Z n0 h0) (S_s_RESOURCE : Sta Z Z.heap "com/example/rolling_ledger/rollingledger/model/CaptureKind" "RESOURCE" "Lcom/example/rolling_ledger/rollingledger/model/CaptureKind;" (.ref s_RESOURCE)) (E_a : Exa Z h0 a "java/lang/String") (F_v_a : Fld Z h0 a "java/lang/String" "value" "[B" (.ref t1)) (F_c_a : Fld Z h0 a "java/lang/String" "coder" "B" (.int (0 : Int32))) (V_t1 : Arv Z h0 t1 kb .byte (Int32.ofNat cs.length) ((cs.map (fun c => c.toInt8.toInt32)).map Value.int) (.int (0 : Int32))) (hp : ∀ c ∈ cs, ¬ c < 0 ∧ ¬ (255 : Int32) < c) (hl : cs.length ≤ 4000) (hy2 : cs = ([(114 : Int32), (101 : Int32), (115 : Int32), (111 : Int32), (117 : Int32), (114 : Int32), (99 : Int32), (101 : Int32)] : List Int32)) (SC : Sta Z Z.heap "java/lang/String" "COMPACT_STRINGS" "Z" (.int zc)) (hzc : ¬ zc = 0) :
    MetFree l (⟨"com/example/rolling_ledger/rollingledger/model/CaptureKindOfWarcTypePinLaw", "expect", "(Ljava/lang/String;)Lcom/example/rolling_ledger/rollingledger/model/CaptureKind;"⟩ : MethodName) (head1 (Jvm.Cond.code (⟨"com/example/rolling_ledger/rollingledger/model/CaptureKindOfWarcTypePinLaw", "expect", "(Ljava/lang/String;)Lcom/example/rolling_ledger/rollingledger/model/CaptureKind;"⟩ : MethodName) method_3_code 1 (some (.object "com/example/rolling_ledger/rollingledger/model/CaptureKind")) :: ws) ({ frames := 2, cells := 6, slots := 104, locals := 28 } : Room)) (fun aA uU => aA = #[(.ref a)] ∧ Z.Warmed39 uU.vm ∧ uU.heap = h0 ∧ CHv Z consts_1 uU.vm h0) (fun _ _ _ _ _ => True) (fun _ uU oO uU' => ∃ vV lL, oO = .returned vV ∧ Q8_2 Z a t1 kb cs zc s_RESOURCE h0 n0 vV uU'.heap lL ∧ CHr Z consts_1 uU.vm uU.heap uU'.vm uU'.heap ∧ ReturnedEndW uU oO uU' lL ({ frames := 2, cells := 6, slots := 104, locals := 28 } : Room).cells ({ frames := 2, cells := 6, slots := 104, locals := 28 } : Room).slots) := by
  refine MetFree.of_bodySF (plainFor_of_name pn_com_example_rolling_ledger_rollingledger_model_CaptureKindOfWarcTypePinLaw) hisR ?_
  intro p e s m args below meth c s₁ Bd hml0 hP hK
  obtain ⟨rfl, hZ, hh, H0⟩ := hP
  have hx := Bd.exec
  have hby := Bd.bytes
  have hml : c.maxLocals = 1 := hml0
  have hown : s.vm.findClass "com/example/rolling_ledger/rollingledger/model/CaptureKindOfWarcTypePinLaw" = some m.cls := findClass_of_methodNamed Bd.named
  have hnm := (name_of_methodNamed Bd.named Bd.method).1
  have X0 : Stand p l e ({ frames := 2, cells := 6, slots := 104, locals := 28 } : Room) (s.setVm s.vm) m #[(.ref a)] below meth c s₁ [] 0 0 := Stand.of_body Bd
  have e0 : s₁.heap = h0 := by rw [← hh, Bd.state]; rfl
  have N0 := Fr.nil n0
  have O := O0
  have K := Keep.refl h0 []
  have hS : s.Since s.vm h0.size := own_since s _
  have hk : h0.size ≤ h0.size := Nat.le_refl _
  have C : CHr Z consts_1 s.vm h0 s.vm h0 := CHr.refl H0
  have hEL := own_EW hw
  have hSA := own_wS hw
  have pre0 : ∀ t, Steps p.tables e below (s₁.setTop (mkF m 0 #[.val (.ref a)] [])) t → Steps p.tables e below (s₁.setTop (entryFrame m #[(.ref a)] 1)) t := fun t k => castTop (ef_8_2 m a) k
  obtain ⟨a1, T1, h1, kk1, b1, kb1, X1, e1, E1, hS, hk', hZ, hown, Ex1, Fc1, Fv1, Av1, -, -, R1, -, Sf1, st1⟩ := ldcCH X0 hx hZ hown (hw _ (List.mem_of_getElem? (i := 37) rfl)) hSA e0 hS hk hEL (List.mem_of_getElem? (i := 0) rfl) C.1 (vs := [(.int (114 : Int32)), (.int (101 : Int32)), (.int (115 : Int32)), (.int (112 : Int32)), (.int (111 : Int32)), (.int (110 : Int32)), (.int (115 : Int32)), (.int (101 : Int32))]) (z := (8 : Int32)) ⟨by decide +kernel, by decide +kernel⟩ (by decide) rfl (g := (mkF m 7 #[.val (.ref a)] [(.ref a)])) rfl (hb hby d8_7) (n := 32) (by decide +kernel) (by decide) (by decide) (by decide)
  have R := R1
  have C := C.trans R
  have hk := hk'
  have E_a := E_a.ext E1
  have F_v_a := F_v_a.ext E1
  have F_c_a := F_c_a.ext E1
  have V_t1 := V_t1.ext E1
  have O := O.ext E1
  have K := K.ext E1
  obtain ⟨cq2, kq2, q2a, q2b, q2c⟩ := isOf hZ e1 E_a
  obtain ⟨v2, _, ⟨T2, L2, k2, n2⟩, -, X2, ⟨Lc2, hQ2, l2, y2, z2⟩, st2⟩ := X1.virtualBack hx (y := (⟨"java/lang/String", "equals", "(Ljava/lang/Object;)Z"⟩ : MethodName)) (z := (⟨"java/lang/String", "equals", "(Ljava/lang/Object;)Z"⟩ : MethodName)) hown (mvT hZ (hw _ (List.mem_of_getElem? (i := 40) rfl))) (mvT hZ (hw _ (List.mem_of_getElem? (i := 41) rfl))) (notFace_of_selects (args := #[]) (mvT hZ (hw _ (List.mem_of_getElem? (i := 43) rfl)))) (mvT hZ (hw _ (List.mem_of_getElem? (i := 43) rfl))) (mvT hZ (hw _ (List.mem_of_getElem? (i := 42) rfl))) (by decide) (StrChars.Road.eqW (W := 0) hZ (own_wEq hw) (kI := 4) (hw _ (List.mem_of_getElem? (i := 6) rfl)) E_a F_v_a F_c_a V_t1 (StrChars.Road.codOf rfl (fun c hc => (hp c hc).2)) (own_up hp) hl Ex1 Fv1 Fc1 Av1 own_cod_114_101_115_112_111_110_115_101 own_cod_114_101_115_112_111_110_115_101b (Nat.le_of_ble_eq_true rfl) (SC.ext O.2) hzc (by decide) (by decide)) q2a q2c (g := (mkF m 9 #[.val (.ref a)] [(.ref a1), (.ref a)])) rfl (by rw [hml]; rfl) (Steps.refl _) (argsL := [(.ref a1)]) (rest := []) (lenOf pd__40Ljava_47lang_47Object_59_41Z rfl) rfl (by show 2 * 0 + _ ≤ _; exact Nat.le_of_eq rfl) (hb hby d8_9) (fun _ _ => ⟨rfl, e1, (by decide : 2 + 0 ≤ _), (by decide : 36 + 0 ≤ _)⟩)
  dsimp only [Pt.U, Pt.locs, Pt.cells, Pt.slots] at X2 l2 y2 z2 st2 hQ2
  subst l2 y2 z2
  obtain ⟨hv2, rfl, eh2⟩ := hQ2
  obtain rfl : v2 = some (.int (own_eqs cs ([(114 : Int32), (101 : Int32), (115 : Int32), (112 : Int32), (111 : Int32), (110 : Int32), (115 : Int32), (101 : Int32)] : List Int32))) := by rcases hv2 with ⟨h1, h2⟩ | ⟨h1, h2⟩ <;> rw [h1] <;> simp only [own_eqs, h2, if_true, if_false]
  have N2 := Fr.app N0 (Fr.nil n0)
  obtain ⟨a3, T3, h3, kk3, b3, kb3, X3, e3, E3, hS, hk', hZ, hown, Ex3, Fc3, Fv3, Av3, -, -, R3, -, Sf3, st3⟩ := ldcCH X2 hx hZ hown (hw _ (List.mem_of_getElem? (i := 103) rfl)) hSA eh2 hS hk hEL (List.mem_of_getElem? (i := 1) rfl) C.1 (vs := [(.int (114 : Int32)), (.int (101 : Int32)), (.int (118 : Int32)), (.int (105 : Int32)), (.int (115 : Int32)), (.int (105 : Int32)), (.int (116 : Int32))]) (z := (7 : Int32)) ⟨by decide +kernel, by decide +kernel⟩ (by decide) rfl (g := (mkF m 20 #[.val (.ref a)] [(.ref a)])) rfl (hb hby d8_20) (n := 28) (by decide +kernel) (by decide) (by decide) (by decide)
  have R := R3
  have C := C.trans R
  have hk := hk'
  have E_a := E_a.ext E3
  have F_v_a := F_v_a.ext E3
  have F_c_a := F_c_a.ext E3
  have V_t1 := V_t1.ext E3
  have Ex1 := Ex1.ext E3
  have Fc1 := Fc1.ext E3
  have Fv1 := Fv1.ext E3
  have Av1 := Av1.ext E3
  have O := O.ext E3
  have K := K.ext E3
  obtain ⟨cq4, kq4, q4a, q4b, q4c⟩ := isOf hZ e3 E_a
  obtain ⟨v4, _, ⟨T4, L4, k4, n4⟩, -, X4, ⟨Lc4, hQ4, l4, y4, z4⟩, st4⟩ := X3.virtualBack hx (y := (⟨"java/lang/String", "equals", "(Ljava/lang/Object;)Z"⟩ : MethodName)) (z := (⟨"java/lang/String", "equals", "(Ljava/lang/Object;)Z"⟩ : MethodName)) hown (mvT hZ (hw _ (List.mem_of_getElem? (i := 40) rfl))) (mvT hZ (hw _ (List.mem_of_getElem? (i := 41) rfl))) (notFace_of_selects (args := #[]) (mvT hZ (hw _ (List.mem_of_getElem? (i := 43) rfl)))) (mvT hZ (hw _ (List.mem_of_getElem? (i := 43) rfl))) (mvT hZ (hw _ (List.mem_of_getElem? (i := 42) rfl))) (by decide) (StrChars.Road.eqW (W := 0) hZ (own_wEq hw) (kI := 4) (hw _ (List.mem_of_getElem? (i := 6) rfl)) E_a F_v_a F_c_a V_t1 (StrChars.Road.codOf rfl (fun c hc => (hp c hc).2)) (own_up hp) hl Ex3 Fv3 Fc3 Av3 own_cod_114_101_118_105_115_105_116 own_cod_114_101_118_105_115_105_116b (Nat.le_of_ble_eq_true rfl) (SC.ext O.2) hzc (by decide) (by decide)) q4a q4c (g := (mkF m 22 #[.val (.ref a)] [(.ref a3), (.ref a)])) rfl (by rw [hml]; rfl) (Steps.refl _) (argsL := [(.ref a3)]) (rest := []) (lenOf pd__40Ljava_47lang_47Object_59_41Z rfl) rfl (by show 2 * 0 + _ ≤ _; exact Nat.le_of_eq rfl) (hb hby d8_22) (fun _ _ => ⟨rfl, e3, (by decide : 4 + 0 ≤ _), (by decide : 68 + 0 ≤ _)⟩)
  dsimp only [Pt.U, Pt.locs, Pt.cells, Pt.slots] at X4 l4 y4 z4 st4 hQ4
  subst l4 y4 z4
  obtain ⟨hv4, rfl, eh4⟩ := hQ4
  obtain rfl : v4 = some (.int (own_eqs cs ([(114 : Int32), (101 : Int32), (118 : Int32), (105 : Int32), (115 : Int32), (105 : Int32), (116 : Int32)] : List Int32))) := by rcases hv4 with ⟨h1, h2⟩ | ⟨h1, h2⟩ <;> rw [h1] <;> simp only [own_eqs, h2, if_true, if_false]
  have N4 := Fr.app N2 (Fr.nil n0)
  obtain ⟨a5, T5, h5, kk5, b5, kb5, X5, e5, E5, hS, hk', hZ, hown, Ex5, Fc5, Fv5, Av5, -, -, R5, -, Sf5, st5⟩ := ldcCH X4 hx hZ hown (hw _ (List.mem_of_getElem? (i := 104) rfl)) hSA eh4 hS hk hEL (List.mem_of_getElem? (i := 2) rfl) C.1 (vs := [(.int (114 : Int32)), (.int (101 : Int32)), (.int (115 : Int32)), (.int (111 : Int32)), (.int (117 : Int32)), (.int (114 : Int32)), (.int (99 : Int32)), (.int (101 : Int32))]) (z := (8 : Int32)) ⟨by decide +kernel, by decide +kernel⟩ (by decide) rfl (g := (mkF m 33 #[.val (.ref a)] [(.ref a)])) rfl (hb hby d8_33) (n := 32) (by decide +kernel) (by decide) (by decide) (by decide)
  have R := R5
  have C := C.trans R
  have hk := hk'
  have E_a := E_a.ext E5
  have F_v_a := F_v_a.ext E5
  have F_c_a := F_c_a.ext E5
  have V_t1 := V_t1.ext E5
  have Ex1 := Ex1.ext E5
  have Fc1 := Fc1.ext E5
  have Fv1 := Fv1.ext E5
  have Av1 := Av1.ext E5
  have Ex3 := Ex3.ext E5
  have Fc3 := Fc3.ext E5
  have Fv3 := Fv3.ext E5
  have Av3 := Av3.ext E5
  have O := O.ext E5
  have K := K.ext E5
  obtain ⟨cq6, kq6, q6a, q6b, q6c⟩ := isOf hZ e5 E_a
  obtain ⟨v6, _, ⟨T6, L6, k6, n6⟩, -, X6, ⟨Lc6, hQ6, l6, y6, z6⟩, st6⟩ := X5.virtualBack hx (y := (⟨"java/lang/String", "equals", "(Ljava/lang/Object;)Z"⟩ : MethodName)) (z := (⟨"java/lang/String", "equals", "(Ljava/lang/Object;)Z"⟩ : MethodName)) hown (mvT hZ (hw _ (List.mem_of_getElem? (i := 40) rfl))) (mvT hZ (hw _ (List.mem_of_getElem? (i := 41) rfl))) (notFace_of_selects (args := #[]) (mvT hZ (hw _ (List.mem_of_getElem? (i := 43) rfl)))) (mvT hZ (hw _ (List.mem_of_getElem? (i := 43) rfl))) (mvT hZ (hw _ (List.mem_of_getElem? (i := 42) rfl))) (by decide) (StrChars.Road.eqW (W := 0) hZ (own_wEq hw) (kI := 4) (hw _ (List.mem_of_getElem? (i := 6) rfl)) E_a F_v_a F_c_a V_t1 (StrChars.Road.codOf rfl (fun c hc => (hp c hc).2)) (own_up hp) hl Ex5 Fv5 Fc5 Av5 own_cod_114_101_115_111_117_114_99_101 own_cod_114_101_115_111_117_114_99_101b (Nat.le_of_ble_eq_true rfl) (SC.ext O.2) hzc (by decide) (by decide)) q6a q6c (g := (mkF m 35 #[.val (.ref a)] [(.ref a5), (.ref a)])) rfl (by rw [hml]; rfl) (Steps.refl _) (argsL := [(.ref a5)]) (rest := []) (lenOf pd__40Ljava_47lang_47Object_59_41Z rfl) rfl (by show 2 * 0 + _ ≤ _; exact Nat.le_of_eq rfl) (hb hby d8_35) (fun _ _ => ⟨rfl, e5, (by decide : 6 + 0 ≤ _), (by decide : 104 + 0 ≤ _)⟩)
  dsimp only [Pt.U, Pt.locs, Pt.cells, Pt.slots] at X6 l6 y6 z6 st6 hQ6
  subst l6 y6 z6
  obtain ⟨hv6, rfl, eh6⟩ := hQ6
  obtain rfl : v6 = some (.int (own_eqs cs ([(114 : Int32), (101 : Int32), (115 : Int32), (111 : Int32), (117 : Int32), (114 : Int32), (99 : Int32), (101 : Int32)] : List Int32))) := by rcases hv6 with ⟨h1, h2⟩ | ⟨h1, h2⟩ <;> rw [h1] <;> simp only [own_eqs, h2, if_true, if_false]
  have N6 := Fr.app N4 (Fr.nil n0)
  obtain ⟨T7, X7, e7, st7⟩ := getS2 X6 hx hZ hown (host := "") (Or.inl (hw _ (List.mem_of_getElem? (i := 109) rfl))) Via.refl eh6 (S_s_RESOURCE.ext O.2) (g := (mkF m 41 #[.val (.ref a)] [])) rfl (hb hby d8_41)
  have w8 : ∀ t, Steps p.tables e below (T7.setTop (mkF m 44 #[.val (.ref a)] [(.ref s_RESOURCE)])) t → Steps p.tables e below (s₁.setTop (entryFrame m #[(.ref a)] 1)) t := fun t k => by
    refine pre0 t ?_
    refine XS.aloadN X0.here hx rfl (hb hby d8_0) rfl rfl ?_
    show Steps p.tables e below (s₁.setTop (mkF m 1 #[.val (.ref a)] [(.ref a)])) _
    refine XS.ifnonnullYes X0.here hx rfl (pc0 := 1) (pc' := 6) rfl (hb hby d8_1) rfl (by decide) (by decide) ?_
    show Steps p.tables e below (s₁.setTop (mkF m 6 #[.val (.ref a)] [])) _
    refine XS.aloadN X0.here hx rfl (hb hby d8_6) rfl rfl ?_
    show Steps p.tables e below (s₁.setTop (mkF m 7 #[.val (.ref a)] [(.ref a)])) _
    refine st1 _ ?_
    show Steps p.tables e below (T1.setTop (mkF m 9 #[.val (.ref a)] [(.ref a1), (.ref a)])) _
    refine st2.trans ?_
    show Steps p.tables e below (T2.setTop (mkF m 12 #[.val (.ref a)] [(.int (own_eqs cs ([(114 : Int32), (101 : Int32), (115 : Int32), (112 : Int32), (111 : Int32), (110 : Int32), (115 : Int32), (101 : Int32)] : List Int32)))])) _
    refine XS.ifYes X2.here hx rfl (pc0 := 12) (pc' := 19) rfl (hb hby d8_12) rfl ((if0 _ _).trans (teq (own_en (fun e => own_02 (hy2.symm.trans e)) : (own_eqs cs ([(114 : Int32), (101 : Int32), (115 : Int32), (112 : Int32), (111 : Int32), (110 : Int32), (115 : Int32), (101 : Int32)] : List Int32)) = (0 : Int32))).1) (by decide) (by decide) ?_
    show Steps p.tables e below (T2.setTop (mkF m 19 #[.val (.ref a)] [])) _
    refine XS.aloadN X2.here hx rfl (hb hby d8_19) rfl rfl ?_
    show Steps p.tables e below (T2.setTop (mkF m 20 #[.val (.ref a)] [(.ref a)])) _
    refine st3 _ ?_
    show Steps p.tables e below (T3.setTop (mkF m 22 #[.val (.ref a)] [(.ref a3), (.ref a)])) _
    refine st4.trans ?_
    show Steps p.tables e below (T4.setTop (mkF m 25 #[.val (.ref a)] [(.int (own_eqs cs ([(114 : Int32), (101 : Int32), (118 : Int32), (105 : Int32), (115 : Int32), (105 : Int32), (116 : Int32)] : List Int32)))])) _
    refine XS.ifYes X4.here hx rfl (pc0 := 25) (pc' := 32) rfl (hb hby d8_25) rfl ((if0 _ _).trans (teq (own_en (fun e => own_12 (hy2.symm.trans e)) : (own_eqs cs ([(114 : Int32), (101 : Int32), (118 : Int32), (105 : Int32), (115 : Int32), (105 : Int32), (116 : Int32)] : List Int32)) = (0 : Int32))).1) (by decide) (by decide) ?_
    show Steps p.tables e below (T4.setTop (mkF m 32 #[.val (.ref a)] [])) _
    refine XS.aloadN X4.here hx rfl (hb hby d8_32) rfl rfl ?_
    show Steps p.tables e below (T4.setTop (mkF m 33 #[.val (.ref a)] [(.ref a)])) _
    refine st5 _ ?_
    show Steps p.tables e below (T5.setTop (mkF m 35 #[.val (.ref a)] [(.ref a5), (.ref a)])) _
    refine st6.trans ?_
    show Steps p.tables e below (T6.setTop (mkF m 38 #[.val (.ref a)] [(.int (own_eqs cs ([(114 : Int32), (101 : Int32), (115 : Int32), (111 : Int32), (117 : Int32), (114 : Int32), (99 : Int32), (101 : Int32)] : List Int32)))])) _
    refine XS.ifNo X6.here hx rfl (hb hby d8_38) rfl ((if0 _ _).trans (feq (own_ey hy2 : ¬ ((own_eqs cs ([(114 : Int32), (101 : Int32), (115 : Int32), (111 : Int32), (117 : Int32), (114 : Int32), (99 : Int32), (101 : Int32)] : List Int32)) = (0 : Int32)))).1) ?_
    show Steps p.tables e below (T6.setTop (mkF m 41 #[.val (.ref a)] [])) _
    refine st7 _ ?_
    show Steps p.tables e below (T7.setTop (mkF m 44 #[.val (.ref a)] [(.ref s_RESOURCE)])) _
    exact k
  obtain ⟨fs, hr, hrun, hended, hE⟩ := Stand.leaveW (s := s) (vm₁ := T5.vm) X7 hS (by rw [e7]; exact hk) (v := some (.ref s_RESOURCE)) (fun h => by rw [Bd.returns] at h; cases h)
  refine ⟨_, _, w8 _ ?_, hrun, hended, _, _, rfl, ?_, ?_, own_mono hE (by decide) (by decide)⟩
  · jvm_step X7.here [X7.here.top, hx, (hb hby d8_44), X7.method', Bd.returns, Value.isRef, FieldType.isReference]
    first | (intro acts; rw [hr _ acts rfl rfl rfl]) | rw [hr _ _ rfl rfl rfl]
    exact Steps.refl _
  · show Q8_2 Z a t1 kb cs zc s_RESOURCE h0 n0 _ T7.heap _
    rw [e7]
    exact ⟨rfl, N6, K⟩
  · rw [hh]; show CHr Z consts_1 s.vm h0 T7.vm T7.heap; rw [e7]; exact C.trans (CHv.at X7 hZ hEL C.1)
theorem d8_45 : decode method_3_code 45 = .ok (.aconst_null, 1) := by decide +kernel
theorem d8_46 : decode method_3_code 46 = .ok (.areturn, 1) := by decide +kernel
theorem ef_8_3 (m : MethodId) (x0 : Addr) : entryFrame m #[(.ref x0)] 1 = mkF m 0 #[.val (.ref x0)] [] := by first | (simp [entryFrame, mkF, argsToLocals, Value.category]; done) | rfl
def Q8_3 (Z : State) (a : Addr) (t1 : Addr) (kb : ClassId) (cs : List Int32) (zc : Int32) (h0 : Heap) (n0 : Nat) (v : Option Value) (h : Heap) (L : List Loc) : Prop := v = some .null ∧ Fr n0 L ∧ Keep h0 h []
set_option maxRecDepth 65536 in
set_option maxHeartbeats 40000000 in
theorem rm8_3 (l : Launch) (Z : State) (a0 : Array Value) (hw : ∀ d ∈ tables_1, d.before a0 Z = true) (ws : List Jvm.Cond) (a : Addr) (t1 : Addr) (kb : ClassId) (cs : List Int32) (zc : Int32) (h0 : Heap) (n0 : Nat) (O0 : Old Z n0 h0) (E_a : Exa Z h0 a "java/lang/String") (F_v_a : Fld Z h0 a "java/lang/String" "value" "[B" (.ref t1)) (F_c_a : Fld Z h0 a "java/lang/String" "coder" "B" (.int (0 : Int32))) (V_t1 : Arv Z h0 t1 kb .byte (Int32.ofNat cs.length) ((cs.map (fun c => c.toInt8.toInt32)).map Value.int) (.int (0 : Int32))) (hp : ∀ c ∈ cs, ¬ c < 0 ∧ ¬ (255 : Int32) < c) (hl : cs.length ≤ 4000) (hy0 : ¬ cs = ([(114 : Int32), (101 : Int32), (115 : Int32), (112 : Int32), (111 : Int32), (110 : Int32), (115 : Int32), (101 : Int32)] : List Int32)) (hy1 : ¬ cs = ([(114 : Int32), (101 : Int32), (118 : Int32), (105 : Int32), (115 : Int32), (105 : Int32), (116 : Int32)] : List Int32)) (hy2 : ¬ cs = ([(114 : Int32), (101 : Int32), (115 : Int32), (111 : Int32), (117 : Int32), (114 : Int32), (99 : Int32), (101 : Int32)] : List Int32)) (SC : Sta Z Z.heap "java/lang/String" "COMPACT_STRINGS" "Z" (.int zc)) (hzc : ¬ zc = 0) :
    MetFree l (⟨"com/example/rolling_ledger/rollingledger/model/CaptureKindOfWarcTypePinLaw", "expect", "(Ljava/lang/String;)Lcom/example/rolling_ledger/rollingledger/model/CaptureKind;"⟩ : MethodName) (head1 (Jvm.Cond.code (⟨"com/example/rolling_ledger/rollingledger/model/CaptureKindOfWarcTypePinLaw", "expect", "(Ljava/lang/String;)Lcom/example/rolling_ledger/rollingledger/model/CaptureKind;"⟩ : MethodName) method_3_code 1 (some (.object "com/example/rolling_ledger/rollingledger/model/CaptureKind")) :: ws) ({ frames := 2, cells := 6, slots := 104, locals := 28 } : Room)) (fun aA uU => aA = #[(.ref a)] ∧ Z.Warmed39 uU.vm ∧ uU.heap = h0 ∧ CHv Z consts_1 uU.vm h0) (fun _ _ _ _ _ => True) (fun _ uU oO uU' => ∃ vV lL, oO = .returned vV ∧ Q8_3 Z a t1 kb cs zc  h0 n0 vV uU'.heap lL ∧ CHr Z consts_1 uU.vm uU.heap uU'.vm uU'.heap ∧ ReturnedEndW uU oO uU' lL ({ frames := 2, cells := 6, slots := 104, locals := 28 } : Room).cells ({ frames := 2, cells := 6, slots := 104, locals := 28 } : Room).slots) := by
  refine MetFree.of_bodySF (plainFor_of_name pn_com_example_rolling_ledger_rollingledger_model_CaptureKindOfWarcTypePinLaw) hisR ?_
  intro p e s m args below meth c s₁ Bd hml0 hP hK
  obtain ⟨rfl, hZ, hh, H0⟩ := hP
  have hx := Bd.exec
  have hby := Bd.bytes
  have hml : c.maxLocals = 1 := hml0
  have hown : s.vm.findClass "com/example/rolling_ledger/rollingledger/model/CaptureKindOfWarcTypePinLaw" = some m.cls := findClass_of_methodNamed Bd.named
  have hnm := (name_of_methodNamed Bd.named Bd.method).1
  have X0 : Stand p l e ({ frames := 2, cells := 6, slots := 104, locals := 28 } : Room) (s.setVm s.vm) m #[(.ref a)] below meth c s₁ [] 0 0 := Stand.of_body Bd
  have e0 : s₁.heap = h0 := by rw [← hh, Bd.state]; rfl
  have N0 := Fr.nil n0
  have O := O0
  have K := Keep.refl h0 []
  have hS : s.Since s.vm h0.size := own_since s _
  have hk : h0.size ≤ h0.size := Nat.le_refl _
  have C : CHr Z consts_1 s.vm h0 s.vm h0 := CHr.refl H0
  have hEL := own_EW hw
  have hSA := own_wS hw
  have pre0 : ∀ t, Steps p.tables e below (s₁.setTop (mkF m 0 #[.val (.ref a)] [])) t → Steps p.tables e below (s₁.setTop (entryFrame m #[(.ref a)] 1)) t := fun t k => castTop (ef_8_3 m a) k
  obtain ⟨a1, T1, h1, kk1, b1, kb1, X1, e1, E1, hS, hk', hZ, hown, Ex1, Fc1, Fv1, Av1, -, -, R1, -, Sf1, st1⟩ := ldcCH X0 hx hZ hown (hw _ (List.mem_of_getElem? (i := 37) rfl)) hSA e0 hS hk hEL (List.mem_of_getElem? (i := 0) rfl) C.1 (vs := [(.int (114 : Int32)), (.int (101 : Int32)), (.int (115 : Int32)), (.int (112 : Int32)), (.int (111 : Int32)), (.int (110 : Int32)), (.int (115 : Int32)), (.int (101 : Int32))]) (z := (8 : Int32)) ⟨by decide +kernel, by decide +kernel⟩ (by decide) rfl (g := (mkF m 7 #[.val (.ref a)] [(.ref a)])) rfl (hb hby d8_7) (n := 32) (by decide +kernel) (by decide) (by decide) (by decide)
  have R := R1
  have C := C.trans R
  have hk := hk'
  have E_a := E_a.ext E1
  have F_v_a := F_v_a.ext E1
  have F_c_a := F_c_a.ext E1
  have V_t1 := V_t1.ext E1
  have O := O.ext E1
  have K := K.ext E1
  obtain ⟨cq2, kq2, q2a, q2b, q2c⟩ := isOf hZ e1 E_a
  obtain ⟨v2, _, ⟨T2, L2, k2, n2⟩, -, X2, ⟨Lc2, hQ2, l2, y2, z2⟩, st2⟩ := X1.virtualBack hx (y := (⟨"java/lang/String", "equals", "(Ljava/lang/Object;)Z"⟩ : MethodName)) (z := (⟨"java/lang/String", "equals", "(Ljava/lang/Object;)Z"⟩ : MethodName)) hown (mvT hZ (hw _ (List.mem_of_getElem? (i := 40) rfl))) (mvT hZ (hw _ (List.mem_of_getElem? (i := 41) rfl))) (notFace_of_selects (args := #[]) (mvT hZ (hw _ (List.mem_of_getElem? (i := 43) rfl)))) (mvT hZ (hw _ (List.mem_of_getElem? (i := 43) rfl))) (mvT hZ (hw _ (List.mem_of_getElem? (i := 42) rfl))) (by decide) (StrChars.Road.eqW (W := 0) hZ (own_wEq hw) (kI := 4) (hw _ (List.mem_of_getElem? (i := 6) rfl)) E_a F_v_a F_c_a V_t1 (StrChars.Road.codOf rfl (fun c hc => (hp c hc).2)) (own_up hp) hl Ex1 Fv1 Fc1 Av1 own_cod_114_101_115_112_111_110_115_101 own_cod_114_101_115_112_111_110_115_101b (Nat.le_of_ble_eq_true rfl) (SC.ext O.2) hzc (by decide) (by decide)) q2a q2c (g := (mkF m 9 #[.val (.ref a)] [(.ref a1), (.ref a)])) rfl (by rw [hml]; rfl) (Steps.refl _) (argsL := [(.ref a1)]) (rest := []) (lenOf pd__40Ljava_47lang_47Object_59_41Z rfl) rfl (by show 2 * 0 + _ ≤ _; exact Nat.le_of_eq rfl) (hb hby d8_9) (fun _ _ => ⟨rfl, e1, (by decide : 2 + 0 ≤ _), (by decide : 36 + 0 ≤ _)⟩)
  dsimp only [Pt.U, Pt.locs, Pt.cells, Pt.slots] at X2 l2 y2 z2 st2 hQ2
  subst l2 y2 z2
  obtain ⟨hv2, rfl, eh2⟩ := hQ2
  obtain rfl : v2 = some (.int (own_eqs cs ([(114 : Int32), (101 : Int32), (115 : Int32), (112 : Int32), (111 : Int32), (110 : Int32), (115 : Int32), (101 : Int32)] : List Int32))) := by rcases hv2 with ⟨h1, h2⟩ | ⟨h1, h2⟩ <;> rw [h1] <;> simp only [own_eqs, h2, if_true, if_false]
  have N2 := Fr.app N0 (Fr.nil n0)
  obtain ⟨a3, T3, h3, kk3, b3, kb3, X3, e3, E3, hS, hk', hZ, hown, Ex3, Fc3, Fv3, Av3, -, -, R3, -, Sf3, st3⟩ := ldcCH X2 hx hZ hown (hw _ (List.mem_of_getElem? (i := 103) rfl)) hSA eh2 hS hk hEL (List.mem_of_getElem? (i := 1) rfl) C.1 (vs := [(.int (114 : Int32)), (.int (101 : Int32)), (.int (118 : Int32)), (.int (105 : Int32)), (.int (115 : Int32)), (.int (105 : Int32)), (.int (116 : Int32))]) (z := (7 : Int32)) ⟨by decide +kernel, by decide +kernel⟩ (by decide) rfl (g := (mkF m 20 #[.val (.ref a)] [(.ref a)])) rfl (hb hby d8_20) (n := 28) (by decide +kernel) (by decide) (by decide) (by decide)
  have R := R3
  have C := C.trans R
  have hk := hk'
  have E_a := E_a.ext E3
  have F_v_a := F_v_a.ext E3
  have F_c_a := F_c_a.ext E3
  have V_t1 := V_t1.ext E3
  have Ex1 := Ex1.ext E3
  have Fc1 := Fc1.ext E3
  have Fv1 := Fv1.ext E3
  have Av1 := Av1.ext E3
  have O := O.ext E3
  have K := K.ext E3
  obtain ⟨cq4, kq4, q4a, q4b, q4c⟩ := isOf hZ e3 E_a
  obtain ⟨v4, _, ⟨T4, L4, k4, n4⟩, -, X4, ⟨Lc4, hQ4, l4, y4, z4⟩, st4⟩ := X3.virtualBack hx (y := (⟨"java/lang/String", "equals", "(Ljava/lang/Object;)Z"⟩ : MethodName)) (z := (⟨"java/lang/String", "equals", "(Ljava/lang/Object;)Z"⟩ : MethodName)) hown (mvT hZ (hw _ (List.mem_of_getElem? (i := 40) rfl))) (mvT hZ (hw _ (List.mem_of_getElem? (i := 41) rfl))) (notFace_of_selects (args := #[]) (mvT hZ (hw _ (List.mem_of_getElem? (i := 43) rfl)))) (mvT hZ (hw _ (List.mem_of_getElem? (i := 43) rfl))) (mvT hZ (hw _ (List.mem_of_getElem? (i := 42) rfl))) (by decide) (StrChars.Road.eqW (W := 0) hZ (own_wEq hw) (kI := 4) (hw _ (List.mem_of_getElem? (i := 6) rfl)) E_a F_v_a F_c_a V_t1 (StrChars.Road.codOf rfl (fun c hc => (hp c hc).2)) (own_up hp) hl Ex3 Fv3 Fc3 Av3 own_cod_114_101_118_105_115_105_116 own_cod_114_101_118_105_115_105_116b (Nat.le_of_ble_eq_true rfl) (SC.ext O.2) hzc (by decide) (by decide)) q4a q4c (g := (mkF m 22 #[.val (.ref a)] [(.ref a3), (.ref a)])) rfl (by rw [hml]; rfl) (Steps.refl _) (argsL := [(.ref a3)]) (rest := []) (lenOf pd__40Ljava_47lang_47Object_59_41Z rfl) rfl (by show 2 * 0 + _ ≤ _; exact Nat.le_of_eq rfl) (hb hby d8_22) (fun _ _ => ⟨rfl, e3, (by decide : 4 + 0 ≤ _), (by decide : 68 + 0 ≤ _)⟩)
  dsimp only [Pt.U, Pt.locs, Pt.cells, Pt.slots] at X4 l4 y4 z4 st4 hQ4
  subst l4 y4 z4
  obtain ⟨hv4, rfl, eh4⟩ := hQ4
  obtain rfl : v4 = some (.int (own_eqs cs ([(114 : Int32), (101 : Int32), (118 : Int32), (105 : Int32), (115 : Int32), (105 : Int32), (116 : Int32)] : List Int32))) := by rcases hv4 with ⟨h1, h2⟩ | ⟨h1, h2⟩ <;> rw [h1] <;> simp only [own_eqs, h2, if_true, if_false]
  have N4 := Fr.app N2 (Fr.nil n0)
  obtain ⟨a5, T5, h5, kk5, b5, kb5, X5, e5, E5, hS, hk', hZ, hown, Ex5, Fc5, Fv5, Av5, -, -, R5, -, Sf5, st5⟩ := ldcCH X4 hx hZ hown (hw _ (List.mem_of_getElem? (i := 104) rfl)) hSA eh4 hS hk hEL (List.mem_of_getElem? (i := 2) rfl) C.1 (vs := [(.int (114 : Int32)), (.int (101 : Int32)), (.int (115 : Int32)), (.int (111 : Int32)), (.int (117 : Int32)), (.int (114 : Int32)), (.int (99 : Int32)), (.int (101 : Int32))]) (z := (8 : Int32)) ⟨by decide +kernel, by decide +kernel⟩ (by decide) rfl (g := (mkF m 33 #[.val (.ref a)] [(.ref a)])) rfl (hb hby d8_33) (n := 32) (by decide +kernel) (by decide) (by decide) (by decide)
  have R := R5
  have C := C.trans R
  have hk := hk'
  have E_a := E_a.ext E5
  have F_v_a := F_v_a.ext E5
  have F_c_a := F_c_a.ext E5
  have V_t1 := V_t1.ext E5
  have Ex1 := Ex1.ext E5
  have Fc1 := Fc1.ext E5
  have Fv1 := Fv1.ext E5
  have Av1 := Av1.ext E5
  have Ex3 := Ex3.ext E5
  have Fc3 := Fc3.ext E5
  have Fv3 := Fv3.ext E5
  have Av3 := Av3.ext E5
  have O := O.ext E5
  have K := K.ext E5
  obtain ⟨cq6, kq6, q6a, q6b, q6c⟩ := isOf hZ e5 E_a
  obtain ⟨v6, _, ⟨T6, L6, k6, n6⟩, -, X6, ⟨Lc6, hQ6, l6, y6, z6⟩, st6⟩ := X5.virtualBack hx (y := (⟨"java/lang/String", "equals", "(Ljava/lang/Object;)Z"⟩ : MethodName)) (z := (⟨"java/lang/String", "equals", "(Ljava/lang/Object;)Z"⟩ : MethodName)) hown (mvT hZ (hw _ (List.mem_of_getElem? (i := 40) rfl))) (mvT hZ (hw _ (List.mem_of_getElem? (i := 41) rfl))) (notFace_of_selects (args := #[]) (mvT hZ (hw _ (List.mem_of_getElem? (i := 43) rfl)))) (mvT hZ (hw _ (List.mem_of_getElem? (i := 43) rfl))) (mvT hZ (hw _ (List.mem_of_getElem? (i := 42) rfl))) (by decide) (StrChars.Road.eqW (W := 0) hZ (own_wEq hw) (kI := 4) (hw _ (List.mem_of_getElem? (i := 6) rfl)) E_a F_v_a F_c_a V_t1 (StrChars.Road.codOf rfl (fun c hc => (hp c hc).2)) (own_up hp) hl Ex5 Fv5 Fc5 Av5 own_cod_114_101_115_111_117_114_99_101 own_cod_114_101_115_111_117_114_99_101b (Nat.le_of_ble_eq_true rfl) (SC.ext O.2) hzc (by decide) (by decide)) q6a q6c (g := (mkF m 35 #[.val (.ref a)] [(.ref a5), (.ref a)])) rfl (by rw [hml]; rfl) (Steps.refl _) (argsL := [(.ref a5)]) (rest := []) (lenOf pd__40Ljava_47lang_47Object_59_41Z rfl) rfl (by show 2 * 0 + _ ≤ _; exact Nat.le_of_eq rfl) (hb hby d8_35) (fun _ _ => ⟨rfl, e5, (by decide : 6 + 0 ≤ _), (by decide : 104 + 0 ≤ _)⟩)
  dsimp only [Pt.U, Pt.locs, Pt.cells, Pt.slots] at X6 l6 y6 z6 st6 hQ6
  subst l6 y6 z6
  obtain ⟨hv6, rfl, eh6⟩ := hQ6
  obtain rfl : v6 = some (.int (own_eqs cs ([(114 : Int32), (101 : Int32), (115 : Int32), (111 : Int32), (117 : Int32), (114 : Int32), (99 : Int32), (101 : Int32)] : List Int32))) := by rcases hv6 with ⟨h1, h2⟩ | ⟨h1, h2⟩ <;> rw [h1] <;> simp only [own_eqs, h2, if_true, if_false]
  have N6 := Fr.app N4 (Fr.nil n0)
  have w7 : ∀ t, Steps p.tables e below (T6.setTop (mkF m 46 #[.val (.ref a)] [.null])) t → Steps p.tables e below (s₁.setTop (entryFrame m #[(.ref a)] 1)) t := fun t k => by
    refine pre0 t ?_
    refine XS.aloadN X0.here hx rfl (hb hby d8_0) rfl rfl ?_
    show Steps p.tables e below (s₁.setTop (mkF m 1 #[.val (.ref a)] [(.ref a)])) _
    refine XS.ifnonnullYes X0.here hx rfl (pc0 := 1) (pc' := 6) rfl (hb hby d8_1) rfl (by decide) (by decide) ?_
    show Steps p.tables e below (s₁.setTop (mkF m 6 #[.val (.ref a)] [])) _
    refine XS.aloadN X0.here hx rfl (hb hby d8_6) rfl rfl ?_
    show Steps p.tables e below (s₁.setTop (mkF m 7 #[.val (.ref a)] [(.ref a)])) _
    refine st1 _ ?_
    show Steps p.tables e below (T1.setTop (mkF m 9 #[.val (.ref a)] [(.ref a1), (.ref a)])) _
    refine st2.trans ?_
    show Steps p.tables e below (T2.setTop (mkF m 12 #[.val (.ref a)] [(.int (own_eqs cs ([(114 : Int32), (101 : Int32), (115 : Int32), (112 : Int32), (111 : Int32), (110 : Int32), (115 : Int32), (101 : Int32)] : List Int32)))])) _
    refine XS.ifYes X2.here hx rfl (pc0 := 12) (pc' := 19) rfl (hb hby d8_12) rfl ((if0 _ _).trans (teq (own_en hy0 : (own_eqs cs ([(114 : Int32), (101 : Int32), (115 : Int32), (112 : Int32), (111 : Int32), (110 : Int32), (115 : Int32), (101 : Int32)] : List Int32)) = (0 : Int32))).1) (by decide) (by decide) ?_
    show Steps p.tables e below (T2.setTop (mkF m 19 #[.val (.ref a)] [])) _
    refine XS.aloadN X2.here hx rfl (hb hby d8_19) rfl rfl ?_
    show Steps p.tables e below (T2.setTop (mkF m 20 #[.val (.ref a)] [(.ref a)])) _
    refine st3 _ ?_
    show Steps p.tables e below (T3.setTop (mkF m 22 #[.val (.ref a)] [(.ref a3), (.ref a)])) _
    refine st4.trans ?_
    show Steps p.tables e below (T4.setTop (mkF m 25 #[.val (.ref a)] [(.int (own_eqs cs ([(114 : Int32), (101 : Int32), (118 : Int32), (105 : Int32), (115 : Int32), (105 : Int32), (116 : Int32)] : List Int32)))])) _
    refine XS.ifYes X4.here hx rfl (pc0 := 25) (pc' := 32) rfl (hb hby d8_25) rfl ((if0 _ _).trans (teq (own_en hy1 : (own_eqs cs ([(114 : Int32), (101 : Int32), (118 : Int32), (105 : Int32), (115 : Int32), (105 : Int32), (116 : Int32)] : List Int32)) = (0 : Int32))).1) (by decide) (by decide) ?_
    show Steps p.tables e below (T4.setTop (mkF m 32 #[.val (.ref a)] [])) _
    refine XS.aloadN X4.here hx rfl (hb hby d8_32) rfl rfl ?_
    show Steps p.tables e below (T4.setTop (mkF m 33 #[.val (.ref a)] [(.ref a)])) _
    refine st5 _ ?_
    show Steps p.tables e below (T5.setTop (mkF m 35 #[.val (.ref a)] [(.ref a5), (.ref a)])) _
    refine st6.trans ?_
    show Steps p.tables e below (T6.setTop (mkF m 38 #[.val (.ref a)] [(.int (own_eqs cs ([(114 : Int32), (101 : Int32), (115 : Int32), (111 : Int32), (117 : Int32), (114 : Int32), (99 : Int32), (101 : Int32)] : List Int32)))])) _
    refine XS.ifYes X6.here hx rfl (pc0 := 38) (pc' := 45) rfl (hb hby d8_38) rfl ((if0 _ _).trans (teq (own_en hy2 : (own_eqs cs ([(114 : Int32), (101 : Int32), (115 : Int32), (111 : Int32), (117 : Int32), (114 : Int32), (99 : Int32), (101 : Int32)] : List Int32)) = (0 : Int32))).1) (by decide) (by decide) ?_
    show Steps p.tables e below (T6.setTop (mkF m 45 #[.val (.ref a)] [])) _
    refine XS.aconstNull X6.here hx rfl (hb hby d8_45) ?_
    show Steps p.tables e below (T6.setTop (mkF m 46 #[.val (.ref a)] [.null])) _
    exact k
  obtain ⟨fs, hr, hrun, hended, hE⟩ := Stand.leaveW (s := s) (vm₁ := T5.vm) X6 hS (by rw [eh6]; exact hk) (v := some .null) (fun h => by rw [Bd.returns] at h; cases h)
  refine ⟨_, _, w7 _ ?_, hrun, hended, _, _, rfl, ?_, ?_, own_mono hE (by decide) (by decide)⟩
  · jvm_step X6.here [X6.here.top, hx, (hb hby d8_46), X6.method', Bd.returns, Value.isRef, FieldType.isReference]
    first | (intro acts; rw [hr _ acts rfl rfl rfl]) | rw [hr _ _ rfl rfl rfl]
    exact Steps.refl _
  · show Q8_3 Z a t1 kb cs zc  h0 n0 _ T6.heap _
    rw [eh6]
    exact ⟨rfl, N6, K⟩
  · rw [hh]; show CHr Z consts_1 s.vm h0 T6.vm T6.heap; rw [eh6]; exact C.trans (CHv.at X6 hZ hEL C.1)
theorem d8_4 : decode method_3_code 4 = .ok (.aconst_null, 1) := by decide +kernel
theorem d8_5 : decode method_3_code 5 = .ok (.areturn, 1) := by decide +kernel
theorem ef_8_null (m : MethodId) : entryFrame m #[.null] 1 = mkF m 0 #[.val .null] [] := by first | (simp [entryFrame, mkF, argsToLocals, Value.category]; done) | rfl
def Q8_null (Z : State) (h0 : Heap) (n0 : Nat) (v : Option Value) (h : Heap) (L : List Loc) : Prop := v = some .null ∧ Fr n0 L ∧ h = h0
set_option maxRecDepth 65536 in
set_option maxHeartbeats 40000000 in
theorem rm8_null (l : Launch) (Z : State) (a0 : Array Value) (hw : ∀ d ∈ tables_1, d.before a0 Z = true) (ws : List Jvm.Cond) (h0 : Heap) (n0 : Nat) (O0 : Old Z n0 h0) :
    MetFree l (⟨"com/example/rolling_ledger/rollingledger/model/CaptureKindOfWarcTypePinLaw", "expect", "(Ljava/lang/String;)Lcom/example/rolling_ledger/rollingledger/model/CaptureKind;"⟩ : MethodName) (head1 (Jvm.Cond.code (⟨"com/example/rolling_ledger/rollingledger/model/CaptureKindOfWarcTypePinLaw", "expect", "(Ljava/lang/String;)Lcom/example/rolling_ledger/rollingledger/model/CaptureKind;"⟩ : MethodName) method_3_code 1 (some (.object "com/example/rolling_ledger/rollingledger/model/CaptureKind")) :: ws) ({ frames := 0, cells := 0, slots := 0, locals := 0 } : Room)) (fun aA uU => aA = #[.null] ∧ Z.Warmed39 uU.vm ∧ uU.heap = h0) (fun _ _ _ _ _ => True) (fun _ uU oO uU' => ∃ vV lL, oO = .returned vV ∧ Q8_null Z   h0 n0 vV uU'.heap lL ∧ FrameEnd uU oO uU' lL ({ frames := 0, cells := 0, slots := 0, locals := 0 } : Room).cells ({ frames := 0, cells := 0, slots := 0, locals := 0 } : Room).slots) := by
  refine MetFree.of_bodySF (plainFor_of_name pn_com_example_rolling_ledger_rollingledger_model_CaptureKindOfWarcTypePinLaw) hisR ?_
  intro p e s m args below meth c s₁ Bd hml0 hP hK
  obtain ⟨rfl, hZ, hh⟩ := hP
  have hx := Bd.exec
  have hby := Bd.bytes
  have hml : c.maxLocals = 1 := hml0
  have hown : s.vm.findClass "com/example/rolling_ledger/rollingledger/model/CaptureKindOfWarcTypePinLaw" = some m.cls := findClass_of_methodNamed Bd.named
  have hnm := (name_of_methodNamed Bd.named Bd.method).1
  have X0 : Stand p l e ({ frames := 0, cells := 0, slots := 0, locals := 0 } : Room) s m #[.null] below meth c s₁ [] 0 0 := Stand.of_body Bd
  have e0 : s₁.heap = h0 := by rw [← hh, Bd.state]; rfl
  have N0 := Fr.nil n0
  have O := O0
  have pre0 : ∀ t, Steps p.tables e below (s₁.setTop (mkF m 0 #[.val .null] [])) t → Steps p.tables e below (s₁.setTop (entryFrame m #[.null] 1)) t := fun t k => castTop (ef_8_null m ) k
  have w1 : ∀ t, Steps p.tables e below (s₁.setTop (mkF m 5 #[.val .null] [.null])) t → Steps p.tables e below (s₁.setTop (entryFrame m #[.null] 1)) t := fun t k => by
    refine pre0 t ?_
    refine XS.aloadN X0.here hx rfl (hb hby d8_0) rfl rfl ?_
    show Steps p.tables e below (s₁.setTop (mkF m 1 #[.val .null] [.null])) _
    refine XS.ifnonnullNo X0.here hx rfl (hb hby d8_1) rfl ?_
    show Steps p.tables e below (s₁.setTop (mkF m 4 #[.val .null] [])) _
    refine XS.aconstNull X0.here hx rfl (hb hby d8_4) ?_
    show Steps p.tables e below (s₁.setTop (mkF m 5 #[.val .null] [.null])) _
    exact k
  obtain ⟨fs, hr, hrun, hended, hW, hsame⟩ := X0.leave (v := some .null) (fun h => by rw [Bd.returns] at h; cases h)
  refine ⟨_, _, w1 _ ?_, hrun, hended, _, _, rfl, ?_, ⟨_, rfl⟩, hW, hsame.mono (by decide) (by decide)⟩
  · jvm_step X0.here [X0.here.top, hx, (hb hby d8_5), X0.method', Bd.returns, Value.isRef, FieldType.isReference]
    first | (intro acts; rw [hr _ acts rfl rfl rfl]) | rw [hr _ _ rfl rfl rfl]
    exact Steps.refl _
  · show Q8_null Z   h0 n0 _ s₁.heap _
    rw [e0]
    exact ⟨rfl, N0, rfl⟩
theorem d12_0 : decode prog_6_method_1_code 0 = .ok (.getstatic 13, 3) := by decide +kernel
theorem d12_3 : decode prog_6_method_1_code 3 = .ok (.invokevirtual 17, 3) := by decide +kernel
theorem d12_6 : decode prog_6_method_1_code 6 = .ok (.checkcast 18, 3) := by decide +kernel
theorem d12_9 : decode prog_6_method_1_code 9 = .ok (.areturn, 1) := by decide +kernel
theorem pn_com_example_rolling_ledger_rollingledger_model_CaptureKind : plainName "com/example/rolling_ledger/rollingledger/model/CaptureKind" = true := by first | (simp [plainName, overriddenIn]; done) | decide +kernel
theorem ef_12 (m : MethodId) : entryFrame m #[] 0 = mkF m 0 #[] [] := by first | (simp [entryFrame, mkF, argsToLocals, Value.category]; done) | rfl
def Q12 (Z : State) (kv : ClassId) (s_VALUES : Addr) (s_RESPONSE : Addr) (s_REVISIT : Addr) (s_RESOURCE : Addr) (h0 : Heap) (n0 : Nat) (v : Option Value) (h : Heap) (L : List Loc) : Prop := ∃ z : Addr, v = some (.ref z) ∧ Fr n0 L ∧ Keep h0 h [] ∧ Arv Z h z kv (.object "com/example/rolling_ledger/rollingledger/model/CaptureKind") (3 : Int32) [(.ref s_RESPONSE), (.ref s_REVISIT), (.ref s_RESOURCE)] .null ∧ h0.size ≤ z ∧ n0 ≤ z
set_option maxRecDepth 65536 in
set_option maxHeartbeats 40000000 in
theorem rm12 (l : Launch) (Z : State) (a0 : Array Value) (hw : ∀ d ∈ tables_1, d.before a0 Z = true) (ws : List Jvm.Cond) (kv : ClassId) (s_VALUES : Addr) (s_RESPONSE : Addr) (s_REVISIT : Addr) (s_RESOURCE : Addr) (h0 : Heap) (n0 : Nat) (O0 : Old Z n0 h0) (S_s_VALUES : Sta Z Z.heap "com/example/rolling_ledger/rollingledger/model/CaptureKind" "$VALUES" "[Lcom/example/rolling_ledger/rollingledger/model/CaptureKind;" (.ref s_VALUES)) (S_s_RESPONSE : Sta Z Z.heap "com/example/rolling_ledger/rollingledger/model/CaptureKind" "RESPONSE" "Lcom/example/rolling_ledger/rollingledger/model/CaptureKind;" (.ref s_RESPONSE)) (S_s_REVISIT : Sta Z Z.heap "com/example/rolling_ledger/rollingledger/model/CaptureKind" "REVISIT" "Lcom/example/rolling_ledger/rollingledger/model/CaptureKind;" (.ref s_REVISIT)) (S_s_RESOURCE : Sta Z Z.heap "com/example/rolling_ledger/rollingledger/model/CaptureKind" "RESOURCE" "Lcom/example/rolling_ledger/rollingledger/model/CaptureKind;" (.ref s_RESOURCE)) (V_s_VALUES : Arv Z h0 s_VALUES kv (.object "com/example/rolling_ledger/rollingledger/model/CaptureKind") (3 : Int32) [(.ref s_RESPONSE), (.ref s_REVISIT), (.ref s_RESOURCE)] .null) (E_s_VALUES : Exa Z h0 s_VALUES "[Lcom/example/rolling_ledger/rollingledger/model/CaptureKind;") :
    MetFree l (⟨"com/example/rolling_ledger/rollingledger/model/CaptureKind", "values", "()[Lcom/example/rolling_ledger/rollingledger/model/CaptureKind;"⟩ : MethodName) (head1 (Jvm.Cond.code (⟨"com/example/rolling_ledger/rollingledger/model/CaptureKind", "values", "()[Lcom/example/rolling_ledger/rollingledger/model/CaptureKind;"⟩ : MethodName) prog_6_method_1_code 0 (some (.array (.object "com/example/rolling_ledger/rollingledger/model/CaptureKind"))) :: ws) ({ frames := 1, cells := 1, slots := 3, locals := 14 } : Room)) (fun aA uU => aA = #[] ∧ Z.Warmed39 uU.vm ∧ uU.heap = h0) (fun _ _ _ _ _ => True) (fun _ uU oO uU' => ∃ vV lL, oO = .returned vV ∧ Q12 Z kv s_VALUES s_RESPONSE s_REVISIT s_RESOURCE h0 n0 vV uU'.heap lL ∧ FrameEnd uU oO uU' lL ({ frames := 1, cells := 1, slots := 3, locals := 14 } : Room).cells ({ frames := 1, cells := 1, slots := 3, locals := 14 } : Room).slots) := by
  refine MetFree.of_bodySF (plainFor_of_name pn_com_example_rolling_ledger_rollingledger_model_CaptureKind) hisR ?_
  intro p e s m args below meth c s₁ Bd hml0 hP hK
  obtain ⟨rfl, hZ, hh⟩ := hP
  have hx := Bd.exec
  have hby := Bd.bytes
  have hml : c.maxLocals = 0 := hml0
  have hown : s.vm.findClass "com/example/rolling_ledger/rollingledger/model/CaptureKind" = some m.cls := findClass_of_methodNamed Bd.named
  have hnm := (name_of_methodNamed Bd.named Bd.method).1
  have X0 : Stand p l e ({ frames := 1, cells := 1, slots := 3, locals := 14 } : Room) s m #[] below meth c s₁ [] 0 0 := Stand.of_body Bd
  have e0 : s₁.heap = h0 := by rw [← hh, Bd.state]; rfl
  have N0 := Fr.nil n0
  have O := O0
  have K := Keep.refl h0 []
  have pre0 : ∀ t, Steps p.tables e below (s₁.setTop (mkF m 0 #[] [])) t → Steps p.tables e below (s₁.setTop (entryFrame m #[] 0)) t := fun t k => castTop (ef_12 m ) k
  obtain ⟨T1, X1, e1, st1⟩ := getS2 X0 hx hZ hown (host := "") (Or.inl (hw _ (List.mem_of_getElem? (i := 59) rfl))) Via.refl e0 (S_s_VALUES.ext O.2) (g := (mkF m 0 #[] [])) rfl (hb hby d12_0)
  obtain ⟨T2, h2, X2, e2, E2, V_b2, A2, st2⟩ := cloneH X1 hx hZ hown (hw _ (List.mem_of_getElem? (i := 61) rfl)) (hw _ (List.mem_of_getElem? (i := 62) rfl)) (hw _ (List.mem_of_getElem? (i := 66) rfl)) (hw _ (List.mem_of_getElem? (i := 64) rfl)) (hw _ (List.mem_of_getElem? (i := 65) rfl)) (hw _ (List.mem_of_getElem? (i := 67) rfl)) e1 V_s_VALUES.arh E_s_VALUES (g := (mkF m 3 #[] [(.ref s_VALUES)])) rfl (by rw [hml]; rfl) rfl (hb hby d12_3) (by decide) (W := 0) (cap := 3) (by show 2 * 0 + _ ≤ _; exact Nat.le_of_eq rfl) (by decide) (by decide) (by decide) (by decide)
  obtain ⟨b2, gq2⟩ : ∃ z, z = Array.size h0 := ⟨_, rfl⟩
  rw [← gq2] at A2 V_b2 st2
  have ne_s_VALUES_b2 : s_VALUES ≠ b2 := Nat.ne_of_lt (Nat.lt_of_lt_of_le V_s_VALUES.lt (Nat.le_of_eq gq2.symm))
  have g_b2 : n0 ≤ b2 := Nat.le_trans (O.1 ▸ O.2.1) (Nat.le_of_eq gq2.symm)
  have z_b2 : h0.size ≤ b2 := Nat.le_trans K.1 (Nat.le_of_eq gq2.symm)
  have V_s_VALUES := V_s_VALUES.ext E2
  have E_s_VALUES := E_s_VALUES.ext E2
  have O := O.ext E2
  have K := K.ext E2
  have V_b2 : Arv Z h2 b2 kv (.object "com/example/rolling_ledger/rollingledger/model/CaptureKind") (3 : Int32) [(.ref s_RESPONSE), (.ref s_REVISIT), (.ref s_RESOURCE)] .null := V_b2
  obtain ⟨T3, X3, e3, st3⟩ := castY X2 hx hZ hown (hw _ (List.mem_of_getElem? (i := 71) rfl)) e2 (Ins.self A2) (g := (mkF m 6 #[] [(.ref b2)])) rfl rfl (hb hby d12_6)
  have w4 : ∀ t, Steps p.tables e below (T3.setTop (mkF m 9 #[] [(.ref b2)])) t → Steps p.tables e below (s₁.setTop (entryFrame m #[] 0)) t := fun t k => by
    refine pre0 t ?_
    refine st1 _ ?_
    show Steps p.tables e below (T1.setTop (mkF m 3 #[] [(.ref s_VALUES)])) _
    refine st2 _ ?_
    show Steps p.tables e below (T2.setTop (mkF m 6 #[] [(.ref b2)])) _
    refine st3 _ ?_
    show Steps p.tables e below (T3.setTop (mkF m 9 #[] [(.ref b2)])) _
    exact k
  obtain ⟨fs, hr, hrun, hended, hW, hsame⟩ := X3.leave (v := some (.ref b2)) (fun h => by rw [Bd.returns] at h; cases h)
  refine ⟨_, _, w4 _ ?_, hrun, hended, _, _, rfl, ?_, ⟨_, rfl⟩, hW, hsame.mono (by decide) (by decide)⟩
  · jvm_step X3.here [X3.here.top, hx, (hb hby d12_9), X3.method', Bd.returns, Value.isRef, FieldType.isReference]
    first | (intro acts; rw [hr _ acts rfl rfl rfl]) | rw [hr _ _ rfl rfl rfl]
    exact Steps.refl _
  · show Q12 Z kv s_VALUES s_RESPONSE s_REVISIT s_RESOURCE h0 n0 _ T3.heap _
    rw [e3]
    exact ⟨b2, rfl, N0, K, V_b2, z_b2, g_b2⟩
theorem d14_0 : decode jdk_31_method_10_code 0 = .ok (.aload_n 0, 1) := by decide +kernel
theorem d14_1 : decode jdk_31_method_10_code 1 = .ok (.ifnonnull 11, 3) := by decide +kernel
theorem d14_12 : decode jdk_31_method_10_code 12 = .ok (.aload_n 0, 1) := by decide +kernel
theorem d14_13 : decode jdk_31_method_10_code 13 = .ok (.areturn, 1) := by decide +kernel
theorem pn_java_util_Objects : plainName "java/util/Objects" = true := by first | (simp [plainName, overriddenIn]; done) | decide +kernel
theorem ef_14 (m : MethodId) (x0 : Addr) : entryFrame m #[(.ref x0)] 1 = mkF m 0 #[.val (.ref x0)] [] := by first | (simp [entryFrame, mkF, argsToLocals, Value.category]; done) | rfl
def Q14 (Z : State) (y : Addr) (h0 : Heap) (n0 : Nat) (v : Option Value) (h : Heap) (L : List Loc) : Prop := v = some (.ref y) ∧ Fr n0 L ∧ h = h0
set_option maxRecDepth 65536 in
set_option maxHeartbeats 40000000 in
theorem rm14 (l : Launch) (Z : State) (a0 : Array Value) (hw : ∀ d ∈ tables_1, d.before a0 Z = true) (ws : List Jvm.Cond) (y : Addr) (h0 : Heap) (n0 : Nat) (O0 : Old Z n0 h0) :
    MetFree l (⟨"java/util/Objects", "requireNonNull", "(Ljava/lang/Object;)Ljava/lang/Object;"⟩ : MethodName) (head1 (Jvm.Cond.code (⟨"java/util/Objects", "requireNonNull", "(Ljava/lang/Object;)Ljava/lang/Object;"⟩ : MethodName) jdk_31_method_10_code 1 (some (.object "java/lang/Object")) :: ws) ({ frames := 0, cells := 0, slots := 0, locals := 0 } : Room)) (fun aA uU => aA = #[(.ref y)] ∧ Z.Warmed39 uU.vm ∧ uU.heap = h0) (fun _ _ _ _ _ => True) (fun _ uU oO uU' => ∃ vV lL, oO = .returned vV ∧ Q14 Z y  h0 n0 vV uU'.heap lL ∧ FrameEnd uU oO uU' lL ({ frames := 0, cells := 0, slots := 0, locals := 0 } : Room).cells ({ frames := 0, cells := 0, slots := 0, locals := 0 } : Room).slots) := by
  refine MetFree.of_bodySF (plainFor_of_name pn_java_util_Objects) hisR ?_
  intro p e s m args below meth c s₁ Bd hml0 hP hK
  obtain ⟨rfl, hZ, hh⟩ := hP
  have hx := Bd.exec
  have hby := Bd.bytes
  have hml : c.maxLocals = 1 := hml0
  have hown : s.vm.findClass "java/util/Objects" = some m.cls := findClass_of_methodNamed Bd.named
  have hnm := (name_of_methodNamed Bd.named Bd.method).1
  have X0 : Stand p l e ({ frames := 0, cells := 0, slots := 0, locals := 0 } : Room) s m #[(.ref y)] below meth c s₁ [] 0 0 := Stand.of_body Bd
  have e0 : s₁.heap = h0 := by rw [← hh, Bd.state]; rfl
  have N0 := Fr.nil n0
  have O := O0
  have pre0 : ∀ t, Steps p.tables e below (s₁.setTop (mkF m 0 #[.val (.ref y)] [])) t → Steps p.tables e below (s₁.setTop (entryFrame m #[(.ref y)] 1)) t := fun t k => castTop (ef_14 m y) k
  have w1 : ∀ t, Steps p.tables e below (s₁.setTop (mkF m 13 #[.val (.ref y)] [(.ref y)])) t → Steps p.tables e below (s₁.setTop (entryFrame m #[(.ref y)] 1)) t := fun t k => by
    refine pre0 t ?_
    refine XS.aloadN X0.here hx rfl (hb hby d14_0) rfl rfl ?_
    show Steps p.tables e below (s₁.setTop (mkF m 1 #[.val (.ref y)] [(.ref y)])) _
    refine XS.ifnonnullYes X0.here hx rfl (pc0 := 1) (pc' := 12) rfl (hb hby d14_1) rfl (by decide) (by decide) ?_
    show Steps p.tables e below (s₁.setTop (mkF m 12 #[.val (.ref y)] [])) _
    refine XS.aloadN X0.here hx rfl (hb hby d14_12) rfl rfl ?_
    show Steps p.tables e below (s₁.setTop (mkF m 13 #[.val (.ref y)] [(.ref y)])) _
    exact k
  obtain ⟨fs, hr, hrun, hended, hW, hsame⟩ := X0.leave (v := some (.ref y)) (fun h => by rw [Bd.returns] at h; cases h)
  refine ⟨_, _, w1 _ ?_, hrun, hended, _, _, rfl, ?_, ⟨_, rfl⟩, hW, hsame.mono (by decide) (by decide)⟩
  · jvm_step X0.here [X0.here.top, hx, (hb hby d14_13), X0.method', Bd.returns, Value.isRef, FieldType.isReference]
    first | (intro acts; rw [hr _ acts rfl rfl rfl]) | rw [hr _ _ rfl rfl rfl]
    exact Steps.refl _
  · show Q14 Z y  h0 n0 _ s₁.heap _
    rw [e0]
    exact ⟨rfl, N0, rfl⟩
theorem d15_0 : decode jdk_32_method_2_code 0 = .ok (.aload_n 0, 1) := by decide +kernel
theorem d15_1 : decode jdk_32_method_2_code 1 = .ok (.invokespecial 7, 3) := by decide +kernel
theorem d15_4 : decode jdk_32_method_2_code 4 = .ok (.aload_n 0, 1) := by decide +kernel
theorem d15_5 : decode jdk_32_method_2_code 5 = .ok (.aload_n 1, 1) := by decide +kernel
theorem d15_6 : decode jdk_32_method_2_code 6 = .ok (.putfield 13, 3) := by decide +kernel
theorem d15_9 : decode jdk_32_method_2_code 9 = .ok (.return_, 1) := by decide +kernel
theorem pn_java_util_Optional : plainName "java/util/Optional" = true := by first | (simp [plainName, overriddenIn]; done) | decide +kernel
theorem ef_15 (m : MethodId) (x0 : Addr) (x1 : Addr) : entryFrame m #[(.ref x0), (.ref x1)] 2 = mkF m 0 #[.val (.ref x0), .val (.ref x1)] [] := by first | (simp [entryFrame, mkF, argsToLocals, Value.category]; done) | rfl
def Q15 (Z : State) (a : Addr) (y : Addr) (h0 : Heap) (n0 : Nat) (v : Option Value) (h : Heap) (L : List Loc) : Prop := v = none ∧ Fr n0 L ∧ Keep h0 h [a] ∧ Fld Z h a "java/util/Optional" "value" "Ljava/lang/Object;" (.ref y)
set_option maxRecDepth 65536 in
set_option maxHeartbeats 40000000 in
theorem rm15 (l : Launch) (Z : State) (a0 : Array Value) (hw : ∀ d ∈ tables_1, d.before a0 Z = true) (ws : List Jvm.Cond) (a : Addr) (y : Addr) (h0 : Heap) (n0 : Nat) (O0 : Old Z n0 h0) (E_a : Exa Z h0 a "java/util/Optional") (F_o_a : Fld Z h0 a "java/util/Optional" "value" "Ljava/lang/Object;" .null) (g_a : n0 ≤ a) :
    MetFree l (⟨"java/util/Optional", "<init>", "(Ljava/lang/Object;)V"⟩ : MethodName) (head1 (Jvm.Cond.code (⟨"java/util/Optional", "<init>", "(Ljava/lang/Object;)V"⟩ : MethodName) jdk_32_method_2_code 2 none :: ws) ({ frames := 1, cells := 0, slots := 0, locals := 12 } : Room)) (fun aA uU => aA = #[(.ref a), (.ref y)] ∧ Z.Warmed39 uU.vm ∧ uU.heap = h0) (fun _ _ _ _ _ => True) (fun _ uU oO uU' => ∃ vV lL, oO = .returned vV ∧ Q15 Z a y  h0 n0 vV uU'.heap lL ∧ FrameEnd uU oO uU' lL ({ frames := 1, cells := 0, slots := 0, locals := 12 } : Room).cells ({ frames := 1, cells := 0, slots := 0, locals := 12 } : Room).slots) := by
  refine MetFree.of_bodySF (plainFor_of_name pn_java_util_Optional) hisR ?_
  intro p e s m args below meth c s₁ Bd hml0 hP hK
  obtain ⟨rfl, hZ, hh⟩ := hP
  have hx := Bd.exec
  have hby := Bd.bytes
  have hml : c.maxLocals = 2 := hml0
  have hown : s.vm.findClass "java/util/Optional" = some m.cls := findClass_of_methodNamed Bd.named
  have hnm := (name_of_methodNamed Bd.named Bd.method).1
  have X0 : Stand p l e ({ frames := 1, cells := 0, slots := 0, locals := 12 } : Room) s m #[(.ref a), (.ref y)] below meth c s₁ [] 0 0 := Stand.of_body Bd
  have e0 : s₁.heap = h0 := by rw [← hh, Bd.state]; rfl
  have N0 := Fr.nil n0
  have O := O0
  have K := Keep.refl h0 [a]
  have pre0 : ∀ t, Steps p.tables e below (s₁.setTop (mkF m 0 #[.val (.ref a), .val (.ref y)] [])) t → Steps p.tables e below (s₁.setTop (entryFrame m #[(.ref a), (.ref y)] 2)) t := fun t k => castTop (ef_15 m a y) k
  obtain ⟨T1, X1, e1, st1⟩ := initO X0 hx hZ hown (hw _ (List.mem_of_getElem? (i := 90) rfl)) (hw _ (List.mem_of_getElem? (i := 16) rfl)) (hw _ (List.mem_of_getElem? (i := 17) rfl)) e0 (g := (mkF m 1 #[.val (.ref a), .val (.ref y)] [(.ref a)])) rfl (by rw [hml]; rfl) rfl (hb hby d15_1) (by decide) (W := 0) (by show 2 * 0 + _ ≤ _; exact Nat.le_of_eq rfl) (by decide)
  obtain ⟨T2, h2, X2, e2, W2, st2⟩ := putF X1 hx hZ hown (host := "") (Or.inl (hw _ (List.mem_of_getElem? (i := 91) rfl))) Via.refl e1 F_o_a E_a (Or.inr ⟨(hw _ (List.mem_of_getElem? (i := 92) rfl)), rfl, hnm⟩) (hw _ (List.mem_of_getElem? (i := 81) rfl)) (ty := (.object "java/lang/Object")) (by decide) rfl rfl (g := (mkF m 6 #[.val (.ref a), .val (.ref y)] [(.ref y), (.ref a)])) rfl rfl (hb hby d15_6)
  have F_o_a := F_o_a.same W2
  have E_a := E_a.wr W2
  have O := O.wr W2 g_a
  have K := K.wr W2 (Or.inl (List.mem_of_getElem? (i := 0) rfl))
  have N2 := Fr.snoc X2 N0 g_a
  have w3 : ∀ t, Steps p.tables e below (T2.setTop (mkF m 9 #[.val (.ref a), .val (.ref y)] [])) t → Steps p.tables e below (s₁.setTop (entryFrame m #[(.ref a), (.ref y)] 2)) t := fun t k => by
    refine pre0 t ?_
    refine XS.aloadN X0.here hx rfl (hb hby d15_0) rfl rfl ?_
    show Steps p.tables e below (s₁.setTop (mkF m 1 #[.val (.ref a), .val (.ref y)] [(.ref a)])) _
    refine st1 _ ?_
    show Steps p.tables e below (T1.setTop (mkF m 4 #[.val (.ref a), .val (.ref y)] [])) _
    refine XS.aloadN X1.here hx rfl (hb hby d15_4) rfl rfl ?_
    show Steps p.tables e below (T1.setTop (mkF m 5 #[.val (.ref a), .val (.ref y)] [(.ref a)])) _
    refine XS.aloadN X1.here hx rfl (hb hby d15_5) rfl rfl ?_
    show Steps p.tables e below (T1.setTop (mkF m 6 #[.val (.ref a), .val (.ref y)] [(.ref y), (.ref a)])) _
    refine st2 _ ?_
    show Steps p.tables e below (T2.setTop (mkF m 9 #[.val (.ref a), .val (.ref y)] [])) _
    exact k
  obtain ⟨fs, hr, hrun, hended, hW, hsame⟩ := X2.leave (v := none) (fun _ => rfl)
  refine ⟨_, _, w3 _ ?_, hrun, hended, _, _, rfl, ?_, ⟨_, rfl⟩, hW, hsame.mono (by decide) (by decide)⟩
  · exact X2.returnOut hx Bd.returns (hb hby d15_9) hr
  · show Q15 Z a y  h0 n0 _ T2.heap _
    rw [e2]
    exact ⟨rfl, N2, K, F_o_a⟩
theorem d13_0 : decode jdk_32_method_3_code 0 = .ok (.new 2, 3) := by decide +kernel
theorem d13_3 : decode jdk_32_method_3_code 3 = .ok (.dup, 1) := by decide +kernel
theorem d13_4 : decode jdk_32_method_3_code 4 = .ok (.aload_n 0, 1) := by decide +kernel
theorem d13_5 : decode jdk_32_method_3_code 5 = .ok (.invokestatic 17, 3) := by decide +kernel
theorem pd__40Ljava_47lang_47Object_59_41Ljava_47lang_47Object_59 : parseMethodDescriptor "(Ljava/lang/Object;)Ljava/lang/Object;" = some ⟨[(.object "java/lang/Object")], some (.object "java/lang/Object")⟩ := by decide +kernel
theorem d13_8 : decode jdk_32_method_3_code 8 = .ok (.invokespecial 23, 3) := by decide +kernel
theorem pd__40Ljava_47lang_47Object_59_41V : parseMethodDescriptor "(Ljava/lang/Object;)V" = some ⟨[(.object "java/lang/Object")], none⟩ := by decide +kernel
theorem d13_11 : decode jdk_32_method_3_code 11 = .ok (.areturn, 1) := by decide +kernel
theorem ef_13 (m : MethodId) (x0 : Addr) : entryFrame m #[(.ref x0)] 1 = mkF m 0 #[.val (.ref x0)] [] := by first | (simp [entryFrame, mkF, argsToLocals, Value.category]; done) | rfl
def Q13 (Z : State) (y : Addr) (h0 : Heap) (n0 : Nat) (v : Option Value) (h : Heap) (L : List Loc) : Prop := ∃ z : Addr, v = some (.ref z) ∧ Fr n0 L ∧ Keep h0 h [] ∧ Exa Z h z "java/util/Optional" ∧ Fld Z h z "java/util/Optional" "value" "Ljava/lang/Object;" (.ref y)
set_option maxRecDepth 65536 in
set_option maxHeartbeats 40000000 in
theorem rm13 (l : Launch) (Z : State) (a0 : Array Value) (hw : ∀ d ∈ tables_1, d.before a0 Z = true) (ws : List Jvm.Cond) (y : Addr) (h0 : Heap) (n0 : Nat) (O0 : Old Z n0 h0) :
    MetFree l (⟨"java/util/Optional", "of", "(Ljava/lang/Object;)Ljava/util/Optional;"⟩ : MethodName) (head1 (Jvm.Cond.code (⟨"java/util/Optional", "of", "(Ljava/lang/Object;)Ljava/util/Optional;"⟩ : MethodName) jdk_32_method_3_code 1 (some (.object "java/util/Optional")) :: ws) ({ frames := 2, cells := 1, slots := 1, locals := 26 } : Room)) (fun aA uU => aA = #[(.ref y)] ∧ Z.Warmed39 uU.vm ∧ uU.heap = h0) (fun _ _ _ _ _ => True) (fun _ uU oO uU' => ∃ vV lL, oO = .returned vV ∧ Q13 Z y  h0 n0 vV uU'.heap lL ∧ FrameEnd uU oO uU' lL ({ frames := 2, cells := 1, slots := 1, locals := 26 } : Room).cells ({ frames := 2, cells := 1, slots := 1, locals := 26 } : Room).slots) := by
  refine MetFree.of_bodySF (plainFor_of_name pn_java_util_Optional) hisR ?_
  intro p e s m args below meth c s₁ Bd hml0 hP hK
  obtain ⟨rfl, hZ, hh⟩ := hP
  have hx := Bd.exec
  have hby := Bd.bytes
  have hml : c.maxLocals = 1 := hml0
  have hown : s.vm.findClass "java/util/Optional" = some m.cls := findClass_of_methodNamed Bd.named
  have hnm := (name_of_methodNamed Bd.named Bd.method).1
  have X0 : Stand p l e ({ frames := 2, cells := 1, slots := 1, locals := 26 } : Room) s m #[(.ref y)] below meth c s₁ [] 0 0 := Stand.of_body Bd
  have e0 : s₁.heap = h0 := by rw [← hh, Bd.state]; rfl
  have N0 := Fr.nil n0
  have O := O0
  have K := Keep.refl h0 []
  have pre0 : ∀ t, Steps p.tables e below (s₁.setTop (mkF m 0 #[.val (.ref y)] [])) t → Steps p.tables e below (s₁.setTop (entryFrame m #[(.ref y)] 1)) t := fun t k => castTop (ef_13 m y) k
  obtain ⟨T1, h1, X1, e1, E1, A1, D1, -, st1⟩ := newO X0 hx hZ hown (hw _ (List.mem_of_getElem? (i := 80) rfl)) (hw _ (List.mem_of_getElem? (i := 81) rfl)) (hw _ (List.mem_of_getElem? (i := 78) rfl)) e0 (g := (mkF m 0 #[.val (.ref y)] [])) rfl (hb hby d13_0) (by decide) (by decide)
  obtain ⟨b1, gq1⟩ : ∃ z, z = Array.size h0 := ⟨_, rfl⟩
  rw [← gq1] at A1 D1 st1
  have g_b1 : n0 ≤ b1 := Nat.le_trans (O.1 ▸ O.2.1) (Nat.le_of_eq gq1.symm)
  have z_b1 : h0.size ≤ b1 := Nat.le_trans K.1 (Nat.le_of_eq gq1.symm)
  have O := O.ext E1
  have K := K.ext E1
  have F_value_b1 : Fld Z h1 b1 "java/util/Optional" "value" "Ljava/lang/Object;" .null := D1 (Or.inr (hw _ (List.mem_of_getElem? (i := 92) rfl))) (ty := (.object "java/lang/Object")) (by decide)
  obtain ⟨_, _, ⟨T2, L2, k2, n2⟩, -, X2, ⟨Lc2, hQ2, l2, y2, z2⟩, st2⟩ := Jvm.LawKit.callS X1 hx (y := (⟨"java/util/Objects", "requireNonNull", "(Ljava/lang/Object;)Ljava/lang/Object;"⟩ : MethodName)) hown (mvT hZ (hw _ (List.mem_of_getElem? (i := 82) rfl))) (mvT hZ (hw _ (List.mem_of_getElem? (i := 83) rfl))) (mvT hZ (hw _ (List.mem_of_getElem? (i := 84) rfl))) (mvT hZ (hw _ (List.mem_of_getElem? (i := 85) rfl))) (by decide) (backOf (W := 2) (rm14 l Z a0 hw [] y h1 n0 O ) hZ (hw _ (List.mem_of_getElem? (i := 85) rfl)) (hw _ (List.mem_of_getElem? (i := 84) rfl)) (by decide) (by decide)) (g := (mkF m 5 #[.val (.ref y)] [(.ref y), (.ref b1), (.ref b1)])) rfl (by rw [hml]; rfl) (argsL := [(.ref y)]) (rest := [(.ref b1), (.ref b1)]) (lenOf pd__40Ljava_47lang_47Object_59_41Ljava_47lang_47Object_59 rfl) rfl (by show 2 * 0 + _ ≤ _; exact Nat.le_of_eq rfl) (hb hby d13_5) (fun _ _ => ⟨rfl, e1, (by decide : 1 + 0 ≤ _), (by decide : 1 + 0 ≤ _)⟩)
  dsimp only [Pt.U, Pt.locs, Pt.cells, Pt.slots] at X2 l2 y2 z2 st2 hQ2
  subst l2 y2 z2
  obtain ⟨rfl, N2q, eh2⟩ := hQ2
  have N2 := Fr.app N0 N2q
  obtain ⟨_, _, ⟨T3, L3, k3, n3⟩, -, X3, ⟨Lc3, hQ3, l3, y3, z3⟩, st3⟩ := X2.specialBack hx (y := (⟨"java/util/Optional", "<init>", "(Ljava/lang/Object;)V"⟩ : MethodName)) rfl hown (mvT hZ (hw _ (List.mem_of_getElem? (i := 86) rfl))) (mvT hZ (hw _ (List.mem_of_getElem? (i := 87) rfl))) (mvT hZ (hw _ (List.mem_of_getElem? (i := 89) rfl))) (by decide) (backOf (W := 1) (rm15 l Z a0 hw [] b1 y h1 n0 O A1 F_value_b1 g_b1) hZ (hw _ (List.mem_of_getElem? (i := 89) rfl)) (hw _ (List.mem_of_getElem? (i := 78) rfl)) (by decide) (by decide)) (g := (mkF m 8 #[.val (.ref y)] [(.ref y), (.ref b1), (.ref b1)])) rfl (by rw [hml]; rfl) (Steps.refl _) (a := b1) (argsL := [(.ref y)]) (rest := [(.ref b1)]) (lenOf pd__40Ljava_47lang_47Object_59_41V rfl) rfl (by show 2 * 0 + _ ≤ _; exact Nat.le_of_eq rfl) (hb hby d13_8) (fun _ _ => ⟨rfl, eh2, (by decide : 1 + 0 ≤ _), (by decide : 1 + 0 ≤ _)⟩)
  dsimp only [Pt.U, Pt.locs, Pt.cells, Pt.slots] at X3 l3 y3 z3 st3 hQ3
  subst l3 y3 z3
  obtain ⟨rfl, N3q, K3, F_o_a_c3⟩ := hQ3
  have N3 := Fr.app N2 N3q
  have A1 := A1.keep K3
  have O := O.keep K3 (allS g_b1 all0)
  have K := K.trans K3 (allS (Or.inr z_b1) all0)
  have w4 : ∀ t, Steps p.tables e below (T3.setTop (mkF m 11 #[.val (.ref y)] [(.ref b1)])) t → Steps p.tables e below (s₁.setTop (entryFrame m #[(.ref y)] 1)) t := fun t k => by
    refine pre0 t ?_
    refine st1 _ ?_
    show Steps p.tables e below (T1.setTop (mkF m 3 #[.val (.ref y)] [(.ref b1)])) _
    refine XS.dup X1.here hx rfl (hb hby d13_3) rfl rfl ?_
    show Steps p.tables e below (T1.setTop (mkF m 4 #[.val (.ref y)] [(.ref b1), (.ref b1)])) _
    refine XS.aloadN X1.here hx rfl (hb hby d13_4) rfl rfl ?_
    show Steps p.tables e below (T1.setTop (mkF m 5 #[.val (.ref y)] [(.ref y), (.ref b1), (.ref b1)])) _
    refine st2 _ ?_
    show Steps p.tables e below (T2.setTop (mkF m 8 #[.val (.ref y)] [(.ref y), (.ref b1), (.ref b1)])) _
    refine st3.trans ?_
    show Steps p.tables e below (T3.setTop (mkF m 11 #[.val (.ref y)] [(.ref b1)])) _
    exact k
  obtain ⟨fs, hr, hrun, hended, hW, hsame⟩ := X3.leave (v := some (.ref b1)) (fun h => by rw [Bd.returns] at h; cases h)
  refine ⟨_, _, w4 _ ?_, hrun, hended, _, _, rfl, ?_, ⟨_, rfl⟩, hW, hsame.mono (by decide) (by decide)⟩
  · jvm_step X3.here [X3.here.top, hx, (hb hby d13_11), X3.method', Bd.returns, Value.isRef, FieldType.isReference]
    first | (intro acts; rw [hr _ acts rfl rfl rfl]) | rw [hr _ _ rfl rfl rfl]
    exact Steps.refl _
  · show Q13 Z y  h0 n0 _ T3.heap _
    exact ⟨b1, rfl, N3, K, A1, F_o_a_c3⟩
theorem d18_0 : decode jdk_32_method_1_code 0 = .ok (.getstatic 1, 3) := by decide +kernel
theorem d18_3 : decode jdk_32_method_1_code 3 = .ok (.astore_n 0, 1) := by decide +kernel
theorem d18_4 : decode jdk_32_method_1_code 4 = .ok (.aload_n 0, 1) := by decide +kernel
theorem d18_5 : decode jdk_32_method_1_code 5 = .ok (.areturn, 1) := by decide +kernel
theorem ef_18 (m : MethodId) : entryFrame m #[] 1 = mkF m 0 #[.unset] [] := by first | (simp [entryFrame, mkF, argsToLocals, Value.category]; done) | rfl
def Q18 (Z : State) (s_EMPTY : Addr) (h0 : Heap) (n0 : Nat) (v : Option Value) (h : Heap) (L : List Loc) : Prop := v = some (.ref s_EMPTY) ∧ Fr n0 L ∧ h = h0
set_option maxRecDepth 65536 in
set_option maxHeartbeats 40000000 in
theorem rm18 (l : Launch) (Z : State) (a0 : Array Value) (hw : ∀ d ∈ tables_1, d.before a0 Z = true) (ws : List Jvm.Cond) (s_EMPTY : Addr) (h0 : Heap) (n0 : Nat) (O0 : Old Z n0 h0) (S_s_EMPTY : Sta Z Z.heap "java/util/Optional" "EMPTY" "Ljava/util/Optional;" (.ref s_EMPTY)) :
    MetFree l (⟨"java/util/Optional", "empty", "()Ljava/util/Optional;"⟩ : MethodName) (head1 (Jvm.Cond.code (⟨"java/util/Optional", "empty", "()Ljava/util/Optional;"⟩ : MethodName) jdk_32_method_1_code 1 (some (.object "java/util/Optional")) :: ws) ({ frames := 0, cells := 0, slots := 0, locals := 0 } : Room)) (fun aA uU => aA = #[] ∧ Z.Warmed39 uU.vm ∧ uU.heap = h0) (fun _ _ _ _ _ => True) (fun _ uU oO uU' => ∃ vV lL, oO = .returned vV ∧ Q18 Z  s_EMPTY h0 n0 vV uU'.heap lL ∧ FrameEnd uU oO uU' lL ({ frames := 0, cells := 0, slots := 0, locals := 0 } : Room).cells ({ frames := 0, cells := 0, slots := 0, locals := 0 } : Room).slots) := by
  refine MetFree.of_bodySF (plainFor_of_name pn_java_util_Optional) hisR ?_
  intro p e s m args below meth c s₁ Bd hml0 hP hK
  obtain ⟨rfl, hZ, hh⟩ := hP
  have hx := Bd.exec
  have hby := Bd.bytes
  have hml : c.maxLocals = 1 := hml0
  have hown : s.vm.findClass "java/util/Optional" = some m.cls := findClass_of_methodNamed Bd.named
  have hnm := (name_of_methodNamed Bd.named Bd.method).1
  have X0 : Stand p l e ({ frames := 0, cells := 0, slots := 0, locals := 0 } : Room) s m #[] below meth c s₁ [] 0 0 := Stand.of_body Bd
  have e0 : s₁.heap = h0 := by rw [← hh, Bd.state]; rfl
  have N0 := Fr.nil n0
  have O := O0
  have pre0 : ∀ t, Steps p.tables e below (s₁.setTop (mkF m 0 #[.unset] [])) t → Steps p.tables e below (s₁.setTop (entryFrame m #[] 1)) t := fun t k => castTop (ef_18 m ) k
  obtain ⟨T1, X1, e1, st1⟩ := getS2 X0 hx hZ hown (host := "") (Or.inl (hw _ (List.mem_of_getElem? (i := 108) rfl))) Via.refl e0 (S_s_EMPTY.ext O.2) (g := (mkF m 0 #[.unset] [])) rfl (hb hby d18_0)
  have w2 : ∀ t, Steps p.tables e below (T1.setTop (mkF m 5 #[.val (.ref s_EMPTY)] [(.ref s_EMPTY)])) t → Steps p.tables e below (s₁.setTop (entryFrame m #[] 1)) t := fun t k => by
    refine pre0 t ?_
    refine st1 _ ?_
    show Steps p.tables e below (T1.setTop (mkF m 3 #[.unset] [(.ref s_EMPTY)])) _
    refine XS.astoreN X1.here hx rfl (hb hby d18_3) rfl rfl (l' := #[.val (.ref s_EMPTY)]) rfl ?_
    show Steps p.tables e below (T1.setTop (mkF m 4 #[.val (.ref s_EMPTY)] [])) _
    refine XS.aloadN X1.here hx rfl (hb hby d18_4) rfl rfl ?_
    show Steps p.tables e below (T1.setTop (mkF m 5 #[.val (.ref s_EMPTY)] [(.ref s_EMPTY)])) _
    exact k
  obtain ⟨fs, hr, hrun, hended, hW, hsame⟩ := X1.leave (v := some (.ref s_EMPTY)) (fun h => by rw [Bd.returns] at h; cases h)
  refine ⟨_, _, w2 _ ?_, hrun, hended, _, _, rfl, ?_, ⟨_, rfl⟩, hW, hsame.mono (by decide) (by decide)⟩
  · jvm_step X1.here [X1.here.top, hx, (hb hby d18_5), X1.method', Bd.returns, Value.isRef, FieldType.isReference]
    first | (intro acts; rw [hr _ acts rfl rfl rfl]) | rw [hr _ _ rfl rfl rfl]
    exact Steps.refl _
  · show Q18 Z  s_EMPTY h0 n0 _ T1.heap _
    rw [e1]
    exact ⟨rfl, N0, rfl⟩
theorem d16_0 : decode jdk_32_method_6_code 0 = .ok (.aload_n 0, 1) := by decide +kernel
theorem d16_1 : decode jdk_32_method_6_code 1 = .ok (.getfield 13, 3) := by decide +kernel
theorem d16_4 : decode jdk_32_method_6_code 4 = .ok (.ifnull 7, 3) := by decide +kernel
theorem d16_7 : decode jdk_32_method_6_code 7 = .ok (.iconst 1, 1) := by decide +kernel
theorem d16_8 : decode jdk_32_method_6_code 8 = .ok (.goto 4, 3) := by decide +kernel
theorem d16_12 : decode jdk_32_method_6_code 12 = .ok (.ireturn, 1) := by decide +kernel
theorem ef_16_y (m : MethodId) (x0 : Addr) : entryFrame m #[(.ref x0)] 1 = mkF m 0 #[.val (.ref x0)] [] := by first | (simp [entryFrame, mkF, argsToLocals, Value.category]; done) | rfl
def Q16_y (Z : State) (a : Addr) (y : Addr) (h0 : Heap) (n0 : Nat) (v : Option Value) (h : Heap) (L : List Loc) : Prop := v = some (.int (1 : Int32)) ∧ Fr n0 L ∧ h = h0
set_option maxRecDepth 65536 in
set_option maxHeartbeats 40000000 in
theorem rm16_y (l : Launch) (Z : State) (a0 : Array Value) (hw : ∀ d ∈ tables_1, d.before a0 Z = true) (ws : List Jvm.Cond) (a : Addr) (y : Addr) (h0 : Heap) (n0 : Nat) (O0 : Old Z n0 h0) (F_o_a : Fld Z h0 a "java/util/Optional" "value" "Ljava/lang/Object;" (.ref y)) :
    MetFree l (⟨"java/util/Optional", "isPresent", "()Z"⟩ : MethodName) (head1 (Jvm.Cond.code (⟨"java/util/Optional", "isPresent", "()Z"⟩ : MethodName) jdk_32_method_6_code 1 (some .boolean) :: ws) ({ frames := 0, cells := 0, slots := 0, locals := 0 } : Room)) (fun aA uU => aA = #[(.ref a)] ∧ Z.Warmed39 uU.vm ∧ uU.heap = h0) (fun _ _ _ _ _ => True) (fun _ uU oO uU' => ∃ vV lL, oO = .returned vV ∧ Q16_y Z a y  h0 n0 vV uU'.heap lL ∧ FrameEnd uU oO uU' lL ({ frames := 0, cells := 0, slots := 0, locals := 0 } : Room).cells ({ frames := 0, cells := 0, slots := 0, locals := 0 } : Room).slots) := by
  refine MetFree.of_bodySF (plainFor_of_name pn_java_util_Optional) hisR ?_
  intro p e s m args below meth c s₁ Bd hml0 hP hK
  obtain ⟨rfl, hZ, hh⟩ := hP
  have hx := Bd.exec
  have hby := Bd.bytes
  have hml : c.maxLocals = 1 := hml0
  have hown : s.vm.findClass "java/util/Optional" = some m.cls := findClass_of_methodNamed Bd.named
  have hnm := (name_of_methodNamed Bd.named Bd.method).1
  have X0 : Stand p l e ({ frames := 0, cells := 0, slots := 0, locals := 0 } : Room) s m #[(.ref a)] below meth c s₁ [] 0 0 := Stand.of_body Bd
  have e0 : s₁.heap = h0 := by rw [← hh, Bd.state]; rfl
  have N0 := Fr.nil n0
  have O := O0
  have pre0 : ∀ t, Steps p.tables e below (s₁.setTop (mkF m 0 #[.val (.ref a)] [])) t → Steps p.tables e below (s₁.setTop (entryFrame m #[(.ref a)] 1)) t := fun t k => castTop (ef_16_y m a) k
  obtain ⟨T1, X1, e1, st1⟩ := getF X0 hx hZ hown (host := "") (Or.inl (hw _ (List.mem_of_getElem? (i := 91) rfl))) Via.refl e0 F_o_a (g := (mkF m 1 #[.val (.ref a)] [(.ref a)])) rfl rfl (hb hby d16_1)
  have w2 : ∀ t, Steps p.tables e below (T1.setTop (mkF m 12 #[.val (.ref a)] [(.int (1 : Int32))])) t → Steps p.tables e below (s₁.setTop (entryFrame m #[(.ref a)] 1)) t := fun t k => by
    refine pre0 t ?_
    refine XS.aloadN X0.here hx rfl (hb hby d16_0) rfl rfl ?_
    show Steps p.tables e below (s₁.setTop (mkF m 1 #[.val (.ref a)] [(.ref a)])) _
    refine st1 _ ?_
    show Steps p.tables e below (T1.setTop (mkF m 4 #[.val (.ref a)] [(.ref y)])) _
    refine XS.ifnullNo X1.here hx rfl (hb hby d16_4) rfl ?_
    show Steps p.tables e below (T1.setTop (mkF m 7 #[.val (.ref a)] [])) _
    refine XS.iconst X1.here hx rfl (hb hby d16_7) ?_
    show Steps p.tables e below (T1.setTop (mkF m 8 #[.val (.ref a)] [(.int (1 : Int32))])) _
    refine XS.goto X1.here hx rfl (pc0 := 8) (pc' := 12) rfl (hb hby d16_8) (by decide) (by decide) ?_
    show Steps p.tables e below (T1.setTop (mkF m 12 #[.val (.ref a)] [(.int (1 : Int32))])) _
    exact k
  obtain ⟨fs, hr, hrun, hended, hW, hsame⟩ := X1.leave (v := some (.int (1 : Int32))) (fun h => by rw [Bd.returns] at h; cases h)
  refine ⟨_, _, w2 _ ?_, hrun, hended, _, _, rfl, ?_, ⟨_, rfl⟩, hW, hsame.mono (by decide) (by decide)⟩
  · exact retN X1 hx (t := .boolean) Bd.returns (by simp) (hb hby d16_12) hr
  · show Q16_y Z a y  h0 n0 _ T1.heap _
    rw [e1]
    exact ⟨rfl, N0, rfl⟩
theorem d16_11 : decode jdk_32_method_6_code 11 = .ok (.iconst 0, 1) := by decide +kernel
theorem ef_16_n (m : MethodId) (x0 : Addr) : entryFrame m #[(.ref x0)] 1 = mkF m 0 #[.val (.ref x0)] [] := by first | (simp [entryFrame, mkF, argsToLocals, Value.category]; done) | rfl
def Q16_n (Z : State) (a : Addr) (h0 : Heap) (n0 : Nat) (v : Option Value) (h : Heap) (L : List Loc) : Prop := v = some (.int (0 : Int32)) ∧ Fr n0 L ∧ h = h0
set_option maxRecDepth 65536 in
set_option maxHeartbeats 40000000 in
theorem rm16_n (l : Launch) (Z : State) (a0 : Array Value) (hw : ∀ d ∈ tables_1, d.before a0 Z = true) (ws : List Jvm.Cond) (a : Addr) (h0 : Heap) (n0 : Nat) (O0 : Old Z n0 h0) (F_o_a : Fld Z h0 a "java/util/Optional" "value" "Ljava/lang/Object;" .null) :
    MetFree l (⟨"java/util/Optional", "isPresent", "()Z"⟩ : MethodName) (head1 (Jvm.Cond.code (⟨"java/util/Optional", "isPresent", "()Z"⟩ : MethodName) jdk_32_method_6_code 1 (some .boolean) :: ws) ({ frames := 0, cells := 0, slots := 0, locals := 0 } : Room)) (fun aA uU => aA = #[(.ref a)] ∧ Z.Warmed39 uU.vm ∧ uU.heap = h0) (fun _ _ _ _ _ => True) (fun _ uU oO uU' => ∃ vV lL, oO = .returned vV ∧ Q16_n Z a  h0 n0 vV uU'.heap lL ∧ FrameEnd uU oO uU' lL ({ frames := 0, cells := 0, slots := 0, locals := 0 } : Room).cells ({ frames := 0, cells := 0, slots := 0, locals := 0 } : Room).slots) := by
  refine MetFree.of_bodySF (plainFor_of_name pn_java_util_Optional) hisR ?_
  intro p e s m args below meth c s₁ Bd hml0 hP hK
  obtain ⟨rfl, hZ, hh⟩ := hP
  have hx := Bd.exec
  have hby := Bd.bytes
  have hml : c.maxLocals = 1 := hml0
  have hown : s.vm.findClass "java/util/Optional" = some m.cls := findClass_of_methodNamed Bd.named
  have hnm := (name_of_methodNamed Bd.named Bd.method).1
  have X0 : Stand p l e ({ frames := 0, cells := 0, slots := 0, locals := 0 } : Room) s m #[(.ref a)] below meth c s₁ [] 0 0 := Stand.of_body Bd
  have e0 : s₁.heap = h0 := by rw [← hh, Bd.state]; rfl
  have N0 := Fr.nil n0
  have O := O0
  have pre0 : ∀ t, Steps p.tables e below (s₁.setTop (mkF m 0 #[.val (.ref a)] [])) t → Steps p.tables e below (s₁.setTop (entryFrame m #[(.ref a)] 1)) t := fun t k => castTop (ef_16_n m a) k
  obtain ⟨T1, X1, e1, st1⟩ := getF X0 hx hZ hown (host := "") (Or.inl (hw _ (List.mem_of_getElem? (i := 91) rfl))) Via.refl e0 F_o_a (g := (mkF m 1 #[.val (.ref a)] [(.ref a)])) rfl rfl (hb hby d16_1)
  have w2 : ∀ t, Steps p.tables e below (T1.setTop (mkF m 12 #[.val (.ref a)] [(.int (0 : Int32))])) t → Steps p.tables e below (s₁.setTop (entryFrame m #[(.ref a)] 1)) t := fun t k => by
    refine pre0 t ?_
    refine XS.aloadN X0.here hx rfl (hb hby d16_0) rfl rfl ?_
    show Steps p.tables e below (s₁.setTop (mkF m 1 #[.val (.ref a)] [(.ref a)])) _
    refine st1 _ ?_
    show Steps p.tables e below (T1.setTop (mkF m 4 #[.val (.ref a)] [.null])) _
    refine XS.ifnullYes X1.here hx rfl (pc0 := 4) (pc' := 11) rfl (hb hby d16_4) rfl (by decide) (by decide) ?_
    show Steps p.tables e below (T1.setTop (mkF m 11 #[.val (.ref a)] [])) _
    refine XS.iconst X1.here hx rfl (hb hby d16_11) ?_
    show Steps p.tables e below (T1.setTop (mkF m 12 #[.val (.ref a)] [(.int (0 : Int32))])) _
    exact k
  obtain ⟨fs, hr, hrun, hended, hW, hsame⟩ := X1.leave (v := some (.int (0 : Int32))) (fun h => by rw [Bd.returns] at h; cases h)
  refine ⟨_, _, w2 _ ?_, hrun, hended, _, _, rfl, ?_, ⟨_, rfl⟩, hW, hsame.mono (by decide) (by decide)⟩
  · exact retN X1 hx (t := .boolean) Bd.returns (by simp) (hb hby d16_12) hr
  · show Q16_n Z a  h0 n0 _ T1.heap _
    rw [e1]
    exact ⟨rfl, N0, rfl⟩
theorem d17_0 : decode jdk_32_method_5_code 0 = .ok (.aload_n 0, 1) := by decide +kernel
theorem d17_1 : decode jdk_32_method_5_code 1 = .ok (.getfield 13, 3) := by decide +kernel
theorem d17_4 : decode jdk_32_method_5_code 4 = .ok (.ifnonnull 13, 3) := by decide +kernel
theorem d17_17 : decode jdk_32_method_5_code 17 = .ok (.aload_n 0, 1) := by decide +kernel
theorem d17_18 : decode jdk_32_method_5_code 18 = .ok (.getfield 13, 3) := by decide +kernel
theorem d17_21 : decode jdk_32_method_5_code 21 = .ok (.areturn, 1) := by decide +kernel
theorem ef_17 (m : MethodId) (x0 : Addr) : entryFrame m #[(.ref x0)] 1 = mkF m 0 #[.val (.ref x0)] [] := by first | (simp [entryFrame, mkF, argsToLocals, Value.category]; done) | rfl
def Q17 (Z : State) (a : Addr) (y : Addr) (h0 : Heap) (n0 : Nat) (v : Option Value) (h : Heap) (L : List Loc) : Prop := v = some (.ref y) ∧ Fr n0 L ∧ h = h0
set_option maxRecDepth 65536 in
set_option maxHeartbeats 40000000 in
theorem rm17 (l : Launch) (Z : State) (a0 : Array Value) (hw : ∀ d ∈ tables_1, d.before a0 Z = true) (ws : List Jvm.Cond) (a : Addr) (y : Addr) (h0 : Heap) (n0 : Nat) (O0 : Old Z n0 h0) (F_o_a : Fld Z h0 a "java/util/Optional" "value" "Ljava/lang/Object;" (.ref y)) :
    MetFree l (⟨"java/util/Optional", "get", "()Ljava/lang/Object;"⟩ : MethodName) (head1 (Jvm.Cond.code (⟨"java/util/Optional", "get", "()Ljava/lang/Object;"⟩ : MethodName) jdk_32_method_5_code 1 (some (.object "java/lang/Object")) :: ws) ({ frames := 0, cells := 0, slots := 0, locals := 0 } : Room)) (fun aA uU => aA = #[(.ref a)] ∧ Z.Warmed39 uU.vm ∧ uU.heap = h0) (fun _ _ _ _ _ => True) (fun _ uU oO uU' => ∃ vV lL, oO = .returned vV ∧ Q17 Z a y  h0 n0 vV uU'.heap lL ∧ FrameEnd uU oO uU' lL ({ frames := 0, cells := 0, slots := 0, locals := 0 } : Room).cells ({ frames := 0, cells := 0, slots := 0, locals := 0 } : Room).slots) := by
  refine MetFree.of_bodySF (plainFor_of_name pn_java_util_Optional) hisR ?_
  intro p e s m args below meth c s₁ Bd hml0 hP hK
  obtain ⟨rfl, hZ, hh⟩ := hP
  have hx := Bd.exec
  have hby := Bd.bytes
  have hml : c.maxLocals = 1 := hml0
  have hown : s.vm.findClass "java/util/Optional" = some m.cls := findClass_of_methodNamed Bd.named
  have hnm := (name_of_methodNamed Bd.named Bd.method).1
  have X0 : Stand p l e ({ frames := 0, cells := 0, slots := 0, locals := 0 } : Room) s m #[(.ref a)] below meth c s₁ [] 0 0 := Stand.of_body Bd
  have e0 : s₁.heap = h0 := by rw [← hh, Bd.state]; rfl
  have N0 := Fr.nil n0
  have O := O0
  have pre0 : ∀ t, Steps p.tables e below (s₁.setTop (mkF m 0 #[.val (.ref a)] [])) t → Steps p.tables e below (s₁.setTop (entryFrame m #[(.ref a)] 1)) t := fun t k => castTop (ef_17 m a) k
  obtain ⟨T1, X1, e1, st1⟩ := getF X0 hx hZ hown (host := "") (Or.inl (hw _ (List.mem_of_getElem? (i := 91) rfl))) Via.refl e0 F_o_a (g := (mkF m 1 #[.val (.ref a)] [(.ref a)])) rfl rfl (hb hby d17_1)
  obtain ⟨T2, X2, e2, st2⟩ := getF X1 hx hZ hown (host := "") (Or.inl (hw _ (List.mem_of_getElem? (i := 91) rfl))) Via.refl e1 F_o_a (g := (mkF m 18 #[.val (.ref a)] [(.ref a)])) rfl rfl (hb hby d17_18)
  have w3 : ∀ t, Steps p.tables e below (T2.setTop (mkF m 21 #[.val (.ref a)] [(.ref y)])) t → Steps p.tables e below (s₁.setTop (entryFrame m #[(.ref a)] 1)) t := fun t k => by
    refine pre0 t ?_
    refine XS.aloadN X0.here hx rfl (hb hby d17_0) rfl rfl ?_
    show Steps p.tables e below (s₁.setTop (mkF m 1 #[.val (.ref a)] [(.ref a)])) _
    refine st1 _ ?_
    show Steps p.tables e below (T1.setTop (mkF m 4 #[.val (.ref a)] [(.ref y)])) _
    refine XS.ifnonnullYes X1.here hx rfl (pc0 := 4) (pc' := 17) rfl (hb hby d17_4) rfl (by decide) (by decide) ?_
    show Steps p.tables e below (T1.setTop (mkF m 17 #[.val (.ref a)] [])) _
    refine XS.aloadN X1.here hx rfl (hb hby d17_17) rfl rfl ?_
    show Steps p.tables e below (T1.setTop (mkF m 18 #[.val (.ref a)] [(.ref a)])) _
    refine st2 _ ?_
    show Steps p.tables e below (T2.setTop (mkF m 21 #[.val (.ref a)] [(.ref y)])) _
    exact k
  obtain ⟨fs, hr, hrun, hended, hW, hsame⟩ := X2.leave (v := some (.ref y)) (fun h => by rw [Bd.returns] at h; cases h)
  refine ⟨_, _, w3 _ ?_, hrun, hended, _, _, rfl, ?_, ⟨_, rfl⟩, hW, hsame.mono (by decide) (by decide)⟩
  · jvm_step X2.here [X2.here.top, hx, (hb hby d17_21), X2.method', Bd.returns, Value.isRef, FieldType.isReference]
    first | (intro acts; rw [hr _ acts rfl rfl rfl]) | rw [hr _ _ rfl rfl rfl]
    exact Steps.refl _
  · show Q17 Z a y  h0 n0 _ T2.heap _
    rw [e2]
    exact ⟨rfl, N0, rfl⟩
theorem d11_0 : decode prog_6_method_4_code 0 = .ok (.invokestatic 36, 3) := by decide +kernel
theorem pd__40_41_91Lcom_47example_47rolling_ledger_47rollingledger_47model_47CaptureKind_59 : parseMethodDescriptor "()[Lcom/example/rolling_ledger/rollingledger/model/CaptureKind;" = some ⟨[], some (.array (.object "com/example/rolling_ledger/rollingledger/model/CaptureKind"))⟩ := by decide +kernel
theorem d11_3 : decode prog_6_method_4_code 3 = .ok (.astore_n 1, 1) := by decide +kernel
theorem d11_4 : decode prog_6_method_4_code 4 = .ok (.aload_n 1, 1) := by decide +kernel
theorem d11_5 : decode prog_6_method_4_code 5 = .ok (.arraylength, 1) := by decide +kernel
theorem d11_6 : decode prog_6_method_4_code 6 = .ok (.istore_n 2, 1) := by decide +kernel
theorem d11_7 : decode prog_6_method_4_code 7 = .ok (.iconst 0, 1) := by decide +kernel
theorem d11_8 : decode prog_6_method_4_code 8 = .ok (.istore_n 3, 1) := by decide +kernel
theorem d11_9 : decode prog_6_method_4_code 9 = .ok (.iload_n 3, 1) := by decide +kernel
theorem d11_10 : decode prog_6_method_4_code 10 = .ok (.iload_n 2, 1) := by decide +kernel
theorem d11_11 : decode prog_6_method_4_code 11 = .ok (.if_icmp .ge 32, 3) := by decide +kernel
theorem d11_14 : decode prog_6_method_4_code 14 = .ok (.aload_n 1, 1) := by decide +kernel
theorem d11_15 : decode prog_6_method_4_code 15 = .ok (.iload_n 3, 1) := by decide +kernel
theorem d11_16 : decode prog_6_method_4_code 16 = .ok (.aaload, 1) := by decide +kernel
theorem d11_17 : decode prog_6_method_4_code 17 = .ok (.astore 4, 2) := by decide +kernel
theorem d11_19 : decode prog_6_method_4_code 19 = .ok (.aload 4, 2) := by decide +kernel
theorem d11_21 : decode prog_6_method_4_code 21 = .ok (.getfield 32, 3) := by decide +kernel
theorem d11_24 : decode prog_6_method_4_code 24 = .ok (.aload_n 0, 1) := by decide +kernel
theorem d11_25 : decode prog_6_method_4_code 25 = .ok (.invokevirtual 40, 3) := by decide +kernel
theorem d11_28 : decode prog_6_method_4_code 28 = .ok (.ifCond .eq 9, 3) := by decide +kernel
theorem d11_31 : decode prog_6_method_4_code 31 = .ok (.aload 4, 2) := by decide +kernel
theorem d11_33 : decode prog_6_method_4_code 33 = .ok (.invokestatic 46, 3) := by decide +kernel
theorem pd__40Ljava_47lang_47Object_59_41Ljava_47util_47Optional_59 : parseMethodDescriptor "(Ljava/lang/Object;)Ljava/util/Optional;" = some ⟨[(.object "java/lang/Object")], some (.object "java/util/Optional")⟩ := by decide +kernel
theorem d11_36 : decode prog_6_method_4_code 36 = .ok (.areturn, 1) := by decide +kernel
theorem ef_11_0 (m : MethodId) (x0 : Addr) : entryFrame m #[(.ref x0)] 5 = mkF m 0 #[.val (.ref x0), .unset, .unset, .unset, .unset] [] := by first | (simp [entryFrame, mkF, argsToLocals, Value.category]; done) | rfl
def Q11_0 (Z : State) (a : Addr) (kv : ClassId) (u0 : Addr) (b0 : Addr) (kb0 : ClassId) (u1 : Addr) (b1 : Addr) (kb1 : ClassId) (u2 : Addr) (b2 : Addr) (kb2 : ClassId) (t1 : Addr) (kb : ClassId) (cs : List Int32) (zc : Int32) (s_VALUES : Addr) (s_RESPONSE : Addr) (s_REVISIT : Addr) (s_RESOURCE : Addr) (s_EMPTY : Addr) (h0 : Heap) (n0 : Nat) (v : Option Value) (h : Heap) (L : List Loc) : Prop := ∃ z : Addr, v = some (.ref z) ∧ Fr n0 L ∧ Keep h0 h [] ∧ Exa Z h z "java/util/Optional" ∧ Fld Z h z "java/util/Optional" "value" "Ljava/lang/Object;" (.ref s_RESPONSE)
set_option maxRecDepth 65536 in
set_option maxHeartbeats 40000000 in
theorem rm11_0 (l : Launch) (Z : State) (a0 : Array Value) (hw : ∀ d ∈ tables_1, d.before a0 Z = true) (ws : List Jvm.Cond) (a : Addr) (kv : ClassId) (u0 : Addr) (b0 : Addr) (kb0 : ClassId) (u1 : Addr) (b1 : Addr) (kb1 : ClassId) (u2 : Addr) (b2 : Addr) (kb2 : ClassId) (t1 : Addr) (kb : ClassId) (cs : List Int32) (zc : Int32) (s_VALUES : Addr) (s_RESPONSE : Addr) (s_REVISIT : Addr) (s_RESOURCE : Addr) (s_EMPTY : Addr) (h0 : Heap) (n0 : Nat) (O0 : Old Z n0 h0) (S_s_VALUES : Sta Z Z.heap "com/example/rolling_ledger/rollingledger/model/CaptureKind" "$VALUES" "[Lcom/example/rolling_ledger/rollingledger/model/CaptureKind;" (.ref s_VALUES)) (S_s_RESPONSE : Sta Z Z.heap "com/example/rolling_ledger/rollingledger/model/CaptureKind" "RESPONSE" "Lcom/example/rolling_ledger/rollingledger/model/CaptureKind;" (.ref s_RESPONSE)) (S_s_REVISIT : Sta Z Z.heap "com/example/rolling_ledger/rollingledger/model/CaptureKind" "REVISIT" "Lcom/example/rolling_ledger/rollingledger/model/CaptureKind;" (.ref s_REVISIT)) (S_s_RESOURCE : Sta Z Z.heap "com/example/rolling_ledger/rollingledger/model/CaptureKind" "RESOURCE" "Lcom/example/rolling_ledger/rollingledger/model/CaptureKind;" (.ref s_RESOURCE)) (S_s_EMPTY : Sta Z Z.heap "java/util/Optional" "EMPTY" "Ljava/util/Optional;" (.ref s_EMPTY)) (E_a : Exa Z h0 a "java/lang/String") (F_v_a : Fld Z h0 a "java/lang/String" "value" "[B" (.ref t1)) (F_c_a : Fld Z h0 a "java/lang/String" "coder" "B" (.int (0 : Int32))) (V_t1 : Arv Z h0 t1 kb .byte (Int32.ofNat cs.length) ((cs.map (fun c => c.toInt8.toInt32)).map Value.int) (.int (0 : Int32))) (hp : ∀ c ∈ cs, ¬ c < 0 ∧ ¬ (255 : Int32) < c) (hl : cs.length ≤ 4000) (hy0 : cs = ([(114 : Int32), (101 : Int32), (115 : Int32), (112 : Int32), (111 : Int32), (110 : Int32), (115 : Int32), (101 : Int32)] : List Int32)) (SC : Sta Z Z.heap "java/lang/String" "COMPACT_STRINGS" "Z" (.int zc)) (hzc : ¬ zc = 0) (o_E_s_VALUES : Exa Z Z.heap s_VALUES "[Lcom/example/rolling_ledger/rollingledger/model/CaptureKind;") (o_V_s_VALUES : Arv Z Z.heap s_VALUES kv (.object "com/example/rolling_ledger/rollingledger/model/CaptureKind") (3 : Int32) [(.ref s_RESPONSE), (.ref s_REVISIT), (.ref s_RESOURCE)] .null) (o_E_s_EMPTY : Exa Z Z.heap s_EMPTY "java/util/Optional") (o_F_o_s_EMPTY : Fld Z Z.heap s_EMPTY "java/util/Optional" "value" "Ljava/lang/Object;" .null) (o_E_s_RESPONSE : Exa Z Z.heap s_RESPONSE "com/example/rolling_ledger/rollingledger/model/CaptureKind") (o_F_warcType_s_RESPONSE : Fld Z Z.heap s_RESPONSE "com/example/rolling_ledger/rollingledger/model/CaptureKind" "warcType" "Ljava/lang/String;" (.ref u0)) (o_E_u0 : Exa Z Z.heap u0 "java/lang/String") (o_F_coder_u0 : Fld Z Z.heap u0 "java/lang/String" "coder" "B" (.int (0 : Int32))) (o_F_value_u0 : Fld Z Z.heap u0 "java/lang/String" "value" "[B" (.ref b0)) (o_V_b0 : Arv Z Z.heap b0 kb0 .byte (8 : Int32) [(.int (114 : Int32)), (.int (101 : Int32)), (.int (115 : Int32)), (.int (112 : Int32)), (.int (111 : Int32)), (.int (110 : Int32)), (.int (115 : Int32)), (.int (101 : Int32))] (.int (0 : Int32))) (o_E_s_REVISIT : Exa Z Z.heap s_REVISIT "com/example/rolling_ledger/rollingledger/model/CaptureKind") (o_F_warcType_s_REVISIT : Fld Z Z.heap s_REVISIT "com/example/rolling_ledger/rollingledger/model/CaptureKind" "warcType" "Ljava/lang/String;" (.ref u1)) (o_E_u1 : Exa Z Z.heap u1 "java/lang/String") (o_F_coder_u1 : Fld Z Z.heap u1 "java/lang/String" "coder" "B" (.int (0 : Int32))) (o_F_value_u1 : Fld Z Z.heap u1 "java/lang/String" "value" "[B" (.ref b1)) (o_V_b1 : Arv Z Z.heap b1 kb1 .byte (7 : Int32) [(.int (114 : Int32)), (.int (101 : Int32)), (.int (118 : Int32)), (.int (105 : Int32)), (.int (115 : Int32)), (.int (105 : Int32)), (.int (116 : Int32))] (.int (0 : Int32))) (o_E_s_RESOURCE : Exa Z Z.heap s_RESOURCE "com/example/rolling_ledger/rollingledger/model/CaptureKind") (o_F_warcType_s_RESOURCE : Fld Z Z.heap s_RESOURCE "com/example/rolling_ledger/rollingledger/model/CaptureKind" "warcType" "Ljava/lang/String;" (.ref u2)) (o_E_u2 : Exa Z Z.heap u2 "java/lang/String") (o_F_coder_u2 : Fld Z Z.heap u2 "java/lang/String" "coder" "B" (.int (0 : Int32))) (o_F_value_u2 : Fld Z Z.heap u2 "java/lang/String" "value" "[B" (.ref b2)) (o_V_b2 : Arv Z Z.heap b2 kb2 .byte (8 : Int32) [(.int (114 : Int32)), (.int (101 : Int32)), (.int (115 : Int32)), (.int (111 : Int32)), (.int (117 : Int32)), (.int (114 : Int32)), (.int (99 : Int32)), (.int (101 : Int32))] (.int (0 : Int32))) :
    MetFree l (⟨"com/example/rolling_ledger/rollingledger/model/CaptureKind", "ofWarcType", "(Ljava/lang/String;)Ljava/util/Optional;"⟩ : MethodName) (head1 (Jvm.Cond.code (⟨"com/example/rolling_ledger/rollingledger/model/CaptureKind", "ofWarcType", "(Ljava/lang/String;)Ljava/util/Optional;"⟩ : MethodName) prog_6_method_4_code 5 (some (.object "java/util/Optional")) :: ws) ({ frames := 3, cells := 2, slots := 4, locals := 38 } : Room)) (fun aA uU => aA = #[(.ref a)] ∧ Z.Warmed39 uU.vm ∧ uU.heap = h0) (fun _ _ _ _ _ => True) (fun _ uU oO uU' => ∃ vV lL, oO = .returned vV ∧ Q11_0 Z a kv u0 b0 kb0 u1 b1 kb1 u2 b2 kb2 t1 kb cs zc s_VALUES s_RESPONSE s_REVISIT s_RESOURCE s_EMPTY h0 n0 vV uU'.heap lL ∧ FrameEnd uU oO uU' lL ({ frames := 3, cells := 2, slots := 4, locals := 38 } : Room).cells ({ frames := 3, cells := 2, slots := 4, locals := 38 } : Room).slots) := by
  refine MetFree.of_bodySF (plainFor_of_name pn_com_example_rolling_ledger_rollingledger_model_CaptureKind) hisR ?_
  intro p e s m args below meth c s₁ Bd hml0 hP hK
  obtain ⟨rfl, hZ, hh⟩ := hP
  have hx := Bd.exec
  have hby := Bd.bytes
  have hml : c.maxLocals = 5 := hml0
  have hown : s.vm.findClass "com/example/rolling_ledger/rollingledger/model/CaptureKind" = some m.cls := findClass_of_methodNamed Bd.named
  have hnm := (name_of_methodNamed Bd.named Bd.method).1
  have X0 : Stand p l e ({ frames := 3, cells := 2, slots := 4, locals := 38 } : Room) s m #[(.ref a)] below meth c s₁ [] 0 0 := Stand.of_body Bd
  have e0 : s₁.heap = h0 := by rw [← hh, Bd.state]; rfl
  have N0 := Fr.nil n0
  have O := O0
  have K := Keep.refl h0 []
  have pre0 : ∀ t, Steps p.tables e below (s₁.setTop (mkF m 0 #[.val (.ref a), .unset, .unset, .unset, .unset] [])) t → Steps p.tables e below (s₁.setTop (entryFrame m #[(.ref a)] 5)) t := fun t k => castTop (ef_11_0 m a) k
  have E_s_VALUES := o_E_s_VALUES.ext O0.2
  have V_s_VALUES := o_V_s_VALUES.ext O0.2
  have E_s_EMPTY := o_E_s_EMPTY.ext O0.2
  have F_o_s_EMPTY := o_F_o_s_EMPTY.ext O0.2
  have E_s_RESPONSE := o_E_s_RESPONSE.ext O0.2
  have F_warcType_s_RESPONSE := o_F_warcType_s_RESPONSE.ext O0.2
  have E_u0 := o_E_u0.ext O0.2
  have F_coder_u0 := o_F_coder_u0.ext O0.2
  have F_value_u0 := o_F_value_u0.ext O0.2
  have V_b0 := o_V_b0.ext O0.2
  have E_s_REVISIT := o_E_s_REVISIT.ext O0.2
  have F_warcType_s_REVISIT := o_F_warcType_s_REVISIT.ext O0.2
  have E_u1 := o_E_u1.ext O0.2
  have F_coder_u1 := o_F_coder_u1.ext O0.2
  have F_value_u1 := o_F_value_u1.ext O0.2
  have V_b1 := o_V_b1.ext O0.2
  have E_s_RESOURCE := o_E_s_RESOURCE.ext O0.2
  have F_warcType_s_RESOURCE := o_F_warcType_s_RESOURCE.ext O0.2
  have E_u2 := o_E_u2.ext O0.2
  have F_coder_u2 := o_F_coder_u2.ext O0.2
  have F_value_u2 := o_F_value_u2.ext O0.2
  have V_b2 := o_V_b2.ext O0.2
  have lt1_a := E_a.lt
  have lt1_t1 := V_t1.lt
  have lt1_s_VALUES := E_s_VALUES.lt
  have lt1_s_EMPTY := E_s_EMPTY.lt
  have lt1_s_RESPONSE := E_s_RESPONSE.lt
  have lt1_u0 := E_u0.lt
  have lt1_b0 := V_b0.lt
  have lt1_s_REVISIT := E_s_REVISIT.lt
  have lt1_u1 := E_u1.lt
  have lt1_b1 := V_b1.lt
  have lt1_s_RESOURCE := E_s_RESOURCE.lt
  have lt1_u2 := E_u2.lt
  have lt1_b2 := V_b2.lt
  obtain ⟨_, _, ⟨T1, L1, k1, n1⟩, -, X1, ⟨Lc1, hQ1, l1, y1, z1⟩, st1⟩ := Jvm.LawKit.callS X0 hx (y := (⟨"com/example/rolling_ledger/rollingledger/model/CaptureKind", "values", "()[Lcom/example/rolling_ledger/rollingledger/model/CaptureKind;"⟩ : MethodName)) hown (mvT hZ (hw _ (List.mem_of_getElem? (i := 56) rfl))) (mvT hZ (hw _ (List.mem_of_getElem? (i := 57) rfl))) (mvT hZ (hw _ (List.mem_of_getElem? (i := 51) rfl))) (mvT hZ (hw _ (List.mem_of_getElem? (i := 58) rfl))) (by decide) (backOf (W := 0) (rm12 l Z a0 hw [] kv s_VALUES s_RESPONSE s_REVISIT s_RESOURCE h0 n0 O S_s_VALUES S_s_RESPONSE S_s_REVISIT S_s_RESOURCE V_s_VALUES E_s_VALUES) hZ (hw _ (List.mem_of_getElem? (i := 58) rfl)) (hw _ (List.mem_of_getElem? (i := 51) rfl)) (by decide) (by decide)) (g := (mkF m 0 #[.val (.ref a), .unset, .unset, .unset, .unset] [])) rfl (by rw [hml]; rfl) (argsL := []) (rest := []) (lenOf pd__40_41_91Lcom_47example_47rolling_ledger_47rollingledger_47model_47CaptureKind_59 rfl) rfl (by show 2 * 0 + _ ≤ _; exact Nat.le_of_eq rfl) (hb hby d11_0) (fun _ _ => ⟨rfl, e0, (by decide : 0 + 1 ≤ _), (by decide : 0 + 3 ≤ _)⟩)
  dsimp only [Pt.U, Pt.locs, Pt.cells, Pt.slots] at X1 l1 y1 z1 st1 hQ1
  subst l1 y1 z1
  obtain ⟨z_1, rfl, N1q, K1, V_z_c1, gz_1, gn_1⟩ := hQ1
  have N1 := Fr.app N0 N1q
  have E_a := E_a.keep K1
  have F_v_a := F_v_a.keep K1 nin0
  have F_c_a := F_c_a.keep K1 nin0
  have V_t1 := V_t1.keep K1 nin0
  have E_s_VALUES := E_s_VALUES.keep K1
  have V_s_VALUES := V_s_VALUES.keep K1 nin0
  have E_s_EMPTY := E_s_EMPTY.keep K1
  have F_o_s_EMPTY := F_o_s_EMPTY.keep K1 nin0
  have E_s_RESPONSE := E_s_RESPONSE.keep K1
  have F_warcType_s_RESPONSE := F_warcType_s_RESPONSE.keep K1 nin0
  have E_u0 := E_u0.keep K1
  have F_coder_u0 := F_coder_u0.keep K1 nin0
  have F_value_u0 := F_value_u0.keep K1 nin0
  have V_b0 := V_b0.keep K1 nin0
  have E_s_REVISIT := E_s_REVISIT.keep K1
  have F_warcType_s_REVISIT := F_warcType_s_REVISIT.keep K1 nin0
  have E_u1 := E_u1.keep K1
  have F_coder_u1 := F_coder_u1.keep K1 nin0
  have F_value_u1 := F_value_u1.keep K1 nin0
  have V_b1 := V_b1.keep K1 nin0
  have E_s_RESOURCE := E_s_RESOURCE.keep K1
  have F_warcType_s_RESOURCE := F_warcType_s_RESOURCE.keep K1 nin0
  have E_u2 := E_u2.keep K1
  have F_coder_u2 := F_coder_u2.keep K1 nin0
  have F_value_u2 := F_value_u2.keep K1 nin0
  have V_b2 := V_b2.keep K1 nin0
  have ne_a_z_1 : a ≠ z_1 := Nat.ne_of_lt (Nat.lt_of_lt_of_le lt1_a gz_1)
  have ne_t1_z_1 : t1 ≠ z_1 := Nat.ne_of_lt (Nat.lt_of_lt_of_le lt1_t1 gz_1)
  have ne_s_VALUES_z_1 : s_VALUES ≠ z_1 := Nat.ne_of_lt (Nat.lt_of_lt_of_le lt1_s_VALUES gz_1)
  have ne_s_EMPTY_z_1 : s_EMPTY ≠ z_1 := Nat.ne_of_lt (Nat.lt_of_lt_of_le lt1_s_EMPTY gz_1)
  have ne_s_RESPONSE_z_1 : s_RESPONSE ≠ z_1 := Nat.ne_of_lt (Nat.lt_of_lt_of_le lt1_s_RESPONSE gz_1)
  have ne_u0_z_1 : u0 ≠ z_1 := Nat.ne_of_lt (Nat.lt_of_lt_of_le lt1_u0 gz_1)
  have ne_b0_z_1 : b0 ≠ z_1 := Nat.ne_of_lt (Nat.lt_of_lt_of_le lt1_b0 gz_1)
  have ne_s_REVISIT_z_1 : s_REVISIT ≠ z_1 := Nat.ne_of_lt (Nat.lt_of_lt_of_le lt1_s_REVISIT gz_1)
  have ne_u1_z_1 : u1 ≠ z_1 := Nat.ne_of_lt (Nat.lt_of_lt_of_le lt1_u1 gz_1)
  have ne_b1_z_1 : b1 ≠ z_1 := Nat.ne_of_lt (Nat.lt_of_lt_of_le lt1_b1 gz_1)
  have ne_s_RESOURCE_z_1 : s_RESOURCE ≠ z_1 := Nat.ne_of_lt (Nat.lt_of_lt_of_le lt1_s_RESOURCE gz_1)
  have ne_u2_z_1 : u2 ≠ z_1 := Nat.ne_of_lt (Nat.lt_of_lt_of_le lt1_u2 gz_1)
  have ne_b2_z_1 : b2 ≠ z_1 := Nat.ne_of_lt (Nat.lt_of_lt_of_le lt1_b2 gz_1)
  have g_z_1 := gn_1
  have z_z_1 : h0.size ≤ z_1 := Nat.le_trans K.1 gz_1
  have O := O.keep K1 all0
  have K := K.trans K1 all0
  obtain ⟨cl2, Ar2, -, Z2, N2, -, -⟩ := id V_z_c1
  obtain ⟨cl3, Ar3, q3, Z3, N3, H3, G3⟩ := id V_z_c1
  have hin3 : ¬ ((0 : Int32) < 0 ∨ cl3.slots.size ≤ ((0 : Int32)).toNatClampNeg) := inb_of Z3 ⟨by decide, by decide⟩
  have hat3 : cl3.slots[((0 : Int32)).toNatClampNeg]? = some (.ref s_RESPONSE) := H3.at hin3 rfl
  obtain ⟨T4, X4, e4, st4⟩ := getF X1 hx hZ hown (host := "") (Or.inl (hw _ (List.mem_of_getElem? (i := 73) rfl))) Via.refl rfl F_warcType_s_RESPONSE (g := (mkF m 21 #[.val (.ref a), .val (.ref z_1), .val (.int (3 : Int32)), .val (.int (0 : Int32)), .val (.ref s_RESPONSE)] [(.ref s_RESPONSE)])) rfl rfl (hb hby d11_21)
  obtain ⟨cq5, kq5, q5a, q5b, q5c⟩ := isOf hZ e4 E_u0
  obtain ⟨v5, _, ⟨T5, L5, k5, n5⟩, -, X5, ⟨Lc5, hQ5, l5, y5, z5⟩, st5⟩ := X4.virtualBack hx (y := (⟨"java/lang/String", "equals", "(Ljava/lang/Object;)Z"⟩ : MethodName)) (z := (⟨"java/lang/String", "equals", "(Ljava/lang/Object;)Z"⟩ : MethodName)) hown (mvT hZ (hw _ (List.mem_of_getElem? (i := 75) rfl))) (mvT hZ (hw _ (List.mem_of_getElem? (i := 41) rfl))) (notFace_of_selects (args := #[]) (mvT hZ (hw _ (List.mem_of_getElem? (i := 43) rfl)))) (mvT hZ (hw _ (List.mem_of_getElem? (i := 43) rfl))) (mvT hZ (hw _ (List.mem_of_getElem? (i := 42) rfl))) (by decide) (StrChars.Road.eqW (W := 0) hZ (own_wEq hw) (kI := 4) (hw _ (List.mem_of_getElem? (i := 6) rfl)) E_u0 F_value_u0 F_coder_u0 V_b0 own_cod_114_101_115_112_111_110_115_101 own_cod_114_101_115_112_111_110_115_101b (Nat.le_of_ble_eq_true rfl) E_a F_v_a F_c_a V_t1 (StrChars.Road.codOf rfl (fun c hc => (hp c hc).2)) (own_up hp) hl (SC.ext O.2) hzc (by decide) (by decide)) q5a q5c (g := (mkF m 25 #[.val (.ref a), .val (.ref z_1), .val (.int (3 : Int32)), .val (.int (0 : Int32)), .val (.ref s_RESPONSE)] [(.ref a), (.ref u0)])) rfl (by rw [hml]; rfl) (Steps.refl _) (argsL := [(.ref a)]) (rest := []) (lenOf pd__40Ljava_47lang_47Object_59_41Z rfl) rfl (by show 2 * 0 + _ ≤ _; exact Nat.le_of_eq rfl) (hb hby d11_25) (fun _ _ => ⟨rfl, e4, (by decide : 1 + 0 ≤ _), (by decide : 3 + 0 ≤ _)⟩)
  dsimp only [Pt.U, Pt.locs, Pt.cells, Pt.slots] at X5 l5 y5 z5 st5 hQ5
  subst l5 y5 z5
  obtain ⟨hv5, rfl, eh5⟩ := hQ5
  obtain rfl : v5 = some (.int (own_eqs ([(114 : Int32), (101 : Int32), (115 : Int32), (112 : Int32), (111 : Int32), (110 : Int32), (115 : Int32), (101 : Int32)] : List Int32) cs)) := by rcases hv5 with ⟨h1, h2⟩ | ⟨h1, h2⟩ <;> rw [h1] <;> simp only [own_eqs, h2, if_true, if_false]
  have N5 := Fr.app N1 (Fr.nil n0)
  obtain ⟨_, _, ⟨T6, L6, k6, n6⟩, -, X6, ⟨Lc6, hQ6, l6, y6, z6⟩, st6⟩ := Jvm.LawKit.callS X5 hx (y := (⟨"java/util/Optional", "of", "(Ljava/lang/Object;)Ljava/util/Optional;"⟩ : MethodName)) hown (mvT hZ (hw _ (List.mem_of_getElem? (i := 76) rfl))) (mvT hZ (hw _ (List.mem_of_getElem? (i := 77) rfl))) (mvT hZ (hw _ (List.mem_of_getElem? (i := 78) rfl))) (mvT hZ (hw _ (List.mem_of_getElem? (i := 79) rfl))) (by decide) (backOf (W := 0) (rm13 l Z a0 hw [] s_RESPONSE T1.heap n0 O ) hZ (hw _ (List.mem_of_getElem? (i := 79) rfl)) (hw _ (List.mem_of_getElem? (i := 78) rfl)) (by decide) (by decide)) (g := (mkF m 33 #[.val (.ref a), .val (.ref z_1), .val (.int (3 : Int32)), .val (.int (0 : Int32)), .val (.ref s_RESPONSE)] [(.ref s_RESPONSE)])) rfl (by rw [hml]; rfl) (argsL := [(.ref s_RESPONSE)]) (rest := []) (lenOf pd__40Ljava_47lang_47Object_59_41Ljava_47util_47Optional_59 rfl) rfl (by show 2 * 0 + _ ≤ _; exact Nat.le_of_eq rfl) (hb hby d11_33) (fun _ _ => ⟨rfl, eh5, (by decide : 1 + 1 ≤ _), (by decide : 3 + 1 ≤ _)⟩)
  dsimp only [Pt.U, Pt.locs, Pt.cells, Pt.slots] at X6 l6 y6 z6 st6 hQ6
  subst l6 y6 z6
  obtain ⟨z_6, rfl, N6q, K6, E_z_c6, F_o_z_c6⟩ := hQ6
  have N6 := Fr.app N5 N6q
  have E_a := E_a.keep K6
  have F_v_a := F_v_a.keep K6 nin0
  have F_c_a := F_c_a.keep K6 nin0
  have V_t1 := V_t1.keep K6 nin0
  have E_s_VALUES := E_s_VALUES.keep K6
  have V_s_VALUES := V_s_VALUES.keep K6 nin0
  have E_s_EMPTY := E_s_EMPTY.keep K6
  have F_o_s_EMPTY := F_o_s_EMPTY.keep K6 nin0
  have E_s_RESPONSE := E_s_RESPONSE.keep K6
  have F_warcType_s_RESPONSE := F_warcType_s_RESPONSE.keep K6 nin0
  have E_u0 := E_u0.keep K6
  have F_coder_u0 := F_coder_u0.keep K6 nin0
  have F_value_u0 := F_value_u0.keep K6 nin0
  have V_b0 := V_b0.keep K6 nin0
  have E_s_REVISIT := E_s_REVISIT.keep K6
  have F_warcType_s_REVISIT := F_warcType_s_REVISIT.keep K6 nin0
  have E_u1 := E_u1.keep K6
  have F_coder_u1 := F_coder_u1.keep K6 nin0
  have F_value_u1 := F_value_u1.keep K6 nin0
  have V_b1 := V_b1.keep K6 nin0
  have E_s_RESOURCE := E_s_RESOURCE.keep K6
  have F_warcType_s_RESOURCE := F_warcType_s_RESOURCE.keep K6 nin0
  have E_u2 := E_u2.keep K6
  have F_coder_u2 := F_coder_u2.keep K6 nin0
  have F_value_u2 := F_value_u2.keep K6 nin0
  have V_b2 := V_b2.keep K6 nin0
  have V_z_c1 := V_z_c1.keep K6 nin0
  have O := O.keep K6 all0
  have K := K.trans K6 all0
  have w7 : ∀ t, Steps p.tables e below (T6.setTop (mkF m 36 #[.val (.ref a), .val (.ref z_1), .val (.int (3 : Int32)), .val (.int (0 : Int32)), .val (.ref s_RESPONSE)] [(.ref z_6)])) t → Steps p.tables e below (s₁.setTop (entryFrame m #[(.ref a)] 5)) t := fun t k => by
    refine pre0 t ?_
    refine st1 _ ?_
    show Steps p.tables e below (T1.setTop (mkF m 3 #[.val (.ref a), .unset, .unset, .unset, .unset] [(.ref z_1)])) _
    refine XS.astoreN X1.here hx rfl (hb hby d11_3) rfl rfl (l' := #[.val (.ref a), .val (.ref z_1), .unset, .unset, .unset]) rfl ?_
    show Steps p.tables e below (T1.setTop (mkF m 4 #[.val (.ref a), .val (.ref z_1), .unset, .unset, .unset] [])) _
    refine XS.aloadN X1.here hx rfl (hb hby d11_4) rfl rfl ?_
    show Steps p.tables e below (T1.setTop (mkF m 5 #[.val (.ref a), .val (.ref z_1), .unset, .unset, .unset] [(.ref z_1)])) _
    refine X1.arraylength hx (by exact Ar2.1) (State.isArrayOf_alike hZ.alike Ar2.2.1) (g := (mkF m 5 #[.val (.ref a), .val (.ref z_1), .unset, .unset, .unset] [(.ref z_1)])) rfl rfl (hb hby d11_5) _ ?_
    rw [len_of Z2 N2]
    show Steps p.tables e below (T1.setTop (mkF m 6 #[.val (.ref a), .val (.ref z_1), .unset, .unset, .unset] [(.int (3 : Int32))])) _
    refine XS.istoreN X1.here hx rfl (hb hby d11_6) rfl (l' := #[.val (.ref a), .val (.ref z_1), .val (.int (3 : Int32)), .unset, .unset]) rfl ?_
    show Steps p.tables e below (T1.setTop (mkF m 7 #[.val (.ref a), .val (.ref z_1), .val (.int (3 : Int32)), .unset, .unset] [])) _
    refine XS.iconst X1.here hx rfl (hb hby d11_7) ?_
    show Steps p.tables e below (T1.setTop (mkF m 8 #[.val (.ref a), .val (.ref z_1), .val (.int (3 : Int32)), .unset, .unset] [(.int (0 : Int32))])) _
    refine XS.istoreN X1.here hx rfl (hb hby d11_8) rfl (l' := #[.val (.ref a), .val (.ref z_1), .val (.int (3 : Int32)), .val (.int (0 : Int32)), .unset]) rfl ?_
    show Steps p.tables e below (T1.setTop (mkF m 9 #[.val (.ref a), .val (.ref z_1), .val (.int (3 : Int32)), .val (.int (0 : Int32)), .unset] [])) _
    refine XS.iloadN X1.here hx rfl (hb hby d11_9) rfl ?_
    show Steps p.tables e below (T1.setTop (mkF m 10 #[.val (.ref a), .val (.ref z_1), .val (.int (3 : Int32)), .val (.int (0 : Int32)), .unset] [(.int (0 : Int32))])) _
    refine XS.iloadN X1.here hx rfl (hb hby d11_10) rfl ?_
    show Steps p.tables e below (T1.setTop (mkF m 11 #[.val (.ref a), .val (.ref z_1), .val (.int (3 : Int32)), .val (.int (0 : Int32)), .unset] [(.int (3 : Int32)), (.int (0 : Int32))])) _
    refine XS.icmpNo X1.here hx rfl (hb hby d11_11) rfl (tlt ((by decide) : (0 : Int32) < (3 : Int32))).2.1 ?_
    show Steps p.tables e below (T1.setTop (mkF m 14 #[.val (.ref a), .val (.ref z_1), .val (.int (3 : Int32)), .val (.int (0 : Int32)), .unset] [])) _
    refine XS.aloadN X1.here hx rfl (hb hby d11_14) rfl rfl ?_
    show Steps p.tables e below (T1.setTop (mkF m 15 #[.val (.ref a), .val (.ref z_1), .val (.int (3 : Int32)), .val (.int (0 : Int32)), .unset] [(.ref z_1)])) _
    refine XS.iloadN X1.here hx rfl (hb hby d11_15) rfl ?_
    show Steps p.tables e below (T1.setTop (mkF m 16 #[.val (.ref a), .val (.ref z_1), .val (.int (3 : Int32)), .val (.int (0 : Int32)), .unset] [(.int (0 : Int32)), (.ref z_1)])) _
    refine X1.aaload hx (j := (0 : Int32)) (v := (.ref s_RESPONSE)) (by exact Ar3.1) (State.isArrayOf_alike hZ.alike Ar3.2.1) rfl Ar3.2.2 hin3 hat3 (g := (mkF m 16 #[.val (.ref a), .val (.ref z_1), .val (.int (3 : Int32)), .val (.int (0 : Int32)), .unset] [(.int (0 : Int32)), (.ref z_1)])) rfl rfl (hb hby d11_16) _ ?_
    show Steps p.tables e below (T1.setTop (mkF m 17 #[.val (.ref a), .val (.ref z_1), .val (.int (3 : Int32)), .val (.int (0 : Int32)), .unset] [(.ref s_RESPONSE)])) _
    refine XS.astore X1.here hx rfl (hb hby d11_17) rfl rfl (l' := #[.val (.ref a), .val (.ref z_1), .val (.int (3 : Int32)), .val (.int (0 : Int32)), .val (.ref s_RESPONSE)]) rfl ?_
    show Steps p.tables e below (T1.setTop (mkF m 19 #[.val (.ref a), .val (.ref z_1), .val (.int (3 : Int32)), .val (.int (0 : Int32)), .val (.ref s_RESPONSE)] [])) _
    refine XS.aload X1.here hx rfl (hb hby d11_19) rfl rfl ?_
    show Steps p.tables e below (T1.setTop (mkF m 21 #[.val (.ref a), .val (.ref z_1), .val (.int (3 : Int32)), .val (.int (0 : Int32)), .val (.ref s_RESPONSE)] [(.ref s_RESPONSE)])) _
    refine st4 _ ?_
    show Steps p.tables e below (T4.setTop (mkF m 24 #[.val (.ref a), .val (.ref z_1), .val (.int (3 : Int32)), .val (.int (0 : Int32)), .val (.ref s_RESPONSE)] [(.ref u0)])) _
    refine XS.aloadN X4.here hx rfl (hb hby d11_24) rfl rfl ?_
    show Steps p.tables e below (T4.setTop (mkF m 25 #[.val (.ref a), .val (.ref z_1), .val (.int (3 : Int32)), .val (.int (0 : Int32)), .val (.ref s_RESPONSE)] [(.ref a), (.ref u0)])) _
    refine st5.trans ?_
    show Steps p.tables e below (T5.setTop (mkF m 28 #[.val (.ref a), .val (.ref z_1), .val (.int (3 : Int32)), .val (.int (0 : Int32)), .val (.ref s_RESPONSE)] [(.int (own_eqs ([(114 : Int32), (101 : Int32), (115 : Int32), (112 : Int32), (111 : Int32), (110 : Int32), (115 : Int32), (101 : Int32)] : List Int32) cs))])) _
    refine XS.ifNo X5.here hx rfl (hb hby d11_28) rfl ((if0 _ _).trans (feq (own_ey hy0.symm : ¬ ((own_eqs ([(114 : Int32), (101 : Int32), (115 : Int32), (112 : Int32), (111 : Int32), (110 : Int32), (115 : Int32), (101 : Int32)] : List Int32) cs) = (0 : Int32)))).1) ?_
    show Steps p.tables e below (T5.setTop (mkF m 31 #[.val (.ref a), .val (.ref z_1), .val (.int (3 : Int32)), .val (.int (0 : Int32)), .val (.ref s_RESPONSE)] [])) _
    refine XS.aload X5.here hx rfl (hb hby d11_31) rfl rfl ?_
    show Steps p.tables e below (T5.setTop (mkF m 33 #[.val (.ref a), .val (.ref z_1), .val (.int (3 : Int32)), .val (.int (0 : Int32)), .val (.ref s_RESPONSE)] [(.ref s_RESPONSE)])) _
    refine st6 _ ?_
    show Steps p.tables e below (T6.setTop (mkF m 36 #[.val (.ref a), .val (.ref z_1), .val (.int (3 : Int32)), .val (.int (0 : Int32)), .val (.ref s_RESPONSE)] [(.ref z_6)])) _
    exact k
  obtain ⟨fs, hr, hrun, hended, hW, hsame⟩ := X6.leave (v := some (.ref z_6)) (fun h => by rw [Bd.returns] at h; cases h)
  refine ⟨_, _, w7 _ ?_, hrun, hended, _, _, rfl, ?_, ⟨_, rfl⟩, hW, hsame.mono (by decide) (by decide)⟩
  · jvm_step X6.here [X6.here.top, hx, (hb hby d11_36), X6.method', Bd.returns, Value.isRef, FieldType.isReference]
    first | (intro acts; rw [hr _ acts rfl rfl rfl]) | rw [hr _ _ rfl rfl rfl]
    exact Steps.refl _
  · show Q11_0 Z a kv u0 b0 kb0 u1 b1 kb1 u2 b2 kb2 t1 kb cs zc s_VALUES s_RESPONSE s_REVISIT s_RESOURCE s_EMPTY h0 n0 _ T6.heap _
    exact ⟨z_6, rfl, N6, K, E_z_c6, F_o_z_c6⟩
theorem d11_37 : decode prog_6_method_4_code 37 = .ok (.iinc 3 1, 3) := by decide +kernel
theorem d11_40 : decode prog_6_method_4_code 40 = .ok (.goto (-31), 3) := by decide +kernel
theorem ef_11_1 (m : MethodId) (x0 : Addr) : entryFrame m #[(.ref x0)] 5 = mkF m 0 #[.val (.ref x0), .unset, .unset, .unset, .unset] [] := by first | (simp [entryFrame, mkF, argsToLocals, Value.category]; done) | rfl
def Q11_1 (Z : State) (a : Addr) (kv : ClassId) (u0 : Addr) (b0 : Addr) (kb0 : ClassId) (u1 : Addr) (b1 : Addr) (kb1 : ClassId) (u2 : Addr) (b2 : Addr) (kb2 : ClassId) (t1 : Addr) (kb : ClassId) (cs : List Int32) (zc : Int32) (s_VALUES : Addr) (s_RESPONSE : Addr) (s_REVISIT : Addr) (s_RESOURCE : Addr) (s_EMPTY : Addr) (h0 : Heap) (n0 : Nat) (v : Option Value) (h : Heap) (L : List Loc) : Prop := ∃ z : Addr, v = some (.ref z) ∧ Fr n0 L ∧ Keep h0 h [] ∧ Exa Z h z "java/util/Optional" ∧ Fld Z h z "java/util/Optional" "value" "Ljava/lang/Object;" (.ref s_REVISIT)
set_option maxRecDepth 65536 in
set_option maxHeartbeats 40000000 in
theorem rm11_1 (l : Launch) (Z : State) (a0 : Array Value) (hw : ∀ d ∈ tables_1, d.before a0 Z = true) (ws : List Jvm.Cond) (a : Addr) (kv : ClassId) (u0 : Addr) (b0 : Addr) (kb0 : ClassId) (u1 : Addr) (b1 : Addr) (kb1 : ClassId) (u2 : Addr) (b2 : Addr) (kb2 : ClassId) (t1 : Addr) (kb : ClassId) (cs : List Int32) (zc : Int32) (s_VALUES : Addr) (s_RESPONSE : Addr) (s_REVISIT : Addr) (s_RESOURCE : Addr) (s_EMPTY : Addr) (h0 : Heap) (n0 : Nat) (O0 : Old Z n0 h0) (S_s_VALUES : Sta Z Z.heap "com/example/rolling_ledger/rollingledger/model/CaptureKind" "$VALUES" "[Lcom/example/rolling_ledger/rollingledger/model/CaptureKind;" (.ref s_VALUES)) (S_s_RESPONSE : Sta Z Z.heap "com/example/rolling_ledger/rollingledger/model/CaptureKind" "RESPONSE" "Lcom/example/rolling_ledger/rollingledger/model/CaptureKind;" (.ref s_RESPONSE)) (S_s_REVISIT : Sta Z Z.heap "com/example/rolling_ledger/rollingledger/model/CaptureKind" "REVISIT" "Lcom/example/rolling_ledger/rollingledger/model/CaptureKind;" (.ref s_REVISIT)) (S_s_RESOURCE : Sta Z Z.heap "com/example/rolling_ledger/rollingledger/model/CaptureKind" "RESOURCE" "Lcom/example/rolling_ledger/rollingledger/model/CaptureKind;" (.ref s_RESOURCE)) (S_s_EMPTY : Sta Z Z.heap "java/util/Optional" "EMPTY" "Ljava/util/Optional;" (.ref s_EMPTY)) (E_a : Exa Z h0 a "java/lang/String") (F_v_a : Fld Z h0 a "java/lang/String" "value" "[B" (.ref t1)) (F_c_a : Fld Z h0 a "java/lang/String" "coder" "B" (.int (0 : Int32))) (V_t1 : Arv Z h0 t1 kb .byte (Int32.ofNat cs.length) ((cs.map (fun c => c.toInt8.toInt32)).map Value.int) (.int (0 : Int32))) (hp : ∀ c ∈ cs, ¬ c < 0 ∧ ¬ (255 : Int32) < c) (hl : cs.length ≤ 4000) (hy1 : cs = ([(114 : Int32), (101 : Int32), (118 : Int32), (105 : Int32), (115 : Int32), (105 : Int32), (116 : Int32)] : List Int32)) (SC : Sta Z Z.heap "java/lang/String" "COMPACT_STRINGS" "Z" (.int zc)) (hzc : ¬ zc = 0) (o_E_s_VALUES : Exa Z Z.heap s_VALUES "[Lcom/example/rolling_ledger/rollingledger/model/CaptureKind;") (o_V_s_VALUES : Arv Z Z.heap s_VALUES kv (.object "com/example/rolling_ledger/rollingledger/model/CaptureKind") (3 : Int32) [(.ref s_RESPONSE), (.ref s_REVISIT), (.ref s_RESOURCE)] .null) (o_E_s_EMPTY : Exa Z Z.heap s_EMPTY "java/util/Optional") (o_F_o_s_EMPTY : Fld Z Z.heap s_EMPTY "java/util/Optional" "value" "Ljava/lang/Object;" .null) (o_E_s_RESPONSE : Exa Z Z.heap s_RESPONSE "com/example/rolling_ledger/rollingledger/model/CaptureKind") (o_F_warcType_s_RESPONSE : Fld Z Z.heap s_RESPONSE "com/example/rolling_ledger/rollingledger/model/CaptureKind" "warcType" "Ljava/lang/String;" (.ref u0)) (o_E_u0 : Exa Z Z.heap u0 "java/lang/String") (o_F_coder_u0 : Fld Z Z.heap u0 "java/lang/String" "coder" "B" (.int (0 : Int32))) (o_F_value_u0 : Fld Z Z.heap u0 "java/lang/String" "value" "[B" (.ref b0)) (o_V_b0 : Arv Z Z.heap b0 kb0 .byte (8 : Int32) [(.int (114 : Int32)), (.int (101 : Int32)), (.int (115 : Int32)), (.int (112 : Int32)), (.int (111 : Int32)), (.int (110 : Int32)), (.int (115 : Int32)), (.int (101 : Int32))] (.int (0 : Int32))) (o_E_s_REVISIT : Exa Z Z.heap s_REVISIT "com/example/rolling_ledger/rollingledger/model/CaptureKind") (o_F_warcType_s_REVISIT : Fld Z Z.heap s_REVISIT "com/example/rolling_ledger/rollingledger/model/CaptureKind" "warcType" "Ljava/lang/String;" (.ref u1)) (o_E_u1 : Exa Z Z.heap u1 "java/lang/String") (o_F_coder_u1 : Fld Z Z.heap u1 "java/lang/String" "coder" "B" (.int (0 : Int32))) (o_F_value_u1 : Fld Z Z.heap u1 "java/lang/String" "value" "[B" (.ref b1)) (o_V_b1 : Arv Z Z.heap b1 kb1 .byte (7 : Int32) [(.int (114 : Int32)), (.int (101 : Int32)), (.int (118 : Int32)), (.int (105 : Int32)), (.int (115 : Int32)), (.int (105 : Int32)), (.int (116 : Int32))] (.int (0 : Int32))) (o_E_s_RESOURCE : Exa Z Z.heap s_RESOURCE "com/example/rolling_ledger/rollingledger/model/CaptureKind") (o_F_warcType_s_RESOURCE : Fld Z Z.heap s_RESOURCE "com/example/rolling_ledger/rollingledger/model/CaptureKind" "warcType" "Ljava/lang/String;" (.ref u2)) (o_E_u2 : Exa Z Z.heap u2 "java/lang/String") (o_F_coder_u2 : Fld Z Z.heap u2 "java/lang/String" "coder" "B" (.int (0 : Int32))) (o_F_value_u2 : Fld Z Z.heap u2 "java/lang/String" "value" "[B" (.ref b2)) (o_V_b2 : Arv Z Z.heap b2 kb2 .byte (8 : Int32) [(.int (114 : Int32)), (.int (101 : Int32)), (.int (115 : Int32)), (.int (111 : Int32)), (.int (117 : Int32)), (.int (114 : Int32)), (.int (99 : Int32)), (.int (101 : Int32))] (.int (0 : Int32))) :
    MetFree l (⟨"com/example/rolling_ledger/rollingledger/model/CaptureKind", "ofWarcType", "(Ljava/lang/String;)Ljava/util/Optional;"⟩ : MethodName) (head1 (Jvm.Cond.code (⟨"com/example/rolling_ledger/rollingledger/model/CaptureKind", "ofWarcType", "(Ljava/lang/String;)Ljava/util/Optional;"⟩ : MethodName) prog_6_method_4_code 5 (some (.object "java/util/Optional")) :: ws) ({ frames := 3, cells := 2, slots := 4, locals := 38 } : Room)) (fun aA uU => aA = #[(.ref a)] ∧ Z.Warmed39 uU.vm ∧ uU.heap = h0) (fun _ _ _ _ _ => True) (fun _ uU oO uU' => ∃ vV lL, oO = .returned vV ∧ Q11_1 Z a kv u0 b0 kb0 u1 b1 kb1 u2 b2 kb2 t1 kb cs zc s_VALUES s_RESPONSE s_REVISIT s_RESOURCE s_EMPTY h0 n0 vV uU'.heap lL ∧ FrameEnd uU oO uU' lL ({ frames := 3, cells := 2, slots := 4, locals := 38 } : Room).cells ({ frames := 3, cells := 2, slots := 4, locals := 38 } : Room).slots) := by
  refine MetFree.of_bodySF (plainFor_of_name pn_com_example_rolling_ledger_rollingledger_model_CaptureKind) hisR ?_
  intro p e s m args below meth c s₁ Bd hml0 hP hK
  obtain ⟨rfl, hZ, hh⟩ := hP
  have hx := Bd.exec
  have hby := Bd.bytes
  have hml : c.maxLocals = 5 := hml0
  have hown : s.vm.findClass "com/example/rolling_ledger/rollingledger/model/CaptureKind" = some m.cls := findClass_of_methodNamed Bd.named
  have hnm := (name_of_methodNamed Bd.named Bd.method).1
  have X0 : Stand p l e ({ frames := 3, cells := 2, slots := 4, locals := 38 } : Room) s m #[(.ref a)] below meth c s₁ [] 0 0 := Stand.of_body Bd
  have e0 : s₁.heap = h0 := by rw [← hh, Bd.state]; rfl
  have N0 := Fr.nil n0
  have O := O0
  have K := Keep.refl h0 []
  have pre0 : ∀ t, Steps p.tables e below (s₁.setTop (mkF m 0 #[.val (.ref a), .unset, .unset, .unset, .unset] [])) t → Steps p.tables e below (s₁.setTop (entryFrame m #[(.ref a)] 5)) t := fun t k => castTop (ef_11_1 m a) k
  have E_s_VALUES := o_E_s_VALUES.ext O0.2
  have V_s_VALUES := o_V_s_VALUES.ext O0.2
  have E_s_EMPTY := o_E_s_EMPTY.ext O0.2
  have F_o_s_EMPTY := o_F_o_s_EMPTY.ext O0.2
  have E_s_RESPONSE := o_E_s_RESPONSE.ext O0.2
  have F_warcType_s_RESPONSE := o_F_warcType_s_RESPONSE.ext O0.2
  have E_u0 := o_E_u0.ext O0.2
  have F_coder_u0 := o_F_coder_u0.ext O0.2
  have F_value_u0 := o_F_value_u0.ext O0.2
  have V_b0 := o_V_b0.ext O0.2
  have E_s_REVISIT := o_E_s_REVISIT.ext O0.2
  have F_warcType_s_REVISIT := o_F_warcType_s_REVISIT.ext O0.2
  have E_u1 := o_E_u1.ext O0.2
  have F_coder_u1 := o_F_coder_u1.ext O0.2
  have F_value_u1 := o_F_value_u1.ext O0.2
  have V_b1 := o_V_b1.ext O0.2
  have E_s_RESOURCE := o_E_s_RESOURCE.ext O0.2
  have F_warcType_s_RESOURCE := o_F_warcType_s_RESOURCE.ext O0.2
  have E_u2 := o_E_u2.ext O0.2
  have F_coder_u2 := o_F_coder_u2.ext O0.2
  have F_value_u2 := o_F_value_u2.ext O0.2
  have V_b2 := o_V_b2.ext O0.2
  have lt1_a := E_a.lt
  have lt1_t1 := V_t1.lt
  have lt1_s_VALUES := E_s_VALUES.lt
  have lt1_s_EMPTY := E_s_EMPTY.lt
  have lt1_s_RESPONSE := E_s_RESPONSE.lt
  have lt1_u0 := E_u0.lt
  have lt1_b0 := V_b0.lt
  have lt1_s_REVISIT := E_s_REVISIT.lt
  have lt1_u1 := E_u1.lt
  have lt1_b1 := V_b1.lt
  have lt1_s_RESOURCE := E_s_RESOURCE.lt
  have lt1_u2 := E_u2.lt
  have lt1_b2 := V_b2.lt
  obtain ⟨_, _, ⟨T1, L1, k1, n1⟩, -, X1, ⟨Lc1, hQ1, l1, y1, z1⟩, st1⟩ := Jvm.LawKit.callS X0 hx (y := (⟨"com/example/rolling_ledger/rollingledger/model/CaptureKind", "values", "()[Lcom/example/rolling_ledger/rollingledger/model/CaptureKind;"⟩ : MethodName)) hown (mvT hZ (hw _ (List.mem_of_getElem? (i := 56) rfl))) (mvT hZ (hw _ (List.mem_of_getElem? (i := 57) rfl))) (mvT hZ (hw _ (List.mem_of_getElem? (i := 51) rfl))) (mvT hZ (hw _ (List.mem_of_getElem? (i := 58) rfl))) (by decide) (backOf (W := 0) (rm12 l Z a0 hw [] kv s_VALUES s_RESPONSE s_REVISIT s_RESOURCE h0 n0 O S_s_VALUES S_s_RESPONSE S_s_REVISIT S_s_RESOURCE V_s_VALUES E_s_VALUES) hZ (hw _ (List.mem_of_getElem? (i := 58) rfl)) (hw _ (List.mem_of_getElem? (i := 51) rfl)) (by decide) (by decide)) (g := (mkF m 0 #[.val (.ref a), .unset, .unset, .unset, .unset] [])) rfl (by rw [hml]; rfl) (argsL := []) (rest := []) (lenOf pd__40_41_91Lcom_47example_47rolling_ledger_47rollingledger_47model_47CaptureKind_59 rfl) rfl (by show 2 * 0 + _ ≤ _; exact Nat.le_of_eq rfl) (hb hby d11_0) (fun _ _ => ⟨rfl, e0, (by decide : 0 + 1 ≤ _), (by decide : 0 + 3 ≤ _)⟩)
  dsimp only [Pt.U, Pt.locs, Pt.cells, Pt.slots] at X1 l1 y1 z1 st1 hQ1
  subst l1 y1 z1
  obtain ⟨z_1, rfl, N1q, K1, V_z_c1, gz_1, gn_1⟩ := hQ1
  have N1 := Fr.app N0 N1q
  have E_a := E_a.keep K1
  have F_v_a := F_v_a.keep K1 nin0
  have F_c_a := F_c_a.keep K1 nin0
  have V_t1 := V_t1.keep K1 nin0
  have E_s_VALUES := E_s_VALUES.keep K1
  have V_s_VALUES := V_s_VALUES.keep K1 nin0
  have E_s_EMPTY := E_s_EMPTY.keep K1
  have F_o_s_EMPTY := F_o_s_EMPTY.keep K1 nin0
  have E_s_RESPONSE := E_s_RESPONSE.keep K1
  have F_warcType_s_RESPONSE := F_warcType_s_RESPONSE.keep K1 nin0
  have E_u0 := E_u0.keep K1
  have F_coder_u0 := F_coder_u0.keep K1 nin0
  have F_value_u0 := F_value_u0.keep K1 nin0
  have V_b0 := V_b0.keep K1 nin0
  have E_s_REVISIT := E_s_REVISIT.keep K1
  have F_warcType_s_REVISIT := F_warcType_s_REVISIT.keep K1 nin0
  have E_u1 := E_u1.keep K1
  have F_coder_u1 := F_coder_u1.keep K1 nin0
  have F_value_u1 := F_value_u1.keep K1 nin0
  have V_b1 := V_b1.keep K1 nin0
  have E_s_RESOURCE := E_s_RESOURCE.keep K1
  have F_warcType_s_RESOURCE := F_warcType_s_RESOURCE.keep K1 nin0
  have E_u2 := E_u2.keep K1
  have F_coder_u2 := F_coder_u2.keep K1 nin0
  have F_value_u2 := F_value_u2.keep K1 nin0
  have V_b2 := V_b2.keep K1 nin0
  have ne_a_z_1 : a ≠ z_1 := Nat.ne_of_lt (Nat.lt_of_lt_of_le lt1_a gz_1)
  have ne_t1_z_1 : t1 ≠ z_1 := Nat.ne_of_lt (Nat.lt_of_lt_of_le lt1_t1 gz_1)
  have ne_s_VALUES_z_1 : s_VALUES ≠ z_1 := Nat.ne_of_lt (Nat.lt_of_lt_of_le lt1_s_VALUES gz_1)
  have ne_s_EMPTY_z_1 : s_EMPTY ≠ z_1 := Nat.ne_of_lt (Nat.lt_of_lt_of_le lt1_s_EMPTY gz_1)
  have ne_s_RESPONSE_z_1 : s_RESPONSE ≠ z_1 := Nat.ne_of_lt (Nat.lt_of_lt_of_le lt1_s_RESPONSE gz_1)
  have ne_u0_z_1 : u0 ≠ z_1 := Nat.ne_of_lt (Nat.lt_of_lt_of_le lt1_u0 gz_1)
  have ne_b0_z_1 : b0 ≠ z_1 := Nat.ne_of_lt (Nat.lt_of_lt_of_le lt1_b0 gz_1)
  have ne_s_REVISIT_z_1 : s_REVISIT ≠ z_1 := Nat.ne_of_lt (Nat.lt_of_lt_of_le lt1_s_REVISIT gz_1)
  have ne_u1_z_1 : u1 ≠ z_1 := Nat.ne_of_lt (Nat.lt_of_lt_of_le lt1_u1 gz_1)
  have ne_b1_z_1 : b1 ≠ z_1 := Nat.ne_of_lt (Nat.lt_of_lt_of_le lt1_b1 gz_1)
  have ne_s_RESOURCE_z_1 : s_RESOURCE ≠ z_1 := Nat.ne_of_lt (Nat.lt_of_lt_of_le lt1_s_RESOURCE gz_1)
  have ne_u2_z_1 : u2 ≠ z_1 := Nat.ne_of_lt (Nat.lt_of_lt_of_le lt1_u2 gz_1)
  have ne_b2_z_1 : b2 ≠ z_1 := Nat.ne_of_lt (Nat.lt_of_lt_of_le lt1_b2 gz_1)
  have g_z_1 := gn_1
  have z_z_1 : h0.size ≤ z_1 := Nat.le_trans K.1 gz_1
  have O := O.keep K1 all0
  have K := K.trans K1 all0
  obtain ⟨cl2, Ar2, -, Z2, N2, -, -⟩ := id V_z_c1
  obtain ⟨cl3, Ar3, q3, Z3, N3, H3, G3⟩ := id V_z_c1
  have hin3 : ¬ ((0 : Int32) < 0 ∨ cl3.slots.size ≤ ((0 : Int32)).toNatClampNeg) := inb_of Z3 ⟨by decide, by decide⟩
  have hat3 : cl3.slots[((0 : Int32)).toNatClampNeg]? = some (.ref s_RESPONSE) := H3.at hin3 rfl
  obtain ⟨T4, X4, e4, st4⟩ := getF X1 hx hZ hown (host := "") (Or.inl (hw _ (List.mem_of_getElem? (i := 73) rfl))) Via.refl rfl F_warcType_s_RESPONSE (g := (mkF m 21 #[.val (.ref a), .val (.ref z_1), .val (.int (3 : Int32)), .val (.int (0 : Int32)), .val (.ref s_RESPONSE)] [(.ref s_RESPONSE)])) rfl rfl (hb hby d11_21)
  obtain ⟨cq5, kq5, q5a, q5b, q5c⟩ := isOf hZ e4 E_u0
  obtain ⟨v5, _, ⟨T5, L5, k5, n5⟩, -, X5, ⟨Lc5, hQ5, l5, y5, z5⟩, st5⟩ := X4.virtualBack hx (y := (⟨"java/lang/String", "equals", "(Ljava/lang/Object;)Z"⟩ : MethodName)) (z := (⟨"java/lang/String", "equals", "(Ljava/lang/Object;)Z"⟩ : MethodName)) hown (mvT hZ (hw _ (List.mem_of_getElem? (i := 75) rfl))) (mvT hZ (hw _ (List.mem_of_getElem? (i := 41) rfl))) (notFace_of_selects (args := #[]) (mvT hZ (hw _ (List.mem_of_getElem? (i := 43) rfl)))) (mvT hZ (hw _ (List.mem_of_getElem? (i := 43) rfl))) (mvT hZ (hw _ (List.mem_of_getElem? (i := 42) rfl))) (by decide) (StrChars.Road.eqW (W := 0) hZ (own_wEq hw) (kI := 4) (hw _ (List.mem_of_getElem? (i := 6) rfl)) E_u0 F_value_u0 F_coder_u0 V_b0 own_cod_114_101_115_112_111_110_115_101 own_cod_114_101_115_112_111_110_115_101b (Nat.le_of_ble_eq_true rfl) E_a F_v_a F_c_a V_t1 (StrChars.Road.codOf rfl (fun c hc => (hp c hc).2)) (own_up hp) hl (SC.ext O.2) hzc (by decide) (by decide)) q5a q5c (g := (mkF m 25 #[.val (.ref a), .val (.ref z_1), .val (.int (3 : Int32)), .val (.int (0 : Int32)), .val (.ref s_RESPONSE)] [(.ref a), (.ref u0)])) rfl (by rw [hml]; rfl) (Steps.refl _) (argsL := [(.ref a)]) (rest := []) (lenOf pd__40Ljava_47lang_47Object_59_41Z rfl) rfl (by show 2 * 0 + _ ≤ _; exact Nat.le_of_eq rfl) (hb hby d11_25) (fun _ _ => ⟨rfl, e4, (by decide : 1 + 0 ≤ _), (by decide : 3 + 0 ≤ _)⟩)
  dsimp only [Pt.U, Pt.locs, Pt.cells, Pt.slots] at X5 l5 y5 z5 st5 hQ5
  subst l5 y5 z5
  obtain ⟨hv5, rfl, eh5⟩ := hQ5
  obtain rfl : v5 = some (.int (own_eqs ([(114 : Int32), (101 : Int32), (115 : Int32), (112 : Int32), (111 : Int32), (110 : Int32), (115 : Int32), (101 : Int32)] : List Int32) cs)) := by rcases hv5 with ⟨h1, h2⟩ | ⟨h1, h2⟩ <;> rw [h1] <;> simp only [own_eqs, h2, if_true, if_false]
  have N5 := Fr.app N1 (Fr.nil n0)
  obtain ⟨cl6, Ar6, q6, Z6, N6, H6, G6⟩ := id V_z_c1
  have hin6 : ¬ ((1 : Int32) < 0 ∨ cl6.slots.size ≤ ((1 : Int32)).toNatClampNeg) := inb_of Z6 ⟨by decide, by decide⟩
  have hat6 : cl6.slots[((1 : Int32)).toNatClampNeg]? = some (.ref s_REVISIT) := H6.at hin6 rfl
  obtain ⟨T7, X7, e7, st7⟩ := getF X5 hx hZ hown (host := "") (Or.inl (hw _ (List.mem_of_getElem? (i := 73) rfl))) Via.refl eh5 F_warcType_s_REVISIT (g := (mkF m 21 #[.val (.ref a), .val (.ref z_1), .val (.int (3 : Int32)), .val (.int (1 : Int32)), .val (.ref s_REVISIT)] [(.ref s_REVISIT)])) rfl rfl (hb hby d11_21)
  obtain ⟨cq8, kq8, q8a, q8b, q8c⟩ := isOf hZ e7 E_u1
  obtain ⟨v8, _, ⟨T8, L8, k8, n8⟩, -, X8, ⟨Lc8, hQ8, l8, y8, z8⟩, st8⟩ := X7.virtualBack hx (y := (⟨"java/lang/String", "equals", "(Ljava/lang/Object;)Z"⟩ : MethodName)) (z := (⟨"java/lang/String", "equals", "(Ljava/lang/Object;)Z"⟩ : MethodName)) hown (mvT hZ (hw _ (List.mem_of_getElem? (i := 75) rfl))) (mvT hZ (hw _ (List.mem_of_getElem? (i := 41) rfl))) (notFace_of_selects (args := #[]) (mvT hZ (hw _ (List.mem_of_getElem? (i := 43) rfl)))) (mvT hZ (hw _ (List.mem_of_getElem? (i := 43) rfl))) (mvT hZ (hw _ (List.mem_of_getElem? (i := 42) rfl))) (by decide) (StrChars.Road.eqW (W := 0) hZ (own_wEq hw) (kI := 4) (hw _ (List.mem_of_getElem? (i := 6) rfl)) E_u1 F_value_u1 F_coder_u1 V_b1 own_cod_114_101_118_105_115_105_116 own_cod_114_101_118_105_115_105_116b (Nat.le_of_ble_eq_true rfl) E_a F_v_a F_c_a V_t1 (StrChars.Road.codOf rfl (fun c hc => (hp c hc).2)) (own_up hp) hl (SC.ext O.2) hzc (by decide) (by decide)) q8a q8c (g := (mkF m 25 #[.val (.ref a), .val (.ref z_1), .val (.int (3 : Int32)), .val (.int (1 : Int32)), .val (.ref s_REVISIT)] [(.ref a), (.ref u1)])) rfl (by rw [hml]; rfl) (Steps.refl _) (argsL := [(.ref a)]) (rest := []) (lenOf pd__40Ljava_47lang_47Object_59_41Z rfl) rfl (by show 2 * 0 + _ ≤ _; exact Nat.le_of_eq rfl) (hb hby d11_25) (fun _ _ => ⟨rfl, e7, (by decide : 1 + 0 ≤ _), (by decide : 3 + 0 ≤ _)⟩)
  dsimp only [Pt.U, Pt.locs, Pt.cells, Pt.slots] at X8 l8 y8 z8 st8 hQ8
  subst l8 y8 z8
  obtain ⟨hv8, rfl, eh8⟩ := hQ8
  obtain rfl : v8 = some (.int (own_eqs ([(114 : Int32), (101 : Int32), (118 : Int32), (105 : Int32), (115 : Int32), (105 : Int32), (116 : Int32)] : List Int32) cs)) := by rcases hv8 with ⟨h1, h2⟩ | ⟨h1, h2⟩ <;> rw [h1] <;> simp only [own_eqs, h2, if_true, if_false]
  have N8 := Fr.app N5 (Fr.nil n0)
  obtain ⟨_, _, ⟨T9, L9, k9, n9⟩, -, X9, ⟨Lc9, hQ9, l9, y9, z9⟩, st9⟩ := Jvm.LawKit.callS X8 hx (y := (⟨"java/util/Optional", "of", "(Ljava/lang/Object;)Ljava/util/Optional;"⟩ : MethodName)) hown (mvT hZ (hw _ (List.mem_of_getElem? (i := 76) rfl))) (mvT hZ (hw _ (List.mem_of_getElem? (i := 77) rfl))) (mvT hZ (hw _ (List.mem_of_getElem? (i := 78) rfl))) (mvT hZ (hw _ (List.mem_of_getElem? (i := 79) rfl))) (by decide) (backOf (W := 0) (rm13 l Z a0 hw [] s_REVISIT T1.heap n0 O ) hZ (hw _ (List.mem_of_getElem? (i := 79) rfl)) (hw _ (List.mem_of_getElem? (i := 78) rfl)) (by decide) (by decide)) (g := (mkF m 33 #[.val (.ref a), .val (.ref z_1), .val (.int (3 : Int32)), .val (.int (1 : Int32)), .val (.ref s_REVISIT)] [(.ref s_REVISIT)])) rfl (by rw [hml]; rfl) (argsL := [(.ref s_REVISIT)]) (rest := []) (lenOf pd__40Ljava_47lang_47Object_59_41Ljava_47util_47Optional_59 rfl) rfl (by show 2 * 0 + _ ≤ _; exact Nat.le_of_eq rfl) (hb hby d11_33) (fun _ _ => ⟨rfl, eh8, (by decide : 1 + 1 ≤ _), (by decide : 3 + 1 ≤ _)⟩)
  dsimp only [Pt.U, Pt.locs, Pt.cells, Pt.slots] at X9 l9 y9 z9 st9 hQ9
  subst l9 y9 z9
  obtain ⟨z_9, rfl, N9q, K9, E_z_c9, F_o_z_c9⟩ := hQ9
  have N9 := Fr.app N8 N9q
  have E_a := E_a.keep K9
  have F_v_a := F_v_a.keep K9 nin0
  have F_c_a := F_c_a.keep K9 nin0
  have V_t1 := V_t1.keep K9 nin0
  have E_s_VALUES := E_s_VALUES.keep K9
  have V_s_VALUES := V_s_VALUES.keep K9 nin0
  have E_s_EMPTY := E_s_EMPTY.keep K9
  have F_o_s_EMPTY := F_o_s_EMPTY.keep K9 nin0
  have E_s_RESPONSE := E_s_RESPONSE.keep K9
  have F_warcType_s_RESPONSE := F_warcType_s_RESPONSE.keep K9 nin0
  have E_u0 := E_u0.keep K9
  have F_coder_u0 := F_coder_u0.keep K9 nin0
  have F_value_u0 := F_value_u0.keep K9 nin0
  have V_b0 := V_b0.keep K9 nin0
  have E_s_REVISIT := E_s_REVISIT.keep K9
  have F_warcType_s_REVISIT := F_warcType_s_REVISIT.keep K9 nin0
  have E_u1 := E_u1.keep K9
  have F_coder_u1 := F_coder_u1.keep K9 nin0
  have F_value_u1 := F_value_u1.keep K9 nin0
  have V_b1 := V_b1.keep K9 nin0
  have E_s_RESOURCE := E_s_RESOURCE.keep K9
  have F_warcType_s_RESOURCE := F_warcType_s_RESOURCE.keep K9 nin0
  have E_u2 := E_u2.keep K9
  have F_coder_u2 := F_coder_u2.keep K9 nin0
  have F_value_u2 := F_value_u2.keep K9 nin0
  have V_b2 := V_b2.keep K9 nin0
  have V_z_c1 := V_z_c1.keep K9 nin0
  have O := O.keep K9 all0
  have K := K.trans K9 all0
  have w10 : ∀ t, Steps p.tables e below (T9.setTop (mkF m 36 #[.val (.ref a), .val (.ref z_1), .val (.int (3 : Int32)), .val (.int (1 : Int32)), .val (.ref s_REVISIT)] [(.ref z_9)])) t → Steps p.tables e below (s₁.setTop (entryFrame m #[(.ref a)] 5)) t := fun t k => by
    refine pre0 t ?_
    refine st1 _ ?_
    show Steps p.tables e below (T1.setTop (mkF m 3 #[.val (.ref a), .unset, .unset, .unset, .unset] [(.ref z_1)])) _
    refine XS.astoreN X1.here hx rfl (hb hby d11_3) rfl rfl (l' := #[.val (.ref a), .val (.ref z_1), .unset, .unset, .unset]) rfl ?_
    show Steps p.tables e below (T1.setTop (mkF m 4 #[.val (.ref a), .val (.ref z_1), .unset, .unset, .unset] [])) _
    refine XS.aloadN X1.here hx rfl (hb hby d11_4) rfl rfl ?_
    show Steps p.tables e below (T1.setTop (mkF m 5 #[.val (.ref a), .val (.ref z_1), .unset, .unset, .unset] [(.ref z_1)])) _
    refine X1.arraylength hx (by exact Ar2.1) (State.isArrayOf_alike hZ.alike Ar2.2.1) (g := (mkF m 5 #[.val (.ref a), .val (.ref z_1), .unset, .unset, .unset] [(.ref z_1)])) rfl rfl (hb hby d11_5) _ ?_
    rw [len_of Z2 N2]
    show Steps p.tables e below (T1.setTop (mkF m 6 #[.val (.ref a), .val (.ref z_1), .unset, .unset, .unset] [(.int (3 : Int32))])) _
    refine XS.istoreN X1.here hx rfl (hb hby d11_6) rfl (l' := #[.val (.ref a), .val (.ref z_1), .val (.int (3 : Int32)), .unset, .unset]) rfl ?_
    show Steps p.tables e below (T1.setTop (mkF m 7 #[.val (.ref a), .val (.ref z_1), .val (.int (3 : Int32)), .unset, .unset] [])) _
    refine XS.iconst X1.here hx rfl (hb hby d11_7) ?_
    show Steps p.tables e below (T1.setTop (mkF m 8 #[.val (.ref a), .val (.ref z_1), .val (.int (3 : Int32)), .unset, .unset] [(.int (0 : Int32))])) _
    refine XS.istoreN X1.here hx rfl (hb hby d11_8) rfl (l' := #[.val (.ref a), .val (.ref z_1), .val (.int (3 : Int32)), .val (.int (0 : Int32)), .unset]) rfl ?_
    show Steps p.tables e below (T1.setTop (mkF m 9 #[.val (.ref a), .val (.ref z_1), .val (.int (3 : Int32)), .val (.int (0 : Int32)), .unset] [])) _
    refine XS.iloadN X1.here hx rfl (hb hby d11_9) rfl ?_
    show Steps p.tables e below (T1.setTop (mkF m 10 #[.val (.ref a), .val (.ref z_1), .val (.int (3 : Int32)), .val (.int (0 : Int32)), .unset] [(.int (0 : Int32))])) _
    refine XS.iloadN X1.here hx rfl (hb hby d11_10) rfl ?_
    show Steps p.tables e below (T1.setTop (mkF m 11 #[.val (.ref a), .val (.ref z_1), .val (.int (3 : Int32)), .val (.int (0 : Int32)), .unset] [(.int (3 : Int32)), (.int (0 : Int32))])) _
    refine XS.icmpNo X1.here hx rfl (hb hby d11_11) rfl (tlt ((by decide) : (0 : Int32) < (3 : Int32))).2.1 ?_
    show Steps p.tables e below (T1.setTop (mkF m 14 #[.val (.ref a), .val (.ref z_1), .val (.int (3 : Int32)), .val (.int (0 : Int32)), .unset] [])) _
    refine XS.aloadN X1.here hx rfl (hb hby d11_14) rfl rfl ?_
    show Steps p.tables e below (T1.setTop (mkF m 15 #[.val (.ref a), .val (.ref z_1), .val (.int (3 : Int32)), .val (.int (0 : Int32)), .unset] [(.ref z_1)])) _
    refine XS.iloadN X1.here hx rfl (hb hby d11_15) rfl ?_
    show Steps p.tables e below (T1.setTop (mkF m 16 #[.val (.ref a), .val (.ref z_1), .val (.int (3 : Int32)), .val (.int (0 : Int32)), .unset] [(.int (0 : Int32)), (.ref z_1)])) _
    refine X1.aaload hx (j := (0 : Int32)) (v := (.ref s_RESPONSE)) (by exact Ar3.1) (State.isArrayOf_alike hZ.alike Ar3.2.1) rfl Ar3.2.2 hin3 hat3 (g := (mkF m 16 #[.val (.ref a), .val (.ref z_1), .val (.int (3 : Int32)), .val (.int (0 : Int32)), .unset] [(.int (0 : Int32)), (.ref z_1)])) rfl rfl (hb hby d11_16) _ ?_
    show Steps p.tables e below (T1.setTop (mkF m 17 #[.val (.ref a), .val (.ref z_1), .val (.int (3 : Int32)), .val (.int (0 : Int32)), .unset] [(.ref s_RESPONSE)])) _
    refine XS.astore X1.here hx rfl (hb hby d11_17) rfl rfl (l' := #[.val (.ref a), .val (.ref z_1), .val (.int (3 : Int32)), .val (.int (0 : Int32)), .val (.ref s_RESPONSE)]) rfl ?_
    show Steps p.tables e below (T1.setTop (mkF m 19 #[.val (.ref a), .val (.ref z_1), .val (.int (3 : Int32)), .val (.int (0 : Int32)), .val (.ref s_RESPONSE)] [])) _
    refine XS.aload X1.here hx rfl (hb hby d11_19) rfl rfl ?_
    show Steps p.tables e below (T1.setTop (mkF m 21 #[.val (.ref a), .val (.ref z_1), .val (.int (3 : Int32)), .val (.int (0 : Int32)), .val (.ref s_RESPONSE)] [(.ref s_RESPONSE)])) _
    refine st4 _ ?_
    show Steps p.tables e below (T4.setTop (mkF m 24 #[.val (.ref a), .val (.ref z_1), .val (.int (3 : Int32)), .val (.int (0 : Int32)), .val (.ref s_RESPONSE)] [(.ref u0)])) _
    refine XS.aloadN X4.here hx rfl (hb hby d11_24) rfl rfl ?_
    show Steps p.tables e below (T4.setTop (mkF m 25 #[.val (.ref a), .val (.ref z_1), .val (.int (3 : Int32)), .val (.int (0 : Int32)), .val (.ref s_RESPONSE)] [(.ref a), (.ref u0)])) _
    refine st5.trans ?_
    show Steps p.tables e below (T5.setTop (mkF m 28 #[.val (.ref a), .val (.ref z_1), .val (.int (3 : Int32)), .val (.int (0 : Int32)), .val (.ref s_RESPONSE)] [(.int (own_eqs ([(114 : Int32), (101 : Int32), (115 : Int32), (112 : Int32), (111 : Int32), (110 : Int32), (115 : Int32), (101 : Int32)] : List Int32) cs))])) _
    refine XS.ifYes X5.here hx rfl (pc0 := 28) (pc' := 37) rfl (hb hby d11_28) rfl ((if0 _ _).trans (teq (own_en (fun e => own_01 (hy1.symm.trans e.symm)) : (own_eqs ([(114 : Int32), (101 : Int32), (115 : Int32), (112 : Int32), (111 : Int32), (110 : Int32), (115 : Int32), (101 : Int32)] : List Int32) cs) = (0 : Int32))).1) (by decide) (by decide) ?_
    show Steps p.tables e below (T5.setTop (mkF m 37 #[.val (.ref a), .val (.ref z_1), .val (.int (3 : Int32)), .val (.int (0 : Int32)), .val (.ref s_RESPONSE)] [])) _
    refine XS.iinc X5.here hx rfl (hb hby d11_37) rfl (l' := #[.val (.ref a), .val (.ref z_1), .val (.int (3 : Int32)), .val (.int (1 : Int32)), .val (.ref s_RESPONSE)]) rfl ?_
    show Steps p.tables e below (T5.setTop (mkF m 40 #[.val (.ref a), .val (.ref z_1), .val (.int (3 : Int32)), .val (.int (1 : Int32)), .val (.ref s_RESPONSE)] [])) _
    refine XS.goto X5.here hx rfl (pc0 := 40) (pc' := 9) rfl (hb hby d11_40) (by decide) (by decide) ?_
    show Steps p.tables e below (T5.setTop (mkF m 9 #[.val (.ref a), .val (.ref z_1), .val (.int (3 : Int32)), .val (.int (1 : Int32)), .val (.ref s_RESPONSE)] [])) _
    refine XS.iloadN X5.here hx rfl (hb hby d11_9) rfl ?_
    show Steps p.tables e below (T5.setTop (mkF m 10 #[.val (.ref a), .val (.ref z_1), .val (.int (3 : Int32)), .val (.int (1 : Int32)), .val (.ref s_RESPONSE)] [(.int (1 : Int32))])) _
    refine XS.iloadN X5.here hx rfl (hb hby d11_10) rfl ?_
    show Steps p.tables e below (T5.setTop (mkF m 11 #[.val (.ref a), .val (.ref z_1), .val (.int (3 : Int32)), .val (.int (1 : Int32)), .val (.ref s_RESPONSE)] [(.int (3 : Int32)), (.int (1 : Int32))])) _
    refine XS.icmpNo X5.here hx rfl (hb hby d11_11) rfl (tlt ((by decide) : (1 : Int32) < (3 : Int32))).2.1 ?_
    show Steps p.tables e below (T5.setTop (mkF m 14 #[.val (.ref a), .val (.ref z_1), .val (.int (3 : Int32)), .val (.int (1 : Int32)), .val (.ref s_RESPONSE)] [])) _
    refine XS.aloadN X5.here hx rfl (hb hby d11_14) rfl rfl ?_
    show Steps p.tables e below (T5.setTop (mkF m 15 #[.val (.ref a), .val (.ref z_1), .val (.int (3 : Int32)), .val (.int (1 : Int32)), .val (.ref s_RESPONSE)] [(.ref z_1)])) _
    refine XS.iloadN X5.here hx rfl (hb hby d11_15) rfl ?_
    show Steps p.tables e below (T5.setTop (mkF m 16 #[.val (.ref a), .val (.ref z_1), .val (.int (3 : Int32)), .val (.int (1 : Int32)), .val (.ref s_RESPONSE)] [(.int (1 : Int32)), (.ref z_1)])) _
    refine X5.aaload hx (j := (1 : Int32)) (v := (.ref s_REVISIT)) (by rw [eh5]; exact Ar6.1) (State.isArrayOf_alike hZ.alike Ar6.2.1) rfl Ar6.2.2 hin6 hat6 (g := (mkF m 16 #[.val (.ref a), .val (.ref z_1), .val (.int (3 : Int32)), .val (.int (1 : Int32)), .val (.ref s_RESPONSE)] [(.int (1 : Int32)), (.ref z_1)])) rfl rfl (hb hby d11_16) _ ?_
    show Steps p.tables e below (T5.setTop (mkF m 17 #[.val (.ref a), .val (.ref z_1), .val (.int (3 : Int32)), .val (.int (1 : Int32)), .val (.ref s_RESPONSE)] [(.ref s_REVISIT)])) _
    refine XS.astore X5.here hx rfl (hb hby d11_17) rfl rfl (l' := #[.val (.ref a), .val (.ref z_1), .val (.int (3 : Int32)), .val (.int (1 : Int32)), .val (.ref s_REVISIT)]) rfl ?_
    show Steps p.tables e below (T5.setTop (mkF m 19 #[.val (.ref a), .val (.ref z_1), .val (.int (3 : Int32)), .val (.int (1 : Int32)), .val (.ref s_REVISIT)] [])) _
    refine XS.aload X5.here hx rfl (hb hby d11_19) rfl rfl ?_
    show Steps p.tables e below (T5.setTop (mkF m 21 #[.val (.ref a), .val (.ref z_1), .val (.int (3 : Int32)), .val (.int (1 : Int32)), .val (.ref s_REVISIT)] [(.ref s_REVISIT)])) _
    refine st7 _ ?_
    show Steps p.tables e below (T7.setTop (mkF m 24 #[.val (.ref a), .val (.ref z_1), .val (.int (3 : Int32)), .val (.int (1 : Int32)), .val (.ref s_REVISIT)] [(.ref u1)])) _
    refine XS.aloadN X7.here hx rfl (hb hby d11_24) rfl rfl ?_
    show Steps p.tables e below (T7.setTop (mkF m 25 #[.val (.ref a), .val (.ref z_1), .val (.int (3 : Int32)), .val (.int (1 : Int32)), .val (.ref s_REVISIT)] [(.ref a), (.ref u1)])) _
    refine st8.trans ?_
    show Steps p.tables e below (T8.setTop (mkF m 28 #[.val (.ref a), .val (.ref z_1), .val (.int (3 : Int32)), .val (.int (1 : Int32)), .val (.ref s_REVISIT)] [(.int (own_eqs ([(114 : Int32), (101 : Int32), (118 : Int32), (105 : Int32), (115 : Int32), (105 : Int32), (116 : Int32)] : List Int32) cs))])) _
    refine XS.ifNo X8.here hx rfl (hb hby d11_28) rfl ((if0 _ _).trans (feq (own_ey hy1.symm : ¬ ((own_eqs ([(114 : Int32), (101 : Int32), (118 : Int32), (105 : Int32), (115 : Int32), (105 : Int32), (116 : Int32)] : List Int32) cs) = (0 : Int32)))).1) ?_
    show Steps p.tables e below (T8.setTop (mkF m 31 #[.val (.ref a), .val (.ref z_1), .val (.int (3 : Int32)), .val (.int (1 : Int32)), .val (.ref s_REVISIT)] [])) _
    refine XS.aload X8.here hx rfl (hb hby d11_31) rfl rfl ?_
    show Steps p.tables e below (T8.setTop (mkF m 33 #[.val (.ref a), .val (.ref z_1), .val (.int (3 : Int32)), .val (.int (1 : Int32)), .val (.ref s_REVISIT)] [(.ref s_REVISIT)])) _
    refine st9 _ ?_
    show Steps p.tables e below (T9.setTop (mkF m 36 #[.val (.ref a), .val (.ref z_1), .val (.int (3 : Int32)), .val (.int (1 : Int32)), .val (.ref s_REVISIT)] [(.ref z_9)])) _
    exact k
  obtain ⟨fs, hr, hrun, hended, hW, hsame⟩ := X9.leave (v := some (.ref z_9)) (fun h => by rw [Bd.returns] at h; cases h)
  refine ⟨_, _, w10 _ ?_, hrun, hended, _, _, rfl, ?_, ⟨_, rfl⟩, hW, hsame.mono (by decide) (by decide)⟩
  · jvm_step X9.here [X9.here.top, hx, (hb hby d11_36), X9.method', Bd.returns, Value.isRef, FieldType.isReference]
    first | (intro acts; rw [hr _ acts rfl rfl rfl]) | rw [hr _ _ rfl rfl rfl]
    exact Steps.refl _
  · show Q11_1 Z a kv u0 b0 kb0 u1 b1 kb1 u2 b2 kb2 t1 kb cs zc s_VALUES s_RESPONSE s_REVISIT s_RESOURCE s_EMPTY h0 n0 _ T9.heap _
    exact ⟨z_9, rfl, N9, K, E_z_c9, F_o_z_c9⟩
theorem ef_11_2 (m : MethodId) (x0 : Addr) : entryFrame m #[(.ref x0)] 5 = mkF m 0 #[.val (.ref x0), .unset, .unset, .unset, .unset] [] := by first | (simp [entryFrame, mkF, argsToLocals, Value.category]; done) | rfl
def Q11_2 (Z : State) (a : Addr) (kv : ClassId) (u0 : Addr) (b0 : Addr) (kb0 : ClassId) (u1 : Addr) (b1 : Addr) (kb1 : ClassId) (u2 : Addr) (b2 : Addr) (kb2 : ClassId) (t1 : Addr) (kb : ClassId) (cs : List Int32) (zc : Int32) (s_VALUES : Addr) (s_RESPONSE : Addr) (s_REVISIT : Addr) (s_RESOURCE : Addr) (s_EMPTY : Addr) (h0 : Heap) (n0 : Nat) (v : Option Value) (h : Heap) (L : List Loc) : Prop := ∃ z : Addr, v = some (.ref z) ∧ Fr n0 L ∧ Keep h0 h [] ∧ Exa Z h z "java/util/Optional" ∧ Fld Z h z "java/util/Optional" "value" "Ljava/lang/Object;" (.ref s_RESOURCE)
set_option maxRecDepth 65536 in
set_option maxHeartbeats 40000000 in
theorem rm11_2 (l : Launch) (Z : State) (a0 : Array Value) (hw : ∀ d ∈ tables_1, d.before a0 Z = true) (ws : List Jvm.Cond) (a : Addr) (kv : ClassId) (u0 : Addr) (b0 : Addr) (kb0 : ClassId) (u1 : Addr) (b1 : Addr) (kb1 : ClassId) (u2 : Addr) (b2 : Addr) (kb2 : ClassId) (t1 : Addr) (kb : ClassId) (cs : List Int32) (zc : Int32) (s_VALUES : Addr) (s_RESPONSE : Addr) (s_REVISIT : Addr) (s_RESOURCE : Addr) (s_EMPTY : Addr) (h0 : Heap) (n0 : Nat) (O0 : Old Z n0 h0) (S_s_VALUES : Sta Z Z.heap "com/example/rolling_ledger/rollingledger/model/CaptureKind" "$VALUES" "[Lcom/example/rolling_ledger/rollingledger/model/CaptureKind;" (.ref s_VALUES)) (S_s_RESPONSE : Sta Z Z.heap "com/example/rolling_ledger/rollingledger/model/CaptureKind" "RESPONSE" "Lcom/example/rolling_ledger/rollingledger/model/CaptureKind;" (.ref s_RESPONSE)) (S_s_REVISIT : Sta Z Z.heap "com/example/rolling_ledger/rollingledger/model/CaptureKind" "REVISIT" "Lcom/example/rolling_ledger/rollingledger/model/CaptureKind;" (.ref s_REVISIT)) (S_s_RESOURCE : Sta Z Z.heap "com/example/rolling_ledger/rollingledger/model/CaptureKind" "RESOURCE" "Lcom/example/rolling_ledger/rollingledger/model/CaptureKind;" (.ref s_RESOURCE)) (S_s_EMPTY : Sta Z Z.heap "java/util/Optional" "EMPTY" "Ljava/util/Optional;" (.ref s_EMPTY)) (E_a : Exa Z h0 a "java/lang/String") (F_v_a : Fld Z h0 a "java/lang/String" "value" "[B" (.ref t1)) (F_c_a : Fld Z h0 a "java/lang/String" "coder" "B" (.int (0 : Int32))) (V_t1 : Arv Z h0 t1 kb .byte (Int32.ofNat cs.length) ((cs.map (fun c => c.toInt8.toInt32)).map Value.int) (.int (0 : Int32))) (hp : ∀ c ∈ cs, ¬ c < 0 ∧ ¬ (255 : Int32) < c) (hl : cs.length ≤ 4000) (hy2 : cs = ([(114 : Int32), (101 : Int32), (115 : Int32), (111 : Int32), (117 : Int32), (114 : Int32), (99 : Int32), (101 : Int32)] : List Int32)) (SC : Sta Z Z.heap "java/lang/String" "COMPACT_STRINGS" "Z" (.int zc)) (hzc : ¬ zc = 0) (o_E_s_VALUES : Exa Z Z.heap s_VALUES "[Lcom/example/rolling_ledger/rollingledger/model/CaptureKind;") (o_V_s_VALUES : Arv Z Z.heap s_VALUES kv (.object "com/example/rolling_ledger/rollingledger/model/CaptureKind") (3 : Int32) [(.ref s_RESPONSE), (.ref s_REVISIT), (.ref s_RESOURCE)] .null) (o_E_s_EMPTY : Exa Z Z.heap s_EMPTY "java/util/Optional") (o_F_o_s_EMPTY : Fld Z Z.heap s_EMPTY "java/util/Optional" "value" "Ljava/lang/Object;" .null) (o_E_s_RESPONSE : Exa Z Z.heap s_RESPONSE "com/example/rolling_ledger/rollingledger/model/CaptureKind") (o_F_warcType_s_RESPONSE : Fld Z Z.heap s_RESPONSE "com/example/rolling_ledger/rollingledger/model/CaptureKind" "warcType" "Ljava/lang/String;" (.ref u0)) (o_E_u0 : Exa Z Z.heap u0 "java/lang/String") (o_F_coder_u0 : Fld Z Z.heap u0 "java/lang/String" "coder" "B" (.int (0 : Int32))) (o_F_value_u0 : Fld Z Z.heap u0 "java/lang/String" "value" "[B" (.ref b0)) (o_V_b0 : Arv Z Z.heap b0 kb0 .byte (8 : Int32) [(.int (114 : Int32)), (.int (101 : Int32)), (.int (115 : Int32)), (.int (112 : Int32)), (.int (111 : Int32)), (.int (110 : Int32)), (.int (115 : Int32)), (.int (101 : Int32))] (.int (0 : Int32))) (o_E_s_REVISIT : Exa Z Z.heap s_REVISIT "com/example/rolling_ledger/rollingledger/model/CaptureKind") (o_F_warcType_s_REVISIT : Fld Z Z.heap s_REVISIT "com/example/rolling_ledger/rollingledger/model/CaptureKind" "warcType" "Ljava/lang/String;" (.ref u1)) (o_E_u1 : Exa Z Z.heap u1 "java/lang/String") (o_F_coder_u1 : Fld Z Z.heap u1 "java/lang/String" "coder" "B" (.int (0 : Int32))) (o_F_value_u1 : Fld Z Z.heap u1 "java/lang/String" "value" "[B" (.ref b1)) (o_V_b1 : Arv Z Z.heap b1 kb1 .byte (7 : Int32) [(.int (114 : Int32)), (.int (101 : Int32)), (.int (118 : Int32)), (.int (105 : Int32)), (.int (115 : Int32)), (.int (105 : Int32)), (.int (116 : Int32))] (.int (0 : Int32))) (o_E_s_RESOURCE : Exa Z Z.heap s_RESOURCE "com/example/rolling_ledger/rollingledger/model/CaptureKind") (o_F_warcType_s_RESOURCE : Fld Z Z.heap s_RESOURCE "com/example/rolling_ledger/rollingledger/model/CaptureKind" "warcType" "Ljava/lang/String;" (.ref u2)) (o_E_u2 : Exa Z Z.heap u2 "java/lang/String") (o_F_coder_u2 : Fld Z Z.heap u2 "java/lang/String" "coder" "B" (.int (0 : Int32))) (o_F_value_u2 : Fld Z Z.heap u2 "java/lang/String" "value" "[B" (.ref b2)) (o_V_b2 : Arv Z Z.heap b2 kb2 .byte (8 : Int32) [(.int (114 : Int32)), (.int (101 : Int32)), (.int (115 : Int32)), (.int (111 : Int32)), (.int (117 : Int32)), (.int (114 : Int32)), (.int (99 : Int32)), (.int (101 : Int32))] (.int (0 : Int32))) :
    MetFree l (⟨"com/example/rolling_ledger/rollingledger/model/CaptureKind", "ofWarcType", "(Ljava/lang/String;)Ljava/util/Optional;"⟩ : MethodName) (head1 (Jvm.Cond.code (⟨"com/example/rolling_ledger/rollingledger/model/CaptureKind", "ofWarcType", "(Ljava/lang/String;)Ljava/util/Optional;"⟩ : MethodName) prog_6_method_4_code 5 (some (.object "java/util/Optional")) :: ws) ({ frames := 3, cells := 2, slots := 4, locals := 38 } : Room)) (fun aA uU => aA = #[(.ref a)] ∧ Z.Warmed39 uU.vm ∧ uU.heap = h0) (fun _ _ _ _ _ => True) (fun _ uU oO uU' => ∃ vV lL, oO = .returned vV ∧ Q11_2 Z a kv u0 b0 kb0 u1 b1 kb1 u2 b2 kb2 t1 kb cs zc s_VALUES s_RESPONSE s_REVISIT s_RESOURCE s_EMPTY h0 n0 vV uU'.heap lL ∧ FrameEnd uU oO uU' lL ({ frames := 3, cells := 2, slots := 4, locals := 38 } : Room).cells ({ frames := 3, cells := 2, slots := 4, locals := 38 } : Room).slots) := by
  refine MetFree.of_bodySF (plainFor_of_name pn_com_example_rolling_ledger_rollingledger_model_CaptureKind) hisR ?_
  intro p e s m args below meth c s₁ Bd hml0 hP hK
  obtain ⟨rfl, hZ, hh⟩ := hP
  have hx := Bd.exec
  have hby := Bd.bytes
  have hml : c.maxLocals = 5 := hml0
  have hown : s.vm.findClass "com/example/rolling_ledger/rollingledger/model/CaptureKind" = some m.cls := findClass_of_methodNamed Bd.named
  have hnm := (name_of_methodNamed Bd.named Bd.method).1
  have X0 : Stand p l e ({ frames := 3, cells := 2, slots := 4, locals := 38 } : Room) s m #[(.ref a)] below meth c s₁ [] 0 0 := Stand.of_body Bd
  have e0 : s₁.heap = h0 := by rw [← hh, Bd.state]; rfl
  have N0 := Fr.nil n0
  have O := O0
  have K := Keep.refl h0 []
  have pre0 : ∀ t, Steps p.tables e below (s₁.setTop (mkF m 0 #[.val (.ref a), .unset, .unset, .unset, .unset] [])) t → Steps p.tables e below (s₁.setTop (entryFrame m #[(.ref a)] 5)) t := fun t k => castTop (ef_11_2 m a) k
  have E_s_VALUES := o_E_s_VALUES.ext O0.2
  have V_s_VALUES := o_V_s_VALUES.ext O0.2
  have E_s_EMPTY := o_E_s_EMPTY.ext O0.2
  have F_o_s_EMPTY := o_F_o_s_EMPTY.ext O0.2
  have E_s_RESPONSE := o_E_s_RESPONSE.ext O0.2
  have F_warcType_s_RESPONSE := o_F_warcType_s_RESPONSE.ext O0.2
  have E_u0 := o_E_u0.ext O0.2
  have F_coder_u0 := o_F_coder_u0.ext O0.2
  have F_value_u0 := o_F_value_u0.ext O0.2
  have V_b0 := o_V_b0.ext O0.2
  have E_s_REVISIT := o_E_s_REVISIT.ext O0.2
  have F_warcType_s_REVISIT := o_F_warcType_s_REVISIT.ext O0.2
  have E_u1 := o_E_u1.ext O0.2
  have F_coder_u1 := o_F_coder_u1.ext O0.2
  have F_value_u1 := o_F_value_u1.ext O0.2
  have V_b1 := o_V_b1.ext O0.2
  have E_s_RESOURCE := o_E_s_RESOURCE.ext O0.2
  have F_warcType_s_RESOURCE := o_F_warcType_s_RESOURCE.ext O0.2
  have E_u2 := o_E_u2.ext O0.2
  have F_coder_u2 := o_F_coder_u2.ext O0.2
  have F_value_u2 := o_F_value_u2.ext O0.2
  have V_b2 := o_V_b2.ext O0.2
  have lt1_a := E_a.lt
  have lt1_t1 := V_t1.lt
  have lt1_s_VALUES := E_s_VALUES.lt
  have lt1_s_EMPTY := E_s_EMPTY.lt
  have lt1_s_RESPONSE := E_s_RESPONSE.lt
  have lt1_u0 := E_u0.lt
  have lt1_b0 := V_b0.lt
  have lt1_s_REVISIT := E_s_REVISIT.lt
  have lt1_u1 := E_u1.lt
  have lt1_b1 := V_b1.lt
  have lt1_s_RESOURCE := E_s_RESOURCE.lt
  have lt1_u2 := E_u2.lt
  have lt1_b2 := V_b2.lt
  obtain ⟨_, _, ⟨T1, L1, k1, n1⟩, -, X1, ⟨Lc1, hQ1, l1, y1, z1⟩, st1⟩ := Jvm.LawKit.callS X0 hx (y := (⟨"com/example/rolling_ledger/rollingledger/model/CaptureKind", "values", "()[Lcom/example/rolling_ledger/rollingledger/model/CaptureKind;"⟩ : MethodName)) hown (mvT hZ (hw _ (List.mem_of_getElem? (i := 56) rfl))) (mvT hZ (hw _ (List.mem_of_getElem? (i := 57) rfl))) (mvT hZ (hw _ (List.mem_of_getElem? (i := 51) rfl))) (mvT hZ (hw _ (List.mem_of_getElem? (i := 58) rfl))) (by decide) (backOf (W := 0) (rm12 l Z a0 hw [] kv s_VALUES s_RESPONSE s_REVISIT s_RESOURCE h0 n0 O S_s_VALUES S_s_RESPONSE S_s_REVISIT S_s_RESOURCE V_s_VALUES E_s_VALUES) hZ (hw _ (List.mem_of_getElem? (i := 58) rfl)) (hw _ (List.mem_of_getElem? (i := 51) rfl)) (by decide) (by decide)) (g := (mkF m 0 #[.val (.ref a), .unset, .unset, .unset, .unset] [])) rfl (by rw [hml]; rfl) (argsL := []) (rest := []) (lenOf pd__40_41_91Lcom_47example_47rolling_ledger_47rollingledger_47model_47CaptureKind_59 rfl) rfl (by show 2 * 0 + _ ≤ _; exact Nat.le_of_eq rfl) (hb hby d11_0) (fun _ _ => ⟨rfl, e0, (by decide : 0 + 1 ≤ _), (by decide : 0 + 3 ≤ _)⟩)
  dsimp only [Pt.U, Pt.locs, Pt.cells, Pt.slots] at X1 l1 y1 z1 st1 hQ1
  subst l1 y1 z1
  obtain ⟨z_1, rfl, N1q, K1, V_z_c1, gz_1, gn_1⟩ := hQ1
  have N1 := Fr.app N0 N1q
  have E_a := E_a.keep K1
  have F_v_a := F_v_a.keep K1 nin0
  have F_c_a := F_c_a.keep K1 nin0
  have V_t1 := V_t1.keep K1 nin0
  have E_s_VALUES := E_s_VALUES.keep K1
  have V_s_VALUES := V_s_VALUES.keep K1 nin0
  have E_s_EMPTY := E_s_EMPTY.keep K1
  have F_o_s_EMPTY := F_o_s_EMPTY.keep K1 nin0
  have E_s_RESPONSE := E_s_RESPONSE.keep K1
  have F_warcType_s_RESPONSE := F_warcType_s_RESPONSE.keep K1 nin0
  have E_u0 := E_u0.keep K1
  have F_coder_u0 := F_coder_u0.keep K1 nin0
  have F_value_u0 := F_value_u0.keep K1 nin0
  have V_b0 := V_b0.keep K1 nin0
  have E_s_REVISIT := E_s_REVISIT.keep K1
  have F_warcType_s_REVISIT := F_warcType_s_REVISIT.keep K1 nin0
  have E_u1 := E_u1.keep K1
  have F_coder_u1 := F_coder_u1.keep K1 nin0
  have F_value_u1 := F_value_u1.keep K1 nin0
  have V_b1 := V_b1.keep K1 nin0
  have E_s_RESOURCE := E_s_RESOURCE.keep K1
  have F_warcType_s_RESOURCE := F_warcType_s_RESOURCE.keep K1 nin0
  have E_u2 := E_u2.keep K1
  have F_coder_u2 := F_coder_u2.keep K1 nin0
  have F_value_u2 := F_value_u2.keep K1 nin0
  have V_b2 := V_b2.keep K1 nin0
  have ne_a_z_1 : a ≠ z_1 := Nat.ne_of_lt (Nat.lt_of_lt_of_le lt1_a gz_1)
  have ne_t1_z_1 : t1 ≠ z_1 := Nat.ne_of_lt (Nat.lt_of_lt_of_le lt1_t1 gz_1)
  have ne_s_VALUES_z_1 : s_VALUES ≠ z_1 := Nat.ne_of_lt (Nat.lt_of_lt_of_le lt1_s_VALUES gz_1)
  have ne_s_EMPTY_z_1 : s_EMPTY ≠ z_1 := Nat.ne_of_lt (Nat.lt_of_lt_of_le lt1_s_EMPTY gz_1)
  have ne_s_RESPONSE_z_1 : s_RESPONSE ≠ z_1 := Nat.ne_of_lt (Nat.lt_of_lt_of_le lt1_s_RESPONSE gz_1)
  have ne_u0_z_1 : u0 ≠ z_1 := Nat.ne_of_lt (Nat.lt_of_lt_of_le lt1_u0 gz_1)
  have ne_b0_z_1 : b0 ≠ z_1 := Nat.ne_of_lt (Nat.lt_of_lt_of_le lt1_b0 gz_1)
  have ne_s_REVISIT_z_1 : s_REVISIT ≠ z_1 := Nat.ne_of_lt (Nat.lt_of_lt_of_le lt1_s_REVISIT gz_1)
  have ne_u1_z_1 : u1 ≠ z_1 := Nat.ne_of_lt (Nat.lt_of_lt_of_le lt1_u1 gz_1)
  have ne_b1_z_1 : b1 ≠ z_1 := Nat.ne_of_lt (Nat.lt_of_lt_of_le lt1_b1 gz_1)
  have ne_s_RESOURCE_z_1 : s_RESOURCE ≠ z_1 := Nat.ne_of_lt (Nat.lt_of_lt_of_le lt1_s_RESOURCE gz_1)
  have ne_u2_z_1 : u2 ≠ z_1 := Nat.ne_of_lt (Nat.lt_of_lt_of_le lt1_u2 gz_1)
  have ne_b2_z_1 : b2 ≠ z_1 := Nat.ne_of_lt (Nat.lt_of_lt_of_le lt1_b2 gz_1)
  have g_z_1 := gn_1
  have z_z_1 : h0.size ≤ z_1 := Nat.le_trans K.1 gz_1
  have O := O.keep K1 all0
  have K := K.trans K1 all0
  obtain ⟨cl2, Ar2, -, Z2, N2, -, -⟩ := id V_z_c1
  obtain ⟨cl3, Ar3, q3, Z3, N3, H3, G3⟩ := id V_z_c1
  have hin3 : ¬ ((0 : Int32) < 0 ∨ cl3.slots.size ≤ ((0 : Int32)).toNatClampNeg) := inb_of Z3 ⟨by decide, by decide⟩
  have hat3 : cl3.slots[((0 : Int32)).toNatClampNeg]? = some (.ref s_RESPONSE) := H3.at hin3 rfl
  obtain ⟨T4, X4, e4, st4⟩ := getF X1 hx hZ hown (host := "") (Or.inl (hw _ (List.mem_of_getElem? (i := 73) rfl))) Via.refl rfl F_warcType_s_RESPONSE (g := (mkF m 21 #[.val (.ref a), .val (.ref z_1), .val (.int (3 : Int32)), .val (.int (0 : Int32)), .val (.ref s_RESPONSE)] [(.ref s_RESPONSE)])) rfl rfl (hb hby d11_21)
  obtain ⟨cq5, kq5, q5a, q5b, q5c⟩ := isOf hZ e4 E_u0
  obtain ⟨v5, _, ⟨T5, L5, k5, n5⟩, -, X5, ⟨Lc5, hQ5, l5, y5, z5⟩, st5⟩ := X4.virtualBack hx (y := (⟨"java/lang/String", "equals", "(Ljava/lang/Object;)Z"⟩ : MethodName)) (z := (⟨"java/lang/String", "equals", "(Ljava/lang/Object;)Z"⟩ : MethodName)) hown (mvT hZ (hw _ (List.mem_of_getElem? (i := 75) rfl))) (mvT hZ (hw _ (List.mem_of_getElem? (i := 41) rfl))) (notFace_of_selects (args := #[]) (mvT hZ (hw _ (List.mem_of_getElem? (i := 43) rfl)))) (mvT hZ (hw _ (List.mem_of_getElem? (i := 43) rfl))) (mvT hZ (hw _ (List.mem_of_getElem? (i := 42) rfl))) (by decide) (StrChars.Road.eqW (W := 0) hZ (own_wEq hw) (kI := 4) (hw _ (List.mem_of_getElem? (i := 6) rfl)) E_u0 F_value_u0 F_coder_u0 V_b0 own_cod_114_101_115_112_111_110_115_101 own_cod_114_101_115_112_111_110_115_101b (Nat.le_of_ble_eq_true rfl) E_a F_v_a F_c_a V_t1 (StrChars.Road.codOf rfl (fun c hc => (hp c hc).2)) (own_up hp) hl (SC.ext O.2) hzc (by decide) (by decide)) q5a q5c (g := (mkF m 25 #[.val (.ref a), .val (.ref z_1), .val (.int (3 : Int32)), .val (.int (0 : Int32)), .val (.ref s_RESPONSE)] [(.ref a), (.ref u0)])) rfl (by rw [hml]; rfl) (Steps.refl _) (argsL := [(.ref a)]) (rest := []) (lenOf pd__40Ljava_47lang_47Object_59_41Z rfl) rfl (by show 2 * 0 + _ ≤ _; exact Nat.le_of_eq rfl) (hb hby d11_25) (fun _ _ => ⟨rfl, e4, (by decide : 1 + 0 ≤ _), (by decide : 3 + 0 ≤ _)⟩)
  dsimp only [Pt.U, Pt.locs, Pt.cells, Pt.slots] at X5 l5 y5 z5 st5 hQ5
  subst l5 y5 z5
  obtain ⟨hv5, rfl, eh5⟩ := hQ5
  obtain rfl : v5 = some (.int (own_eqs ([(114 : Int32), (101 : Int32), (115 : Int32), (112 : Int32), (111 : Int32), (110 : Int32), (115 : Int32), (101 : Int32)] : List Int32) cs)) := by rcases hv5 with ⟨h1, h2⟩ | ⟨h1, h2⟩ <;> rw [h1] <;> simp only [own_eqs, h2, if_true, if_false]
  have N5 := Fr.app N1 (Fr.nil n0)
  obtain ⟨cl6, Ar6, q6, Z6, N6, H6, G6⟩ := id V_z_c1
  have hin6 : ¬ ((1 : Int32) < 0 ∨ cl6.slots.size ≤ ((1 : Int32)).toNatClampNeg) := inb_of Z6 ⟨by decide, by decide⟩
  have hat6 : cl6.slots[((1 : Int32)).toNatClampNeg]? = some (.ref s_REVISIT) := H6.at hin6 rfl
  obtain ⟨T7, X7, e7, st7⟩ := getF X5 hx hZ hown (host := "") (Or.inl (hw _ (List.mem_of_getElem? (i := 73) rfl))) Via.refl eh5 F_warcType_s_REVISIT (g := (mkF m 21 #[.val (.ref a), .val (.ref z_1), .val (.int (3 : Int32)), .val (.int (1 : Int32)), .val (.ref s_REVISIT)] [(.ref s_REVISIT)])) rfl rfl (hb hby d11_21)
  obtain ⟨cq8, kq8, q8a, q8b, q8c⟩ := isOf hZ e7 E_u1
  obtain ⟨v8, _, ⟨T8, L8, k8, n8⟩, -, X8, ⟨Lc8, hQ8, l8, y8, z8⟩, st8⟩ := X7.virtualBack hx (y := (⟨"java/lang/String", "equals", "(Ljava/lang/Object;)Z"⟩ : MethodName)) (z := (⟨"java/lang/String", "equals", "(Ljava/lang/Object;)Z"⟩ : MethodName)) hown (mvT hZ (hw _ (List.mem_of_getElem? (i := 75) rfl))) (mvT hZ (hw _ (List.mem_of_getElem? (i := 41) rfl))) (notFace_of_selects (args := #[]) (mvT hZ (hw _ (List.mem_of_getElem? (i := 43) rfl)))) (mvT hZ (hw _ (List.mem_of_getElem? (i := 43) rfl))) (mvT hZ (hw _ (List.mem_of_getElem? (i := 42) rfl))) (by decide) (StrChars.Road.eqW (W := 0) hZ (own_wEq hw) (kI := 4) (hw _ (List.mem_of_getElem? (i := 6) rfl)) E_u1 F_value_u1 F_coder_u1 V_b1 own_cod_114_101_118_105_115_105_116 own_cod_114_101_118_105_115_105_116b (Nat.le_of_ble_eq_true rfl) E_a F_v_a F_c_a V_t1 (StrChars.Road.codOf rfl (fun c hc => (hp c hc).2)) (own_up hp) hl (SC.ext O.2) hzc (by decide) (by decide)) q8a q8c (g := (mkF m 25 #[.val (.ref a), .val (.ref z_1), .val (.int (3 : Int32)), .val (.int (1 : Int32)), .val (.ref s_REVISIT)] [(.ref a), (.ref u1)])) rfl (by rw [hml]; rfl) (Steps.refl _) (argsL := [(.ref a)]) (rest := []) (lenOf pd__40Ljava_47lang_47Object_59_41Z rfl) rfl (by show 2 * 0 + _ ≤ _; exact Nat.le_of_eq rfl) (hb hby d11_25) (fun _ _ => ⟨rfl, e7, (by decide : 1 + 0 ≤ _), (by decide : 3 + 0 ≤ _)⟩)
  dsimp only [Pt.U, Pt.locs, Pt.cells, Pt.slots] at X8 l8 y8 z8 st8 hQ8
  subst l8 y8 z8
  obtain ⟨hv8, rfl, eh8⟩ := hQ8
  obtain rfl : v8 = some (.int (own_eqs ([(114 : Int32), (101 : Int32), (118 : Int32), (105 : Int32), (115 : Int32), (105 : Int32), (116 : Int32)] : List Int32) cs)) := by rcases hv8 with ⟨h1, h2⟩ | ⟨h1, h2⟩ <;> rw [h1] <;> simp only [own_eqs, h2, if_true, if_false]
  have N8 := Fr.app N5 (Fr.nil n0)
  obtain ⟨cl9, Ar9, q9, Z9, N9, H9, G9⟩ := id V_z_c1
  have hin9 : ¬ ((2 : Int32) < 0 ∨ cl9.slots.size ≤ ((2 : Int32)).toNatClampNeg) := inb_of Z9 ⟨by decide, by decide⟩
  have hat9 : cl9.slots[((2 : Int32)).toNatClampNeg]? = some (.ref s_RESOURCE) := H9.at hin9 rfl
  obtain ⟨T10, X10, e10, st10⟩ := getF X8 hx hZ hown (host := "") (Or.inl (hw _ (List.mem_of_getElem? (i := 73) rfl))) Via.refl eh8 F_warcType_s_RESOURCE (g := (mkF m 21 #[.val (.ref a), .val (.ref z_1), .val (.int (3 : Int32)), .val (.int (2 : Int32)), .val (.ref s_RESOURCE)] [(.ref s_RESOURCE)])) rfl rfl (hb hby d11_21)
  obtain ⟨cq11, kq11, q11a, q11b, q11c⟩ := isOf hZ e10 E_u2
  obtain ⟨v11, _, ⟨T11, L11, k11, n11⟩, -, X11, ⟨Lc11, hQ11, l11, y11, z11⟩, st11⟩ := X10.virtualBack hx (y := (⟨"java/lang/String", "equals", "(Ljava/lang/Object;)Z"⟩ : MethodName)) (z := (⟨"java/lang/String", "equals", "(Ljava/lang/Object;)Z"⟩ : MethodName)) hown (mvT hZ (hw _ (List.mem_of_getElem? (i := 75) rfl))) (mvT hZ (hw _ (List.mem_of_getElem? (i := 41) rfl))) (notFace_of_selects (args := #[]) (mvT hZ (hw _ (List.mem_of_getElem? (i := 43) rfl)))) (mvT hZ (hw _ (List.mem_of_getElem? (i := 43) rfl))) (mvT hZ (hw _ (List.mem_of_getElem? (i := 42) rfl))) (by decide) (StrChars.Road.eqW (W := 0) hZ (own_wEq hw) (kI := 4) (hw _ (List.mem_of_getElem? (i := 6) rfl)) E_u2 F_value_u2 F_coder_u2 V_b2 own_cod_114_101_115_111_117_114_99_101 own_cod_114_101_115_111_117_114_99_101b (Nat.le_of_ble_eq_true rfl) E_a F_v_a F_c_a V_t1 (StrChars.Road.codOf rfl (fun c hc => (hp c hc).2)) (own_up hp) hl (SC.ext O.2) hzc (by decide) (by decide)) q11a q11c (g := (mkF m 25 #[.val (.ref a), .val (.ref z_1), .val (.int (3 : Int32)), .val (.int (2 : Int32)), .val (.ref s_RESOURCE)] [(.ref a), (.ref u2)])) rfl (by rw [hml]; rfl) (Steps.refl _) (argsL := [(.ref a)]) (rest := []) (lenOf pd__40Ljava_47lang_47Object_59_41Z rfl) rfl (by show 2 * 0 + _ ≤ _; exact Nat.le_of_eq rfl) (hb hby d11_25) (fun _ _ => ⟨rfl, e10, (by decide : 1 + 0 ≤ _), (by decide : 3 + 0 ≤ _)⟩)
  dsimp only [Pt.U, Pt.locs, Pt.cells, Pt.slots] at X11 l11 y11 z11 st11 hQ11
  subst l11 y11 z11
  obtain ⟨hv11, rfl, eh11⟩ := hQ11
  obtain rfl : v11 = some (.int (own_eqs ([(114 : Int32), (101 : Int32), (115 : Int32), (111 : Int32), (117 : Int32), (114 : Int32), (99 : Int32), (101 : Int32)] : List Int32) cs)) := by rcases hv11 with ⟨h1, h2⟩ | ⟨h1, h2⟩ <;> rw [h1] <;> simp only [own_eqs, h2, if_true, if_false]
  have N11 := Fr.app N8 (Fr.nil n0)
  obtain ⟨_, _, ⟨T12, L12, k12, n12⟩, -, X12, ⟨Lc12, hQ12, l12, y12, z12⟩, st12⟩ := Jvm.LawKit.callS X11 hx (y := (⟨"java/util/Optional", "of", "(Ljava/lang/Object;)Ljava/util/Optional;"⟩ : MethodName)) hown (mvT hZ (hw _ (List.mem_of_getElem? (i := 76) rfl))) (mvT hZ (hw _ (List.mem_of_getElem? (i := 77) rfl))) (mvT hZ (hw _ (List.mem_of_getElem? (i := 78) rfl))) (mvT hZ (hw _ (List.mem_of_getElem? (i := 79) rfl))) (by decide) (backOf (W := 0) (rm13 l Z a0 hw [] s_RESOURCE T1.heap n0 O ) hZ (hw _ (List.mem_of_getElem? (i := 79) rfl)) (hw _ (List.mem_of_getElem? (i := 78) rfl)) (by decide) (by decide)) (g := (mkF m 33 #[.val (.ref a), .val (.ref z_1), .val (.int (3 : Int32)), .val (.int (2 : Int32)), .val (.ref s_RESOURCE)] [(.ref s_RESOURCE)])) rfl (by rw [hml]; rfl) (argsL := [(.ref s_RESOURCE)]) (rest := []) (lenOf pd__40Ljava_47lang_47Object_59_41Ljava_47util_47Optional_59 rfl) rfl (by show 2 * 0 + _ ≤ _; exact Nat.le_of_eq rfl) (hb hby d11_33) (fun _ _ => ⟨rfl, eh11, (by decide : 1 + 1 ≤ _), (by decide : 3 + 1 ≤ _)⟩)
  dsimp only [Pt.U, Pt.locs, Pt.cells, Pt.slots] at X12 l12 y12 z12 st12 hQ12
  subst l12 y12 z12
  obtain ⟨z_12, rfl, N12q, K12, E_z_c12, F_o_z_c12⟩ := hQ12
  have N12 := Fr.app N11 N12q
  have E_a := E_a.keep K12
  have F_v_a := F_v_a.keep K12 nin0
  have F_c_a := F_c_a.keep K12 nin0
  have V_t1 := V_t1.keep K12 nin0
  have E_s_VALUES := E_s_VALUES.keep K12
  have V_s_VALUES := V_s_VALUES.keep K12 nin0
  have E_s_EMPTY := E_s_EMPTY.keep K12
  have F_o_s_EMPTY := F_o_s_EMPTY.keep K12 nin0
  have E_s_RESPONSE := E_s_RESPONSE.keep K12
  have F_warcType_s_RESPONSE := F_warcType_s_RESPONSE.keep K12 nin0
  have E_u0 := E_u0.keep K12
  have F_coder_u0 := F_coder_u0.keep K12 nin0
  have F_value_u0 := F_value_u0.keep K12 nin0
  have V_b0 := V_b0.keep K12 nin0
  have E_s_REVISIT := E_s_REVISIT.keep K12
  have F_warcType_s_REVISIT := F_warcType_s_REVISIT.keep K12 nin0
  have E_u1 := E_u1.keep K12
  have F_coder_u1 := F_coder_u1.keep K12 nin0
  have F_value_u1 := F_value_u1.keep K12 nin0
  have V_b1 := V_b1.keep K12 nin0
  have E_s_RESOURCE := E_s_RESOURCE.keep K12
  have F_warcType_s_RESOURCE := F_warcType_s_RESOURCE.keep K12 nin0
  have E_u2 := E_u2.keep K12
  have F_coder_u2 := F_coder_u2.keep K12 nin0
  have F_value_u2 := F_value_u2.keep K12 nin0
  have V_b2 := V_b2.keep K12 nin0
  have V_z_c1 := V_z_c1.keep K12 nin0
  have O := O.keep K12 all0
  have K := K.trans K12 all0
  have w13 : ∀ t, Steps p.tables e below (T12.setTop (mkF m 36 #[.val (.ref a), .val (.ref z_1), .val (.int (3 : Int32)), .val (.int (2 : Int32)), .val (.ref s_RESOURCE)] [(.ref z_12)])) t → Steps p.tables e below (s₁.setTop (entryFrame m #[(.ref a)] 5)) t := fun t k => by
    refine pre0 t ?_
    refine st1 _ ?_
    show Steps p.tables e below (T1.setTop (mkF m 3 #[.val (.ref a), .unset, .unset, .unset, .unset] [(.ref z_1)])) _
    refine XS.astoreN X1.here hx rfl (hb hby d11_3) rfl rfl (l' := #[.val (.ref a), .val (.ref z_1), .unset, .unset, .unset]) rfl ?_
    show Steps p.tables e below (T1.setTop (mkF m 4 #[.val (.ref a), .val (.ref z_1), .unset, .unset, .unset] [])) _
    refine XS.aloadN X1.here hx rfl (hb hby d11_4) rfl rfl ?_
    show Steps p.tables e below (T1.setTop (mkF m 5 #[.val (.ref a), .val (.ref z_1), .unset, .unset, .unset] [(.ref z_1)])) _
    refine X1.arraylength hx (by exact Ar2.1) (State.isArrayOf_alike hZ.alike Ar2.2.1) (g := (mkF m 5 #[.val (.ref a), .val (.ref z_1), .unset, .unset, .unset] [(.ref z_1)])) rfl rfl (hb hby d11_5) _ ?_
    rw [len_of Z2 N2]
    show Steps p.tables e below (T1.setTop (mkF m 6 #[.val (.ref a), .val (.ref z_1), .unset, .unset, .unset] [(.int (3 : Int32))])) _
    refine XS.istoreN X1.here hx rfl (hb hby d11_6) rfl (l' := #[.val (.ref a), .val (.ref z_1), .val (.int (3 : Int32)), .unset, .unset]) rfl ?_
    show Steps p.tables e below (T1.setTop (mkF m 7 #[.val (.ref a), .val (.ref z_1), .val (.int (3 : Int32)), .unset, .unset] [])) _
    refine XS.iconst X1.here hx rfl (hb hby d11_7) ?_
    show Steps p.tables e below (T1.setTop (mkF m 8 #[.val (.ref a), .val (.ref z_1), .val (.int (3 : Int32)), .unset, .unset] [(.int (0 : Int32))])) _
    refine XS.istoreN X1.here hx rfl (hb hby d11_8) rfl (l' := #[.val (.ref a), .val (.ref z_1), .val (.int (3 : Int32)), .val (.int (0 : Int32)), .unset]) rfl ?_
    show Steps p.tables e below (T1.setTop (mkF m 9 #[.val (.ref a), .val (.ref z_1), .val (.int (3 : Int32)), .val (.int (0 : Int32)), .unset] [])) _
    refine XS.iloadN X1.here hx rfl (hb hby d11_9) rfl ?_
    show Steps p.tables e below (T1.setTop (mkF m 10 #[.val (.ref a), .val (.ref z_1), .val (.int (3 : Int32)), .val (.int (0 : Int32)), .unset] [(.int (0 : Int32))])) _
    refine XS.iloadN X1.here hx rfl (hb hby d11_10) rfl ?_
    show Steps p.tables e below (T1.setTop (mkF m 11 #[.val (.ref a), .val (.ref z_1), .val (.int (3 : Int32)), .val (.int (0 : Int32)), .unset] [(.int (3 : Int32)), (.int (0 : Int32))])) _
    refine XS.icmpNo X1.here hx rfl (hb hby d11_11) rfl (tlt ((by decide) : (0 : Int32) < (3 : Int32))).2.1 ?_
    show Steps p.tables e below (T1.setTop (mkF m 14 #[.val (.ref a), .val (.ref z_1), .val (.int (3 : Int32)), .val (.int (0 : Int32)), .unset] [])) _
    refine XS.aloadN X1.here hx rfl (hb hby d11_14) rfl rfl ?_
    show Steps p.tables e below (T1.setTop (mkF m 15 #[.val (.ref a), .val (.ref z_1), .val (.int (3 : Int32)), .val (.int (0 : Int32)), .unset] [(.ref z_1)])) _
    refine XS.iloadN X1.here hx rfl (hb hby d11_15) rfl ?_
    show Steps p.tables e below (T1.setTop (mkF m 16 #[.val (.ref a), .val (.ref z_1), .val (.int (3 : Int32)), .val (.int (0 : Int32)), .unset] [(.int (0 : Int32)), (.ref z_1)])) _
    refine X1.aaload hx (j := (0 : Int32)) (v := (.ref s_RESPONSE)) (by exact Ar3.1) (State.isArrayOf_alike hZ.alike Ar3.2.1) rfl Ar3.2.2 hin3 hat3 (g := (mkF m 16 #[.val (.ref a), .val (.ref z_1), .val (.int (3 : Int32)), .val (.int (0 : Int32)), .unset] [(.int (0 : Int32)), (.ref z_1)])) rfl rfl (hb hby d11_16) _ ?_
    show Steps p.tables e below (T1.setTop (mkF m 17 #[.val (.ref a), .val (.ref z_1), .val (.int (3 : Int32)), .val (.int (0 : Int32)), .unset] [(.ref s_RESPONSE)])) _
    refine XS.astore X1.here hx rfl (hb hby d11_17) rfl rfl (l' := #[.val (.ref a), .val (.ref z_1), .val (.int (3 : Int32)), .val (.int (0 : Int32)), .val (.ref s_RESPONSE)]) rfl ?_
    show Steps p.tables e below (T1.setTop (mkF m 19 #[.val (.ref a), .val (.ref z_1), .val (.int (3 : Int32)), .val (.int (0 : Int32)), .val (.ref s_RESPONSE)] [])) _
    refine XS.aload X1.here hx rfl (hb hby d11_19) rfl rfl ?_
    show Steps p.tables e below (T1.setTop (mkF m 21 #[.val (.ref a), .val (.ref z_1), .val (.int (3 : Int32)), .val (.int (0 : Int32)), .val (.ref s_RESPONSE)] [(.ref s_RESPONSE)])) _
    refine st4 _ ?_
    show Steps p.tables e below (T4.setTop (mkF m 24 #[.val (.ref a), .val (.ref z_1), .val (.int (3 : Int32)), .val (.int (0 : Int32)), .val (.ref s_RESPONSE)] [(.ref u0)])) _
    refine XS.aloadN X4.here hx rfl (hb hby d11_24) rfl rfl ?_
    show Steps p.tables e below (T4.setTop (mkF m 25 #[.val (.ref a), .val (.ref z_1), .val (.int (3 : Int32)), .val (.int (0 : Int32)), .val (.ref s_RESPONSE)] [(.ref a), (.ref u0)])) _
    refine st5.trans ?_
    show Steps p.tables e below (T5.setTop (mkF m 28 #[.val (.ref a), .val (.ref z_1), .val (.int (3 : Int32)), .val (.int (0 : Int32)), .val (.ref s_RESPONSE)] [(.int (own_eqs ([(114 : Int32), (101 : Int32), (115 : Int32), (112 : Int32), (111 : Int32), (110 : Int32), (115 : Int32), (101 : Int32)] : List Int32) cs))])) _
    refine XS.ifYes X5.here hx rfl (pc0 := 28) (pc' := 37) rfl (hb hby d11_28) rfl ((if0 _ _).trans (teq (own_en (fun e => own_02 (hy2.symm.trans e.symm)) : (own_eqs ([(114 : Int32), (101 : Int32), (115 : Int32), (112 : Int32), (111 : Int32), (110 : Int32), (115 : Int32), (101 : Int32)] : List Int32) cs) = (0 : Int32))).1) (by decide) (by decide) ?_
    show Steps p.tables e below (T5.setTop (mkF m 37 #[.val (.ref a), .val (.ref z_1), .val (.int (3 : Int32)), .val (.int (0 : Int32)), .val (.ref s_RESPONSE)] [])) _
    refine XS.iinc X5.here hx rfl (hb hby d11_37) rfl (l' := #[.val (.ref a), .val (.ref z_1), .val (.int (3 : Int32)), .val (.int (1 : Int32)), .val (.ref s_RESPONSE)]) rfl ?_
    show Steps p.tables e below (T5.setTop (mkF m 40 #[.val (.ref a), .val (.ref z_1), .val (.int (3 : Int32)), .val (.int (1 : Int32)), .val (.ref s_RESPONSE)] [])) _
    refine XS.goto X5.here hx rfl (pc0 := 40) (pc' := 9) rfl (hb hby d11_40) (by decide) (by decide) ?_
    show Steps p.tables e below (T5.setTop (mkF m 9 #[.val (.ref a), .val (.ref z_1), .val (.int (3 : Int32)), .val (.int (1 : Int32)), .val (.ref s_RESPONSE)] [])) _
    refine XS.iloadN X5.here hx rfl (hb hby d11_9) rfl ?_
    show Steps p.tables e below (T5.setTop (mkF m 10 #[.val (.ref a), .val (.ref z_1), .val (.int (3 : Int32)), .val (.int (1 : Int32)), .val (.ref s_RESPONSE)] [(.int (1 : Int32))])) _
    refine XS.iloadN X5.here hx rfl (hb hby d11_10) rfl ?_
    show Steps p.tables e below (T5.setTop (mkF m 11 #[.val (.ref a), .val (.ref z_1), .val (.int (3 : Int32)), .val (.int (1 : Int32)), .val (.ref s_RESPONSE)] [(.int (3 : Int32)), (.int (1 : Int32))])) _
    refine XS.icmpNo X5.here hx rfl (hb hby d11_11) rfl (tlt ((by decide) : (1 : Int32) < (3 : Int32))).2.1 ?_
    show Steps p.tables e below (T5.setTop (mkF m 14 #[.val (.ref a), .val (.ref z_1), .val (.int (3 : Int32)), .val (.int (1 : Int32)), .val (.ref s_RESPONSE)] [])) _
    refine XS.aloadN X5.here hx rfl (hb hby d11_14) rfl rfl ?_
    show Steps p.tables e below (T5.setTop (mkF m 15 #[.val (.ref a), .val (.ref z_1), .val (.int (3 : Int32)), .val (.int (1 : Int32)), .val (.ref s_RESPONSE)] [(.ref z_1)])) _
    refine XS.iloadN X5.here hx rfl (hb hby d11_15) rfl ?_
    show Steps p.tables e below (T5.setTop (mkF m 16 #[.val (.ref a), .val (.ref z_1), .val (.int (3 : Int32)), .val (.int (1 : Int32)), .val (.ref s_RESPONSE)] [(.int (1 : Int32)), (.ref z_1)])) _
    refine X5.aaload hx (j := (1 : Int32)) (v := (.ref s_REVISIT)) (by rw [eh5]; exact Ar6.1) (State.isArrayOf_alike hZ.alike Ar6.2.1) rfl Ar6.2.2 hin6 hat6 (g := (mkF m 16 #[.val (.ref a), .val (.ref z_1), .val (.int (3 : Int32)), .val (.int (1 : Int32)), .val (.ref s_RESPONSE)] [(.int (1 : Int32)), (.ref z_1)])) rfl rfl (hb hby d11_16) _ ?_
    show Steps p.tables e below (T5.setTop (mkF m 17 #[.val (.ref a), .val (.ref z_1), .val (.int (3 : Int32)), .val (.int (1 : Int32)), .val (.ref s_RESPONSE)] [(.ref s_REVISIT)])) _
    refine XS.astore X5.here hx rfl (hb hby d11_17) rfl rfl (l' := #[.val (.ref a), .val (.ref z_1), .val (.int (3 : Int32)), .val (.int (1 : Int32)), .val (.ref s_REVISIT)]) rfl ?_
    show Steps p.tables e below (T5.setTop (mkF m 19 #[.val (.ref a), .val (.ref z_1), .val (.int (3 : Int32)), .val (.int (1 : Int32)), .val (.ref s_REVISIT)] [])) _
    refine XS.aload X5.here hx rfl (hb hby d11_19) rfl rfl ?_
    show Steps p.tables e below (T5.setTop (mkF m 21 #[.val (.ref a), .val (.ref z_1), .val (.int (3 : Int32)), .val (.int (1 : Int32)), .val (.ref s_REVISIT)] [(.ref s_REVISIT)])) _
    refine st7 _ ?_
    show Steps p.tables e below (T7.setTop (mkF m 24 #[.val (.ref a), .val (.ref z_1), .val (.int (3 : Int32)), .val (.int (1 : Int32)), .val (.ref s_REVISIT)] [(.ref u1)])) _
    refine XS.aloadN X7.here hx rfl (hb hby d11_24) rfl rfl ?_
    show Steps p.tables e below (T7.setTop (mkF m 25 #[.val (.ref a), .val (.ref z_1), .val (.int (3 : Int32)), .val (.int (1 : Int32)), .val (.ref s_REVISIT)] [(.ref a), (.ref u1)])) _
    refine st8.trans ?_
    show Steps p.tables e below (T8.setTop (mkF m 28 #[.val (.ref a), .val (.ref z_1), .val (.int (3 : Int32)), .val (.int (1 : Int32)), .val (.ref s_REVISIT)] [(.int (own_eqs ([(114 : Int32), (101 : Int32), (118 : Int32), (105 : Int32), (115 : Int32), (105 : Int32), (116 : Int32)] : List Int32) cs))])) _
    refine XS.ifYes X8.here hx rfl (pc0 := 28) (pc' := 37) rfl (hb hby d11_28) rfl ((if0 _ _).trans (teq (own_en (fun e => own_12 (hy2.symm.trans e.symm)) : (own_eqs ([(114 : Int32), (101 : Int32), (118 : Int32), (105 : Int32), (115 : Int32), (105 : Int32), (116 : Int32)] : List Int32) cs) = (0 : Int32))).1) (by decide) (by decide) ?_
    show Steps p.tables e below (T8.setTop (mkF m 37 #[.val (.ref a), .val (.ref z_1), .val (.int (3 : Int32)), .val (.int (1 : Int32)), .val (.ref s_REVISIT)] [])) _
    refine XS.iinc X8.here hx rfl (hb hby d11_37) rfl (l' := #[.val (.ref a), .val (.ref z_1), .val (.int (3 : Int32)), .val (.int (2 : Int32)), .val (.ref s_REVISIT)]) rfl ?_
    show Steps p.tables e below (T8.setTop (mkF m 40 #[.val (.ref a), .val (.ref z_1), .val (.int (3 : Int32)), .val (.int (2 : Int32)), .val (.ref s_REVISIT)] [])) _
    refine XS.goto X8.here hx rfl (pc0 := 40) (pc' := 9) rfl (hb hby d11_40) (by decide) (by decide) ?_
    show Steps p.tables e below (T8.setTop (mkF m 9 #[.val (.ref a), .val (.ref z_1), .val (.int (3 : Int32)), .val (.int (2 : Int32)), .val (.ref s_REVISIT)] [])) _
    refine XS.iloadN X8.here hx rfl (hb hby d11_9) rfl ?_
    show Steps p.tables e below (T8.setTop (mkF m 10 #[.val (.ref a), .val (.ref z_1), .val (.int (3 : Int32)), .val (.int (2 : Int32)), .val (.ref s_REVISIT)] [(.int (2 : Int32))])) _
    refine XS.iloadN X8.here hx rfl (hb hby d11_10) rfl ?_
    show Steps p.tables e below (T8.setTop (mkF m 11 #[.val (.ref a), .val (.ref z_1), .val (.int (3 : Int32)), .val (.int (2 : Int32)), .val (.ref s_REVISIT)] [(.int (3 : Int32)), (.int (2 : Int32))])) _
    refine XS.icmpNo X8.here hx rfl (hb hby d11_11) rfl (tlt ((by decide) : (2 : Int32) < (3 : Int32))).2.1 ?_
    show Steps p.tables e below (T8.setTop (mkF m 14 #[.val (.ref a), .val (.ref z_1), .val (.int (3 : Int32)), .val (.int (2 : Int32)), .val (.ref s_REVISIT)] [])) _
    refine XS.aloadN X8.here hx rfl (hb hby d11_14) rfl rfl ?_
    show Steps p.tables e below (T8.setTop (mkF m 15 #[.val (.ref a), .val (.ref z_1), .val (.int (3 : Int32)), .val (.int (2 : Int32)), .val (.ref s_REVISIT)] [(.ref z_1)])) _
    refine XS.iloadN X8.here hx rfl (hb hby d11_15) rfl ?_
    show Steps p.tables e below (T8.setTop (mkF m 16 #[.val (.ref a), .val (.ref z_1), .val (.int (3 : Int32)), .val (.int (2 : Int32)), .val (.ref s_REVISIT)] [(.int (2 : Int32)), (.ref z_1)])) _
    refine X8.aaload hx (j := (2 : Int32)) (v := (.ref s_RESOURCE)) (by rw [eh8]; exact Ar9.1) (State.isArrayOf_alike hZ.alike Ar9.2.1) rfl Ar9.2.2 hin9 hat9 (g := (mkF m 16 #[.val (.ref a), .val (.ref z_1), .val (.int (3 : Int32)), .val (.int (2 : Int32)), .val (.ref s_REVISIT)] [(.int (2 : Int32)), (.ref z_1)])) rfl rfl (hb hby d11_16) _ ?_
    show Steps p.tables e below (T8.setTop (mkF m 17 #[.val (.ref a), .val (.ref z_1), .val (.int (3 : Int32)), .val (.int (2 : Int32)), .val (.ref s_REVISIT)] [(.ref s_RESOURCE)])) _
    refine XS.astore X8.here hx rfl (hb hby d11_17) rfl rfl (l' := #[.val (.ref a), .val (.ref z_1), .val (.int (3 : Int32)), .val (.int (2 : Int32)), .val (.ref s_RESOURCE)]) rfl ?_
    show Steps p.tables e below (T8.setTop (mkF m 19 #[.val (.ref a), .val (.ref z_1), .val (.int (3 : Int32)), .val (.int (2 : Int32)), .val (.ref s_RESOURCE)] [])) _
    refine XS.aload X8.here hx rfl (hb hby d11_19) rfl rfl ?_
    show Steps p.tables e below (T8.setTop (mkF m 21 #[.val (.ref a), .val (.ref z_1), .val (.int (3 : Int32)), .val (.int (2 : Int32)), .val (.ref s_RESOURCE)] [(.ref s_RESOURCE)])) _
    refine st10 _ ?_
    show Steps p.tables e below (T10.setTop (mkF m 24 #[.val (.ref a), .val (.ref z_1), .val (.int (3 : Int32)), .val (.int (2 : Int32)), .val (.ref s_RESOURCE)] [(.ref u2)])) _
    refine XS.aloadN X10.here hx rfl (hb hby d11_24) rfl rfl ?_
    show Steps p.tables e below (T10.setTop (mkF m 25 #[.val (.ref a), .val (.ref z_1), .val (.int (3 : Int32)), .val (.int (2 : Int32)), .val (.ref s_RESOURCE)] [(.ref a), (.ref u2)])) _
    refine st11.trans ?_
    show Steps p.tables e below (T11.setTop (mkF m 28 #[.val (.ref a), .val (.ref z_1), .val (.int (3 : Int32)), .val (.int (2 : Int32)), .val (.ref s_RESOURCE)] [(.int (own_eqs ([(114 : Int32), (101 : Int32), (115 : Int32), (111 : Int32), (117 : Int32), (114 : Int32), (99 : Int32), (101 : Int32)] : List Int32) cs))])) _
    refine XS.ifNo X11.here hx rfl (hb hby d11_28) rfl ((if0 _ _).trans (feq (own_ey hy2.symm : ¬ ((own_eqs ([(114 : Int32), (101 : Int32), (115 : Int32), (111 : Int32), (117 : Int32), (114 : Int32), (99 : Int32), (101 : Int32)] : List Int32) cs) = (0 : Int32)))).1) ?_
    show Steps p.tables e below (T11.setTop (mkF m 31 #[.val (.ref a), .val (.ref z_1), .val (.int (3 : Int32)), .val (.int (2 : Int32)), .val (.ref s_RESOURCE)] [])) _
    refine XS.aload X11.here hx rfl (hb hby d11_31) rfl rfl ?_
    show Steps p.tables e below (T11.setTop (mkF m 33 #[.val (.ref a), .val (.ref z_1), .val (.int (3 : Int32)), .val (.int (2 : Int32)), .val (.ref s_RESOURCE)] [(.ref s_RESOURCE)])) _
    refine st12 _ ?_
    show Steps p.tables e below (T12.setTop (mkF m 36 #[.val (.ref a), .val (.ref z_1), .val (.int (3 : Int32)), .val (.int (2 : Int32)), .val (.ref s_RESOURCE)] [(.ref z_12)])) _
    exact k
  obtain ⟨fs, hr, hrun, hended, hW, hsame⟩ := X12.leave (v := some (.ref z_12)) (fun h => by rw [Bd.returns] at h; cases h)
  refine ⟨_, _, w13 _ ?_, hrun, hended, _, _, rfl, ?_, ⟨_, rfl⟩, hW, hsame.mono (by decide) (by decide)⟩
  · jvm_step X12.here [X12.here.top, hx, (hb hby d11_36), X12.method', Bd.returns, Value.isRef, FieldType.isReference]
    first | (intro acts; rw [hr _ acts rfl rfl rfl]) | rw [hr _ _ rfl rfl rfl]
    exact Steps.refl _
  · show Q11_2 Z a kv u0 b0 kb0 u1 b1 kb1 u2 b2 kb2 t1 kb cs zc s_VALUES s_RESPONSE s_REVISIT s_RESOURCE s_EMPTY h0 n0 _ T12.heap _
    exact ⟨z_12, rfl, N12, K, E_z_c12, F_o_z_c12⟩
theorem d11_43 : decode prog_6_method_4_code 43 = .ok (.invokestatic 52, 3) := by decide +kernel
theorem pd__40_41Ljava_47util_47Optional_59 : parseMethodDescriptor "()Ljava/util/Optional;" = some ⟨[], some (.object "java/util/Optional")⟩ := by decide +kernel
theorem d11_46 : decode prog_6_method_4_code 46 = .ok (.areturn, 1) := by decide +kernel
theorem ef_11_3 (m : MethodId) (x0 : Addr) : entryFrame m #[(.ref x0)] 5 = mkF m 0 #[.val (.ref x0), .unset, .unset, .unset, .unset] [] := by first | (simp [entryFrame, mkF, argsToLocals, Value.category]; done) | rfl
def Q11_3 (Z : State) (a : Addr) (kv : ClassId) (u0 : Addr) (b0 : Addr) (kb0 : ClassId) (u1 : Addr) (b1 : Addr) (kb1 : ClassId) (u2 : Addr) (b2 : Addr) (kb2 : ClassId) (t1 : Addr) (kb : ClassId) (cs : List Int32) (zc : Int32) (s_VALUES : Addr) (s_RESPONSE : Addr) (s_REVISIT : Addr) (s_RESOURCE : Addr) (s_EMPTY : Addr) (h0 : Heap) (n0 : Nat) (v : Option Value) (h : Heap) (L : List Loc) : Prop := ∃ z : Addr, v = some (.ref z) ∧ Fr n0 L ∧ Keep h0 h [] ∧ Exa Z h z "java/util/Optional" ∧ Fld Z h z "java/util/Optional" "value" "Ljava/lang/Object;" .null
set_option maxRecDepth 65536 in
set_option maxHeartbeats 40000000 in
theorem rm11_3 (l : Launch) (Z : State) (a0 : Array Value) (hw : ∀ d ∈ tables_1, d.before a0 Z = true) (ws : List Jvm.Cond) (a : Addr) (kv : ClassId) (u0 : Addr) (b0 : Addr) (kb0 : ClassId) (u1 : Addr) (b1 : Addr) (kb1 : ClassId) (u2 : Addr) (b2 : Addr) (kb2 : ClassId) (t1 : Addr) (kb : ClassId) (cs : List Int32) (zc : Int32) (s_VALUES : Addr) (s_RESPONSE : Addr) (s_REVISIT : Addr) (s_RESOURCE : Addr) (s_EMPTY : Addr) (h0 : Heap) (n0 : Nat) (O0 : Old Z n0 h0) (S_s_VALUES : Sta Z Z.heap "com/example/rolling_ledger/rollingledger/model/CaptureKind" "$VALUES" "[Lcom/example/rolling_ledger/rollingledger/model/CaptureKind;" (.ref s_VALUES)) (S_s_RESPONSE : Sta Z Z.heap "com/example/rolling_ledger/rollingledger/model/CaptureKind" "RESPONSE" "Lcom/example/rolling_ledger/rollingledger/model/CaptureKind;" (.ref s_RESPONSE)) (S_s_REVISIT : Sta Z Z.heap "com/example/rolling_ledger/rollingledger/model/CaptureKind" "REVISIT" "Lcom/example/rolling_ledger/rollingledger/model/CaptureKind;" (.ref s_REVISIT)) (S_s_RESOURCE : Sta Z Z.heap "com/example/rolling_ledger/rollingledger/model/CaptureKind" "RESOURCE" "Lcom/example/rolling_ledger/rollingledger/model/CaptureKind;" (.ref s_RESOURCE)) (S_s_EMPTY : Sta Z Z.heap "java/util/Optional" "EMPTY" "Ljava/util/Optional;" (.ref s_EMPTY)) (E_a : Exa Z h0 a "java/lang/String") (F_v_a : Fld Z h0 a "java/lang/String" "value" "[B" (.ref t1)) (F_c_a : Fld Z h0 a "java/lang/String" "coder" "B" (.int (0 : Int32))) (V_t1 : Arv Z h0 t1 kb .byte (Int32.ofNat cs.length) ((cs.map (fun c => c.toInt8.toInt32)).map Value.int) (.int (0 : Int32))) (hp : ∀ c ∈ cs, ¬ c < 0 ∧ ¬ (255 : Int32) < c) (hl : cs.length ≤ 4000) (hy0 : ¬ cs = ([(114 : Int32), (101 : Int32), (115 : Int32), (112 : Int32), (111 : Int32), (110 : Int32), (115 : Int32), (101 : Int32)] : List Int32)) (hy1 : ¬ cs = ([(114 : Int32), (101 : Int32), (118 : Int32), (105 : Int32), (115 : Int32), (105 : Int32), (116 : Int32)] : List Int32)) (hy2 : ¬ cs = ([(114 : Int32), (101 : Int32), (115 : Int32), (111 : Int32), (117 : Int32), (114 : Int32), (99 : Int32), (101 : Int32)] : List Int32)) (SC : Sta Z Z.heap "java/lang/String" "COMPACT_STRINGS" "Z" (.int zc)) (hzc : ¬ zc = 0) (o_E_s_VALUES : Exa Z Z.heap s_VALUES "[Lcom/example/rolling_ledger/rollingledger/model/CaptureKind;") (o_V_s_VALUES : Arv Z Z.heap s_VALUES kv (.object "com/example/rolling_ledger/rollingledger/model/CaptureKind") (3 : Int32) [(.ref s_RESPONSE), (.ref s_REVISIT), (.ref s_RESOURCE)] .null) (o_E_s_EMPTY : Exa Z Z.heap s_EMPTY "java/util/Optional") (o_F_o_s_EMPTY : Fld Z Z.heap s_EMPTY "java/util/Optional" "value" "Ljava/lang/Object;" .null) (o_E_s_RESPONSE : Exa Z Z.heap s_RESPONSE "com/example/rolling_ledger/rollingledger/model/CaptureKind") (o_F_warcType_s_RESPONSE : Fld Z Z.heap s_RESPONSE "com/example/rolling_ledger/rollingledger/model/CaptureKind" "warcType" "Ljava/lang/String;" (.ref u0)) (o_E_u0 : Exa Z Z.heap u0 "java/lang/String") (o_F_coder_u0 : Fld Z Z.heap u0 "java/lang/String" "coder" "B" (.int (0 : Int32))) (o_F_value_u0 : Fld Z Z.heap u0 "java/lang/String" "value" "[B" (.ref b0)) (o_V_b0 : Arv Z Z.heap b0 kb0 .byte (8 : Int32) [(.int (114 : Int32)), (.int (101 : Int32)), (.int (115 : Int32)), (.int (112 : Int32)), (.int (111 : Int32)), (.int (110 : Int32)), (.int (115 : Int32)), (.int (101 : Int32))] (.int (0 : Int32))) (o_E_s_REVISIT : Exa Z Z.heap s_REVISIT "com/example/rolling_ledger/rollingledger/model/CaptureKind") (o_F_warcType_s_REVISIT : Fld Z Z.heap s_REVISIT "com/example/rolling_ledger/rollingledger/model/CaptureKind" "warcType" "Ljava/lang/String;" (.ref u1)) (o_E_u1 : Exa Z Z.heap u1 "java/lang/String") (o_F_coder_u1 : Fld Z Z.heap u1 "java/lang/String" "coder" "B" (.int (0 : Int32))) (o_F_value_u1 : Fld Z Z.heap u1 "java/lang/String" "value" "[B" (.ref b1)) (o_V_b1 : Arv Z Z.heap b1 kb1 .byte (7 : Int32) [(.int (114 : Int32)), (.int (101 : Int32)), (.int (118 : Int32)), (.int (105 : Int32)), (.int (115 : Int32)), (.int (105 : Int32)), (.int (116 : Int32))] (.int (0 : Int32))) (o_E_s_RESOURCE : Exa Z Z.heap s_RESOURCE "com/example/rolling_ledger/rollingledger/model/CaptureKind") (o_F_warcType_s_RESOURCE : Fld Z Z.heap s_RESOURCE "com/example/rolling_ledger/rollingledger/model/CaptureKind" "warcType" "Ljava/lang/String;" (.ref u2)) (o_E_u2 : Exa Z Z.heap u2 "java/lang/String") (o_F_coder_u2 : Fld Z Z.heap u2 "java/lang/String" "coder" "B" (.int (0 : Int32))) (o_F_value_u2 : Fld Z Z.heap u2 "java/lang/String" "value" "[B" (.ref b2)) (o_V_b2 : Arv Z Z.heap b2 kb2 .byte (8 : Int32) [(.int (114 : Int32)), (.int (101 : Int32)), (.int (115 : Int32)), (.int (111 : Int32)), (.int (117 : Int32)), (.int (114 : Int32)), (.int (99 : Int32)), (.int (101 : Int32))] (.int (0 : Int32))) :
    MetFree l (⟨"com/example/rolling_ledger/rollingledger/model/CaptureKind", "ofWarcType", "(Ljava/lang/String;)Ljava/util/Optional;"⟩ : MethodName) (head1 (Jvm.Cond.code (⟨"com/example/rolling_ledger/rollingledger/model/CaptureKind", "ofWarcType", "(Ljava/lang/String;)Ljava/util/Optional;"⟩ : MethodName) prog_6_method_4_code 5 (some (.object "java/util/Optional")) :: ws) ({ frames := 2, cells := 1, slots := 3, locals := 28 } : Room)) (fun aA uU => aA = #[(.ref a)] ∧ Z.Warmed39 uU.vm ∧ uU.heap = h0) (fun _ _ _ _ _ => True) (fun _ uU oO uU' => ∃ vV lL, oO = .returned vV ∧ Q11_3 Z a kv u0 b0 kb0 u1 b1 kb1 u2 b2 kb2 t1 kb cs zc s_VALUES s_RESPONSE s_REVISIT s_RESOURCE s_EMPTY h0 n0 vV uU'.heap lL ∧ FrameEnd uU oO uU' lL ({ frames := 2, cells := 1, slots := 3, locals := 28 } : Room).cells ({ frames := 2, cells := 1, slots := 3, locals := 28 } : Room).slots) := by
  refine MetFree.of_bodySF (plainFor_of_name pn_com_example_rolling_ledger_rollingledger_model_CaptureKind) hisR ?_
  intro p e s m args below meth c s₁ Bd hml0 hP hK
  obtain ⟨rfl, hZ, hh⟩ := hP
  have hx := Bd.exec
  have hby := Bd.bytes
  have hml : c.maxLocals = 5 := hml0
  have hown : s.vm.findClass "com/example/rolling_ledger/rollingledger/model/CaptureKind" = some m.cls := findClass_of_methodNamed Bd.named
  have hnm := (name_of_methodNamed Bd.named Bd.method).1
  have X0 : Stand p l e ({ frames := 2, cells := 1, slots := 3, locals := 28 } : Room) s m #[(.ref a)] below meth c s₁ [] 0 0 := Stand.of_body Bd
  have e0 : s₁.heap = h0 := by rw [← hh, Bd.state]; rfl
  have N0 := Fr.nil n0
  have O := O0
  have K := Keep.refl h0 []
  have pre0 : ∀ t, Steps p.tables e below (s₁.setTop (mkF m 0 #[.val (.ref a), .unset, .unset, .unset, .unset] [])) t → Steps p.tables e below (s₁.setTop (entryFrame m #[(.ref a)] 5)) t := fun t k => castTop (ef_11_3 m a) k
  have E_s_VALUES := o_E_s_VALUES.ext O0.2
  have V_s_VALUES := o_V_s_VALUES.ext O0.2
  have E_s_EMPTY := o_E_s_EMPTY.ext O0.2
  have F_o_s_EMPTY := o_F_o_s_EMPTY.ext O0.2
  have E_s_RESPONSE := o_E_s_RESPONSE.ext O0.2
  have F_warcType_s_RESPONSE := o_F_warcType_s_RESPONSE.ext O0.2
  have E_u0 := o_E_u0.ext O0.2
  have F_coder_u0 := o_F_coder_u0.ext O0.2
  have F_value_u0 := o_F_value_u0.ext O0.2
  have V_b0 := o_V_b0.ext O0.2
  have E_s_REVISIT := o_E_s_REVISIT.ext O0.2
  have F_warcType_s_REVISIT := o_F_warcType_s_REVISIT.ext O0.2
  have E_u1 := o_E_u1.ext O0.2
  have F_coder_u1 := o_F_coder_u1.ext O0.2
  have F_value_u1 := o_F_value_u1.ext O0.2
  have V_b1 := o_V_b1.ext O0.2
  have E_s_RESOURCE := o_E_s_RESOURCE.ext O0.2
  have F_warcType_s_RESOURCE := o_F_warcType_s_RESOURCE.ext O0.2
  have E_u2 := o_E_u2.ext O0.2
  have F_coder_u2 := o_F_coder_u2.ext O0.2
  have F_value_u2 := o_F_value_u2.ext O0.2
  have V_b2 := o_V_b2.ext O0.2
  have lt1_a := E_a.lt
  have lt1_t1 := V_t1.lt
  have lt1_s_VALUES := E_s_VALUES.lt
  have lt1_s_EMPTY := E_s_EMPTY.lt
  have lt1_s_RESPONSE := E_s_RESPONSE.lt
  have lt1_u0 := E_u0.lt
  have lt1_b0 := V_b0.lt
  have lt1_s_REVISIT := E_s_REVISIT.lt
  have lt1_u1 := E_u1.lt
  have lt1_b1 := V_b1.lt
  have lt1_s_RESOURCE := E_s_RESOURCE.lt
  have lt1_u2 := E_u2.lt
  have lt1_b2 := V_b2.lt
  obtain ⟨_, _, ⟨T1, L1, k1, n1⟩, -, X1, ⟨Lc1, hQ1, l1, y1, z1⟩, st1⟩ := Jvm.LawKit.callS X0 hx (y := (⟨"com/example/rolling_ledger/rollingledger/model/CaptureKind", "values", "()[Lcom/example/rolling_ledger/rollingledger/model/CaptureKind;"⟩ : MethodName)) hown (mvT hZ (hw _ (List.mem_of_getElem? (i := 56) rfl))) (mvT hZ (hw _ (List.mem_of_getElem? (i := 57) rfl))) (mvT hZ (hw _ (List.mem_of_getElem? (i := 51) rfl))) (mvT hZ (hw _ (List.mem_of_getElem? (i := 58) rfl))) (by decide) (backOf (W := 0) (rm12 l Z a0 hw [] kv s_VALUES s_RESPONSE s_REVISIT s_RESOURCE h0 n0 O S_s_VALUES S_s_RESPONSE S_s_REVISIT S_s_RESOURCE V_s_VALUES E_s_VALUES) hZ (hw _ (List.mem_of_getElem? (i := 58) rfl)) (hw _ (List.mem_of_getElem? (i := 51) rfl)) (by decide) (by decide)) (g := (mkF m 0 #[.val (.ref a), .unset, .unset, .unset, .unset] [])) rfl (by rw [hml]; rfl) (argsL := []) (rest := []) (lenOf pd__40_41_91Lcom_47example_47rolling_ledger_47rollingledger_47model_47CaptureKind_59 rfl) rfl (by show 2 * 0 + _ ≤ _; exact Nat.le_of_eq rfl) (hb hby d11_0) (fun _ _ => ⟨rfl, e0, (by decide : 0 + 1 ≤ _), (by decide : 0 + 3 ≤ _)⟩)
  dsimp only [Pt.U, Pt.locs, Pt.cells, Pt.slots] at X1 l1 y1 z1 st1 hQ1
  subst l1 y1 z1
  obtain ⟨z_1, rfl, N1q, K1, V_z_c1, gz_1, gn_1⟩ := hQ1
  have N1 := Fr.app N0 N1q
  have E_a := E_a.keep K1
  have F_v_a := F_v_a.keep K1 nin0
  have F_c_a := F_c_a.keep K1 nin0
  have V_t1 := V_t1.keep K1 nin0
  have E_s_VALUES := E_s_VALUES.keep K1
  have V_s_VALUES := V_s_VALUES.keep K1 nin0
  have E_s_EMPTY := E_s_EMPTY.keep K1
  have F_o_s_EMPTY := F_o_s_EMPTY.keep K1 nin0
  have E_s_RESPONSE := E_s_RESPONSE.keep K1
  have F_warcType_s_RESPONSE := F_warcType_s_RESPONSE.keep K1 nin0
  have E_u0 := E_u0.keep K1
  have F_coder_u0 := F_coder_u0.keep K1 nin0
  have F_value_u0 := F_value_u0.keep K1 nin0
  have V_b0 := V_b0.keep K1 nin0
  have E_s_REVISIT := E_s_REVISIT.keep K1
  have F_warcType_s_REVISIT := F_warcType_s_REVISIT.keep K1 nin0
  have E_u1 := E_u1.keep K1
  have F_coder_u1 := F_coder_u1.keep K1 nin0
  have F_value_u1 := F_value_u1.keep K1 nin0
  have V_b1 := V_b1.keep K1 nin0
  have E_s_RESOURCE := E_s_RESOURCE.keep K1
  have F_warcType_s_RESOURCE := F_warcType_s_RESOURCE.keep K1 nin0
  have E_u2 := E_u2.keep K1
  have F_coder_u2 := F_coder_u2.keep K1 nin0
  have F_value_u2 := F_value_u2.keep K1 nin0
  have V_b2 := V_b2.keep K1 nin0
  have ne_a_z_1 : a ≠ z_1 := Nat.ne_of_lt (Nat.lt_of_lt_of_le lt1_a gz_1)
  have ne_t1_z_1 : t1 ≠ z_1 := Nat.ne_of_lt (Nat.lt_of_lt_of_le lt1_t1 gz_1)
  have ne_s_VALUES_z_1 : s_VALUES ≠ z_1 := Nat.ne_of_lt (Nat.lt_of_lt_of_le lt1_s_VALUES gz_1)
  have ne_s_EMPTY_z_1 : s_EMPTY ≠ z_1 := Nat.ne_of_lt (Nat.lt_of_lt_of_le lt1_s_EMPTY gz_1)
  have ne_s_RESPONSE_z_1 : s_RESPONSE ≠ z_1 := Nat.ne_of_lt (Nat.lt_of_lt_of_le lt1_s_RESPONSE gz_1)
  have ne_u0_z_1 : u0 ≠ z_1 := Nat.ne_of_lt (Nat.lt_of_lt_of_le lt1_u0 gz_1)
  have ne_b0_z_1 : b0 ≠ z_1 := Nat.ne_of_lt (Nat.lt_of_lt_of_le lt1_b0 gz_1)
  have ne_s_REVISIT_z_1 : s_REVISIT ≠ z_1 := Nat.ne_of_lt (Nat.lt_of_lt_of_le lt1_s_REVISIT gz_1)
  have ne_u1_z_1 : u1 ≠ z_1 := Nat.ne_of_lt (Nat.lt_of_lt_of_le lt1_u1 gz_1)
  have ne_b1_z_1 : b1 ≠ z_1 := Nat.ne_of_lt (Nat.lt_of_lt_of_le lt1_b1 gz_1)
  have ne_s_RESOURCE_z_1 : s_RESOURCE ≠ z_1 := Nat.ne_of_lt (Nat.lt_of_lt_of_le lt1_s_RESOURCE gz_1)
  have ne_u2_z_1 : u2 ≠ z_1 := Nat.ne_of_lt (Nat.lt_of_lt_of_le lt1_u2 gz_1)
  have ne_b2_z_1 : b2 ≠ z_1 := Nat.ne_of_lt (Nat.lt_of_lt_of_le lt1_b2 gz_1)
  have g_z_1 := gn_1
  have z_z_1 : h0.size ≤ z_1 := Nat.le_trans K.1 gz_1
  have O := O.keep K1 all0
  have K := K.trans K1 all0
  obtain ⟨cl2, Ar2, -, Z2, N2, -, -⟩ := id V_z_c1
  obtain ⟨cl3, Ar3, q3, Z3, N3, H3, G3⟩ := id V_z_c1
  have hin3 : ¬ ((0 : Int32) < 0 ∨ cl3.slots.size ≤ ((0 : Int32)).toNatClampNeg) := inb_of Z3 ⟨by decide, by decide⟩
  have hat3 : cl3.slots[((0 : Int32)).toNatClampNeg]? = some (.ref s_RESPONSE) := H3.at hin3 rfl
  obtain ⟨T4, X4, e4, st4⟩ := getF X1 hx hZ hown (host := "") (Or.inl (hw _ (List.mem_of_getElem? (i := 73) rfl))) Via.refl rfl F_warcType_s_RESPONSE (g := (mkF m 21 #[.val (.ref a), .val (.ref z_1), .val (.int (3 : Int32)), .val (.int (0 : Int32)), .val (.ref s_RESPONSE)] [(.ref s_RESPONSE)])) rfl rfl (hb hby d11_21)
  obtain ⟨cq5, kq5, q5a, q5b, q5c⟩ := isOf hZ e4 E_u0
  obtain ⟨v5, _, ⟨T5, L5, k5, n5⟩, -, X5, ⟨Lc5, hQ5, l5, y5, z5⟩, st5⟩ := X4.virtualBack hx (y := (⟨"java/lang/String", "equals", "(Ljava/lang/Object;)Z"⟩ : MethodName)) (z := (⟨"java/lang/String", "equals", "(Ljava/lang/Object;)Z"⟩ : MethodName)) hown (mvT hZ (hw _ (List.mem_of_getElem? (i := 75) rfl))) (mvT hZ (hw _ (List.mem_of_getElem? (i := 41) rfl))) (notFace_of_selects (args := #[]) (mvT hZ (hw _ (List.mem_of_getElem? (i := 43) rfl)))) (mvT hZ (hw _ (List.mem_of_getElem? (i := 43) rfl))) (mvT hZ (hw _ (List.mem_of_getElem? (i := 42) rfl))) (by decide) (StrChars.Road.eqW (W := 0) hZ (own_wEq hw) (kI := 4) (hw _ (List.mem_of_getElem? (i := 6) rfl)) E_u0 F_value_u0 F_coder_u0 V_b0 own_cod_114_101_115_112_111_110_115_101 own_cod_114_101_115_112_111_110_115_101b (Nat.le_of_ble_eq_true rfl) E_a F_v_a F_c_a V_t1 (StrChars.Road.codOf rfl (fun c hc => (hp c hc).2)) (own_up hp) hl (SC.ext O.2) hzc (by decide) (by decide)) q5a q5c (g := (mkF m 25 #[.val (.ref a), .val (.ref z_1), .val (.int (3 : Int32)), .val (.int (0 : Int32)), .val (.ref s_RESPONSE)] [(.ref a), (.ref u0)])) rfl (by rw [hml]; rfl) (Steps.refl _) (argsL := [(.ref a)]) (rest := []) (lenOf pd__40Ljava_47lang_47Object_59_41Z rfl) rfl (by show 2 * 0 + _ ≤ _; exact Nat.le_of_eq rfl) (hb hby d11_25) (fun _ _ => ⟨rfl, e4, (by decide : 1 + 0 ≤ _), (by decide : 3 + 0 ≤ _)⟩)
  dsimp only [Pt.U, Pt.locs, Pt.cells, Pt.slots] at X5 l5 y5 z5 st5 hQ5
  subst l5 y5 z5
  obtain ⟨hv5, rfl, eh5⟩ := hQ5
  obtain rfl : v5 = some (.int (own_eqs ([(114 : Int32), (101 : Int32), (115 : Int32), (112 : Int32), (111 : Int32), (110 : Int32), (115 : Int32), (101 : Int32)] : List Int32) cs)) := by rcases hv5 with ⟨h1, h2⟩ | ⟨h1, h2⟩ <;> rw [h1] <;> simp only [own_eqs, h2, if_true, if_false]
  have N5 := Fr.app N1 (Fr.nil n0)
  obtain ⟨cl6, Ar6, q6, Z6, N6, H6, G6⟩ := id V_z_c1
  have hin6 : ¬ ((1 : Int32) < 0 ∨ cl6.slots.size ≤ ((1 : Int32)).toNatClampNeg) := inb_of Z6 ⟨by decide, by decide⟩
  have hat6 : cl6.slots[((1 : Int32)).toNatClampNeg]? = some (.ref s_REVISIT) := H6.at hin6 rfl
  obtain ⟨T7, X7, e7, st7⟩ := getF X5 hx hZ hown (host := "") (Or.inl (hw _ (List.mem_of_getElem? (i := 73) rfl))) Via.refl eh5 F_warcType_s_REVISIT (g := (mkF m 21 #[.val (.ref a), .val (.ref z_1), .val (.int (3 : Int32)), .val (.int (1 : Int32)), .val (.ref s_REVISIT)] [(.ref s_REVISIT)])) rfl rfl (hb hby d11_21)
  obtain ⟨cq8, kq8, q8a, q8b, q8c⟩ := isOf hZ e7 E_u1
  obtain ⟨v8, _, ⟨T8, L8, k8, n8⟩, -, X8, ⟨Lc8, hQ8, l8, y8, z8⟩, st8⟩ := X7.virtualBack hx (y := (⟨"java/lang/String", "equals", "(Ljava/lang/Object;)Z"⟩ : MethodName)) (z := (⟨"java/lang/String", "equals", "(Ljava/lang/Object;)Z"⟩ : MethodName)) hown (mvT hZ (hw _ (List.mem_of_getElem? (i := 75) rfl))) (mvT hZ (hw _ (List.mem_of_getElem? (i := 41) rfl))) (notFace_of_selects (args := #[]) (mvT hZ (hw _ (List.mem_of_getElem? (i := 43) rfl)))) (mvT hZ (hw _ (List.mem_of_getElem? (i := 43) rfl))) (mvT hZ (hw _ (List.mem_of_getElem? (i := 42) rfl))) (by decide) (StrChars.Road.eqW (W := 0) hZ (own_wEq hw) (kI := 4) (hw _ (List.mem_of_getElem? (i := 6) rfl)) E_u1 F_value_u1 F_coder_u1 V_b1 own_cod_114_101_118_105_115_105_116 own_cod_114_101_118_105_115_105_116b (Nat.le_of_ble_eq_true rfl) E_a F_v_a F_c_a V_t1 (StrChars.Road.codOf rfl (fun c hc => (hp c hc).2)) (own_up hp) hl (SC.ext O.2) hzc (by decide) (by decide)) q8a q8c (g := (mkF m 25 #[.val (.ref a), .val (.ref z_1), .val (.int (3 : Int32)), .val (.int (1 : Int32)), .val (.ref s_REVISIT)] [(.ref a), (.ref u1)])) rfl (by rw [hml]; rfl) (Steps.refl _) (argsL := [(.ref a)]) (rest := []) (lenOf pd__40Ljava_47lang_47Object_59_41Z rfl) rfl (by show 2 * 0 + _ ≤ _; exact Nat.le_of_eq rfl) (hb hby d11_25) (fun _ _ => ⟨rfl, e7, (by decide : 1 + 0 ≤ _), (by decide : 3 + 0 ≤ _)⟩)
  dsimp only [Pt.U, Pt.locs, Pt.cells, Pt.slots] at X8 l8 y8 z8 st8 hQ8
  subst l8 y8 z8
  obtain ⟨hv8, rfl, eh8⟩ := hQ8
  obtain rfl : v8 = some (.int (own_eqs ([(114 : Int32), (101 : Int32), (118 : Int32), (105 : Int32), (115 : Int32), (105 : Int32), (116 : Int32)] : List Int32) cs)) := by rcases hv8 with ⟨h1, h2⟩ | ⟨h1, h2⟩ <;> rw [h1] <;> simp only [own_eqs, h2, if_true, if_false]
  have N8 := Fr.app N5 (Fr.nil n0)
  obtain ⟨cl9, Ar9, q9, Z9, N9, H9, G9⟩ := id V_z_c1
  have hin9 : ¬ ((2 : Int32) < 0 ∨ cl9.slots.size ≤ ((2 : Int32)).toNatClampNeg) := inb_of Z9 ⟨by decide, by decide⟩
  have hat9 : cl9.slots[((2 : Int32)).toNatClampNeg]? = some (.ref s_RESOURCE) := H9.at hin9 rfl
  obtain ⟨T10, X10, e10, st10⟩ := getF X8 hx hZ hown (host := "") (Or.inl (hw _ (List.mem_of_getElem? (i := 73) rfl))) Via.refl eh8 F_warcType_s_RESOURCE (g := (mkF m 21 #[.val (.ref a), .val (.ref z_1), .val (.int (3 : Int32)), .val (.int (2 : Int32)), .val (.ref s_RESOURCE)] [(.ref s_RESOURCE)])) rfl rfl (hb hby d11_21)
  obtain ⟨cq11, kq11, q11a, q11b, q11c⟩ := isOf hZ e10 E_u2
  obtain ⟨v11, _, ⟨T11, L11, k11, n11⟩, -, X11, ⟨Lc11, hQ11, l11, y11, z11⟩, st11⟩ := X10.virtualBack hx (y := (⟨"java/lang/String", "equals", "(Ljava/lang/Object;)Z"⟩ : MethodName)) (z := (⟨"java/lang/String", "equals", "(Ljava/lang/Object;)Z"⟩ : MethodName)) hown (mvT hZ (hw _ (List.mem_of_getElem? (i := 75) rfl))) (mvT hZ (hw _ (List.mem_of_getElem? (i := 41) rfl))) (notFace_of_selects (args := #[]) (mvT hZ (hw _ (List.mem_of_getElem? (i := 43) rfl)))) (mvT hZ (hw _ (List.mem_of_getElem? (i := 43) rfl))) (mvT hZ (hw _ (List.mem_of_getElem? (i := 42) rfl))) (by decide) (StrChars.Road.eqW (W := 0) hZ (own_wEq hw) (kI := 4) (hw _ (List.mem_of_getElem? (i := 6) rfl)) E_u2 F_value_u2 F_coder_u2 V_b2 own_cod_114_101_115_111_117_114_99_101 own_cod_114_101_115_111_117_114_99_101b (Nat.le_of_ble_eq_true rfl) E_a F_v_a F_c_a V_t1 (StrChars.Road.codOf rfl (fun c hc => (hp c hc).2)) (own_up hp) hl (SC.ext O.2) hzc (by decide) (by decide)) q11a q11c (g := (mkF m 25 #[.val (.ref a), .val (.ref z_1), .val (.int (3 : Int32)), .val (.int (2 : Int32)), .val (.ref s_RESOURCE)] [(.ref a), (.ref u2)])) rfl (by rw [hml]; rfl) (Steps.refl _) (argsL := [(.ref a)]) (rest := []) (lenOf pd__40Ljava_47lang_47Object_59_41Z rfl) rfl (by show 2 * 0 + _ ≤ _; exact Nat.le_of_eq rfl) (hb hby d11_25) (fun _ _ => ⟨rfl, e10, (by decide : 1 + 0 ≤ _), (by decide : 3 + 0 ≤ _)⟩)
  dsimp only [Pt.U, Pt.locs, Pt.cells, Pt.slots] at X11 l11 y11 z11 st11 hQ11
  subst l11 y11 z11
  obtain ⟨hv11, rfl, eh11⟩ := hQ11
  obtain rfl : v11 = some (.int (own_eqs ([(114 : Int32), (101 : Int32), (115 : Int32), (111 : Int32), (117 : Int32), (114 : Int32), (99 : Int32), (101 : Int32)] : List Int32) cs)) := by rcases hv11 with ⟨h1, h2⟩ | ⟨h1, h2⟩ <;> rw [h1] <;> simp only [own_eqs, h2, if_true, if_false]
  have N11 := Fr.app N8 (Fr.nil n0)
  obtain ⟨_, _, ⟨T12, L12, k12, n12⟩, -, X12, ⟨Lc12, hQ12, l12, y12, z12⟩, st12⟩ := Jvm.LawKit.callS X11 hx (y := (⟨"java/util/Optional", "empty", "()Ljava/util/Optional;"⟩ : MethodName)) hown (mvT hZ (hw _ (List.mem_of_getElem? (i := 105) rfl))) (mvT hZ (hw _ (List.mem_of_getElem? (i := 106) rfl))) (mvT hZ (hw _ (List.mem_of_getElem? (i := 78) rfl))) (mvT hZ (hw _ (List.mem_of_getElem? (i := 107) rfl))) (by decide) (backOf (W := 0) (rm18 l Z a0 hw [] s_EMPTY T1.heap n0 O S_s_EMPTY) hZ (hw _ (List.mem_of_getElem? (i := 107) rfl)) (hw _ (List.mem_of_getElem? (i := 78) rfl)) (by decide) (by decide)) (g := (mkF m 43 #[.val (.ref a), .val (.ref z_1), .val (.int (3 : Int32)), .val (.int (3 : Int32)), .val (.ref s_RESOURCE)] [])) rfl (by rw [hml]; rfl) (argsL := []) (rest := []) (lenOf pd__40_41Ljava_47util_47Optional_59 rfl) rfl (by show 2 * 0 + _ ≤ _; exact Nat.le_of_eq rfl) (hb hby d11_43) (fun _ _ => ⟨rfl, eh11, (by decide : 1 + 0 ≤ _), (by decide : 3 + 0 ≤ _)⟩)
  dsimp only [Pt.U, Pt.locs, Pt.cells, Pt.slots] at X12 l12 y12 z12 st12 hQ12
  subst l12 y12 z12
  obtain ⟨rfl, N12q, eh12⟩ := hQ12
  have N12 := Fr.app N11 N12q
  have w13 : ∀ t, Steps p.tables e below (T12.setTop (mkF m 46 #[.val (.ref a), .val (.ref z_1), .val (.int (3 : Int32)), .val (.int (3 : Int32)), .val (.ref s_RESOURCE)] [(.ref s_EMPTY)])) t → Steps p.tables e below (s₁.setTop (entryFrame m #[(.ref a)] 5)) t := fun t k => by
    refine pre0 t ?_
    refine st1 _ ?_
    show Steps p.tables e below (T1.setTop (mkF m 3 #[.val (.ref a), .unset, .unset, .unset, .unset] [(.ref z_1)])) _
    refine XS.astoreN X1.here hx rfl (hb hby d11_3) rfl rfl (l' := #[.val (.ref a), .val (.ref z_1), .unset, .unset, .unset]) rfl ?_
    show Steps p.tables e below (T1.setTop (mkF m 4 #[.val (.ref a), .val (.ref z_1), .unset, .unset, .unset] [])) _
    refine XS.aloadN X1.here hx rfl (hb hby d11_4) rfl rfl ?_
    show Steps p.tables e below (T1.setTop (mkF m 5 #[.val (.ref a), .val (.ref z_1), .unset, .unset, .unset] [(.ref z_1)])) _
    refine X1.arraylength hx (by exact Ar2.1) (State.isArrayOf_alike hZ.alike Ar2.2.1) (g := (mkF m 5 #[.val (.ref a), .val (.ref z_1), .unset, .unset, .unset] [(.ref z_1)])) rfl rfl (hb hby d11_5) _ ?_
    rw [len_of Z2 N2]
    show Steps p.tables e below (T1.setTop (mkF m 6 #[.val (.ref a), .val (.ref z_1), .unset, .unset, .unset] [(.int (3 : Int32))])) _
    refine XS.istoreN X1.here hx rfl (hb hby d11_6) rfl (l' := #[.val (.ref a), .val (.ref z_1), .val (.int (3 : Int32)), .unset, .unset]) rfl ?_
    show Steps p.tables e below (T1.setTop (mkF m 7 #[.val (.ref a), .val (.ref z_1), .val (.int (3 : Int32)), .unset, .unset] [])) _
    refine XS.iconst X1.here hx rfl (hb hby d11_7) ?_
    show Steps p.tables e below (T1.setTop (mkF m 8 #[.val (.ref a), .val (.ref z_1), .val (.int (3 : Int32)), .unset, .unset] [(.int (0 : Int32))])) _
    refine XS.istoreN X1.here hx rfl (hb hby d11_8) rfl (l' := #[.val (.ref a), .val (.ref z_1), .val (.int (3 : Int32)), .val (.int (0 : Int32)), .unset]) rfl ?_
    show Steps p.tables e below (T1.setTop (mkF m 9 #[.val (.ref a), .val (.ref z_1), .val (.int (3 : Int32)), .val (.int (0 : Int32)), .unset] [])) _
    refine XS.iloadN X1.here hx rfl (hb hby d11_9) rfl ?_
    show Steps p.tables e below (T1.setTop (mkF m 10 #[.val (.ref a), .val (.ref z_1), .val (.int (3 : Int32)), .val (.int (0 : Int32)), .unset] [(.int (0 : Int32))])) _
    refine XS.iloadN X1.here hx rfl (hb hby d11_10) rfl ?_
    show Steps p.tables e below (T1.setTop (mkF m 11 #[.val (.ref a), .val (.ref z_1), .val (.int (3 : Int32)), .val (.int (0 : Int32)), .unset] [(.int (3 : Int32)), (.int (0 : Int32))])) _
    refine XS.icmpNo X1.here hx rfl (hb hby d11_11) rfl (tlt ((by decide) : (0 : Int32) < (3 : Int32))).2.1 ?_
    show Steps p.tables e below (T1.setTop (mkF m 14 #[.val (.ref a), .val (.ref z_1), .val (.int (3 : Int32)), .val (.int (0 : Int32)), .unset] [])) _
    refine XS.aloadN X1.here hx rfl (hb hby d11_14) rfl rfl ?_
    show Steps p.tables e below (T1.setTop (mkF m 15 #[.val (.ref a), .val (.ref z_1), .val (.int (3 : Int32)), .val (.int (0 : Int32)), .unset] [(.ref z_1)])) _
    refine XS.iloadN X1.here hx rfl (hb hby d11_15) rfl ?_
    show Steps p.tables e below (T1.setTop (mkF m 16 #[.val (.ref a), .val (.ref z_1), .val (.int (3 : Int32)), .val (.int (0 : Int32)), .unset] [(.int (0 : Int32)), (.ref z_1)])) _
    refine X1.aaload hx (j := (0 : Int32)) (v := (.ref s_RESPONSE)) (by exact Ar3.1) (State.isArrayOf_alike hZ.alike Ar3.2.1) rfl Ar3.2.2 hin3 hat3 (g := (mkF m 16 #[.val (.ref a), .val (.ref z_1), .val (.int (3 : Int32)), .val (.int (0 : Int32)), .unset] [(.int (0 : Int32)), (.ref z_1)])) rfl rfl (hb hby d11_16) _ ?_
    show Steps p.tables e below (T1.setTop (mkF m 17 #[.val (.ref a), .val (.ref z_1), .val (.int (3 : Int32)), .val (.int (0 : Int32)), .unset] [(.ref s_RESPONSE)])) _
    refine XS.astore X1.here hx rfl (hb hby d11_17) rfl rfl (l' := #[.val (.ref a), .val (.ref z_1), .val (.int (3 : Int32)), .val (.int (0 : Int32)), .val (.ref s_RESPONSE)]) rfl ?_
    show Steps p.tables e below (T1.setTop (mkF m 19 #[.val (.ref a), .val (.ref z_1), .val (.int (3 : Int32)), .val (.int (0 : Int32)), .val (.ref s_RESPONSE)] [])) _
    refine XS.aload X1.here hx rfl (hb hby d11_19) rfl rfl ?_
    show Steps p.tables e below (T1.setTop (mkF m 21 #[.val (.ref a), .val (.ref z_1), .val (.int (3 : Int32)), .val (.int (0 : Int32)), .val (.ref s_RESPONSE)] [(.ref s_RESPONSE)])) _
    refine st4 _ ?_
    show Steps p.tables e below (T4.setTop (mkF m 24 #[.val (.ref a), .val (.ref z_1), .val (.int (3 : Int32)), .val (.int (0 : Int32)), .val (.ref s_RESPONSE)] [(.ref u0)])) _
    refine XS.aloadN X4.here hx rfl (hb hby d11_24) rfl rfl ?_
    show Steps p.tables e below (T4.setTop (mkF m 25 #[.val (.ref a), .val (.ref z_1), .val (.int (3 : Int32)), .val (.int (0 : Int32)), .val (.ref s_RESPONSE)] [(.ref a), (.ref u0)])) _
    refine st5.trans ?_
    show Steps p.tables e below (T5.setTop (mkF m 28 #[.val (.ref a), .val (.ref z_1), .val (.int (3 : Int32)), .val (.int (0 : Int32)), .val (.ref s_RESPONSE)] [(.int (own_eqs ([(114 : Int32), (101 : Int32), (115 : Int32), (112 : Int32), (111 : Int32), (110 : Int32), (115 : Int32), (101 : Int32)] : List Int32) cs))])) _
    refine XS.ifYes X5.here hx rfl (pc0 := 28) (pc' := 37) rfl (hb hby d11_28) rfl ((if0 _ _).trans (teq (own_en (fun e => hy0 e.symm) : (own_eqs ([(114 : Int32), (101 : Int32), (115 : Int32), (112 : Int32), (111 : Int32), (110 : Int32), (115 : Int32), (101 : Int32)] : List Int32) cs) = (0 : Int32))).1) (by decide) (by decide) ?_
    show Steps p.tables e below (T5.setTop (mkF m 37 #[.val (.ref a), .val (.ref z_1), .val (.int (3 : Int32)), .val (.int (0 : Int32)), .val (.ref s_RESPONSE)] [])) _
    refine XS.iinc X5.here hx rfl (hb hby d11_37) rfl (l' := #[.val (.ref a), .val (.ref z_1), .val (.int (3 : Int32)), .val (.int (1 : Int32)), .val (.ref s_RESPONSE)]) rfl ?_
    show Steps p.tables e below (T5.setTop (mkF m 40 #[.val (.ref a), .val (.ref z_1), .val (.int (3 : Int32)), .val (.int (1 : Int32)), .val (.ref s_RESPONSE)] [])) _
    refine XS.goto X5.here hx rfl (pc0 := 40) (pc' := 9) rfl (hb hby d11_40) (by decide) (by decide) ?_
    show Steps p.tables e below (T5.setTop (mkF m 9 #[.val (.ref a), .val (.ref z_1), .val (.int (3 : Int32)), .val (.int (1 : Int32)), .val (.ref s_RESPONSE)] [])) _
    refine XS.iloadN X5.here hx rfl (hb hby d11_9) rfl ?_
    show Steps p.tables e below (T5.setTop (mkF m 10 #[.val (.ref a), .val (.ref z_1), .val (.int (3 : Int32)), .val (.int (1 : Int32)), .val (.ref s_RESPONSE)] [(.int (1 : Int32))])) _
    refine XS.iloadN X5.here hx rfl (hb hby d11_10) rfl ?_
    show Steps p.tables e below (T5.setTop (mkF m 11 #[.val (.ref a), .val (.ref z_1), .val (.int (3 : Int32)), .val (.int (1 : Int32)), .val (.ref s_RESPONSE)] [(.int (3 : Int32)), (.int (1 : Int32))])) _
    refine XS.icmpNo X5.here hx rfl (hb hby d11_11) rfl (tlt ((by decide) : (1 : Int32) < (3 : Int32))).2.1 ?_
    show Steps p.tables e below (T5.setTop (mkF m 14 #[.val (.ref a), .val (.ref z_1), .val (.int (3 : Int32)), .val (.int (1 : Int32)), .val (.ref s_RESPONSE)] [])) _
    refine XS.aloadN X5.here hx rfl (hb hby d11_14) rfl rfl ?_
    show Steps p.tables e below (T5.setTop (mkF m 15 #[.val (.ref a), .val (.ref z_1), .val (.int (3 : Int32)), .val (.int (1 : Int32)), .val (.ref s_RESPONSE)] [(.ref z_1)])) _
    refine XS.iloadN X5.here hx rfl (hb hby d11_15) rfl ?_
    show Steps p.tables e below (T5.setTop (mkF m 16 #[.val (.ref a), .val (.ref z_1), .val (.int (3 : Int32)), .val (.int (1 : Int32)), .val (.ref s_RESPONSE)] [(.int (1 : Int32)), (.ref z_1)])) _
    refine X5.aaload hx (j := (1 : Int32)) (v := (.ref s_REVISIT)) (by rw [eh5]; exact Ar6.1) (State.isArrayOf_alike hZ.alike Ar6.2.1) rfl Ar6.2.2 hin6 hat6 (g := (mkF m 16 #[.val (.ref a), .val (.ref z_1), .val (.int (3 : Int32)), .val (.int (1 : Int32)), .val (.ref s_RESPONSE)] [(.int (1 : Int32)), (.ref z_1)])) rfl rfl (hb hby d11_16) _ ?_
    show Steps p.tables e below (T5.setTop (mkF m 17 #[.val (.ref a), .val (.ref z_1), .val (.int (3 : Int32)), .val (.int (1 : Int32)), .val (.ref s_RESPONSE)] [(.ref s_REVISIT)])) _
    refine XS.astore X5.here hx rfl (hb hby d11_17) rfl rfl (l' := #[.val (.ref a), .val (.ref z_1), .val (.int (3 : Int32)), .val (.int (1 : Int32)), .val (.ref s_REVISIT)]) rfl ?_
    show Steps p.tables e below (T5.setTop (mkF m 19 #[.val (.ref a), .val (.ref z_1), .val (.int (3 : Int32)), .val (.int (1 : Int32)), .val (.ref s_REVISIT)] [])) _
    refine XS.aload X5.here hx rfl (hb hby d11_19) rfl rfl ?_
    show Steps p.tables e below (T5.setTop (mkF m 21 #[.val (.ref a), .val (.ref z_1), .val (.int (3 : Int32)), .val (.int (1 : Int32)), .val (.ref s_REVISIT)] [(.ref s_REVISIT)])) _
    refine st7 _ ?_
    show Steps p.tables e below (T7.setTop (mkF m 24 #[.val (.ref a), .val (.ref z_1), .val (.int (3 : Int32)), .val (.int (1 : Int32)), .val (.ref s_REVISIT)] [(.ref u1)])) _
    refine XS.aloadN X7.here hx rfl (hb hby d11_24) rfl rfl ?_
    show Steps p.tables e below (T7.setTop (mkF m 25 #[.val (.ref a), .val (.ref z_1), .val (.int (3 : Int32)), .val (.int (1 : Int32)), .val (.ref s_REVISIT)] [(.ref a), (.ref u1)])) _
    refine st8.trans ?_
    show Steps p.tables e below (T8.setTop (mkF m 28 #[.val (.ref a), .val (.ref z_1), .val (.int (3 : Int32)), .val (.int (1 : Int32)), .val (.ref s_REVISIT)] [(.int (own_eqs ([(114 : Int32), (101 : Int32), (118 : Int32), (105 : Int32), (115 : Int32), (105 : Int32), (116 : Int32)] : List Int32) cs))])) _
    refine XS.ifYes X8.here hx rfl (pc0 := 28) (pc' := 37) rfl (hb hby d11_28) rfl ((if0 _ _).trans (teq (own_en (fun e => hy1 e.symm) : (own_eqs ([(114 : Int32), (101 : Int32), (118 : Int32), (105 : Int32), (115 : Int32), (105 : Int32), (116 : Int32)] : List Int32) cs) = (0 : Int32))).1) (by decide) (by decide) ?_
    show Steps p.tables e below (T8.setTop (mkF m 37 #[.val (.ref a), .val (.ref z_1), .val (.int (3 : Int32)), .val (.int (1 : Int32)), .val (.ref s_REVISIT)] [])) _
    refine XS.iinc X8.here hx rfl (hb hby d11_37) rfl (l' := #[.val (.ref a), .val (.ref z_1), .val (.int (3 : Int32)), .val (.int (2 : Int32)), .val (.ref s_REVISIT)]) rfl ?_
    show Steps p.tables e below (T8.setTop (mkF m 40 #[.val (.ref a), .val (.ref z_1), .val (.int (3 : Int32)), .val (.int (2 : Int32)), .val (.ref s_REVISIT)] [])) _
    refine XS.goto X8.here hx rfl (pc0 := 40) (pc' := 9) rfl (hb hby d11_40) (by decide) (by decide) ?_
    show Steps p.tables e below (T8.setTop (mkF m 9 #[.val (.ref a), .val (.ref z_1), .val (.int (3 : Int32)), .val (.int (2 : Int32)), .val (.ref s_REVISIT)] [])) _
    refine XS.iloadN X8.here hx rfl (hb hby d11_9) rfl ?_
    show Steps p.tables e below (T8.setTop (mkF m 10 #[.val (.ref a), .val (.ref z_1), .val (.int (3 : Int32)), .val (.int (2 : Int32)), .val (.ref s_REVISIT)] [(.int (2 : Int32))])) _
    refine XS.iloadN X8.here hx rfl (hb hby d11_10) rfl ?_
    show Steps p.tables e below (T8.setTop (mkF m 11 #[.val (.ref a), .val (.ref z_1), .val (.int (3 : Int32)), .val (.int (2 : Int32)), .val (.ref s_REVISIT)] [(.int (3 : Int32)), (.int (2 : Int32))])) _
    refine XS.icmpNo X8.here hx rfl (hb hby d11_11) rfl (tlt ((by decide) : (2 : Int32) < (3 : Int32))).2.1 ?_
    show Steps p.tables e below (T8.setTop (mkF m 14 #[.val (.ref a), .val (.ref z_1), .val (.int (3 : Int32)), .val (.int (2 : Int32)), .val (.ref s_REVISIT)] [])) _
    refine XS.aloadN X8.here hx rfl (hb hby d11_14) rfl rfl ?_
    show Steps p.tables e below (T8.setTop (mkF m 15 #[.val (.ref a), .val (.ref z_1), .val (.int (3 : Int32)), .val (.int (2 : Int32)), .val (.ref s_REVISIT)] [(.ref z_1)])) _
    refine XS.iloadN X8.here hx rfl (hb hby d11_15) rfl ?_
    show Steps p.tables e below (T8.setTop (mkF m 16 #[.val (.ref a), .val (.ref z_1), .val (.int (3 : Int32)), .val (.int (2 : Int32)), .val (.ref s_REVISIT)] [(.int (2 : Int32)), (.ref z_1)])) _
    refine X8.aaload hx (j := (2 : Int32)) (v := (.ref s_RESOURCE)) (by rw [eh8]; exact Ar9.1) (State.isArrayOf_alike hZ.alike Ar9.2.1) rfl Ar9.2.2 hin9 hat9 (g := (mkF m 16 #[.val (.ref a), .val (.ref z_1), .val (.int (3 : Int32)), .val (.int (2 : Int32)), .val (.ref s_REVISIT)] [(.int (2 : Int32)), (.ref z_1)])) rfl rfl (hb hby d11_16) _ ?_
    show Steps p.tables e below (T8.setTop (mkF m 17 #[.val (.ref a), .val (.ref z_1), .val (.int (3 : Int32)), .val (.int (2 : Int32)), .val (.ref s_REVISIT)] [(.ref s_RESOURCE)])) _
    refine XS.astore X8.here hx rfl (hb hby d11_17) rfl rfl (l' := #[.val (.ref a), .val (.ref z_1), .val (.int (3 : Int32)), .val (.int (2 : Int32)), .val (.ref s_RESOURCE)]) rfl ?_
    show Steps p.tables e below (T8.setTop (mkF m 19 #[.val (.ref a), .val (.ref z_1), .val (.int (3 : Int32)), .val (.int (2 : Int32)), .val (.ref s_RESOURCE)] [])) _
    refine XS.aload X8.here hx rfl (hb hby d11_19) rfl rfl ?_
    show Steps p.tables e below (T8.setTop (mkF m 21 #[.val (.ref a), .val (.ref z_1), .val (.int (3 : Int32)), .val (.int (2 : Int32)), .val (.ref s_RESOURCE)] [(.ref s_RESOURCE)])) _
    refine st10 _ ?_
    show Steps p.tables e below (T10.setTop (mkF m 24 #[.val (.ref a), .val (.ref z_1), .val (.int (3 : Int32)), .val (.int (2 : Int32)), .val (.ref s_RESOURCE)] [(.ref u2)])) _
    refine XS.aloadN X10.here hx rfl (hb hby d11_24) rfl rfl ?_
    show Steps p.tables e below (T10.setTop (mkF m 25 #[.val (.ref a), .val (.ref z_1), .val (.int (3 : Int32)), .val (.int (2 : Int32)), .val (.ref s_RESOURCE)] [(.ref a), (.ref u2)])) _
    refine st11.trans ?_
    show Steps p.tables e below (T11.setTop (mkF m 28 #[.val (.ref a), .val (.ref z_1), .val (.int (3 : Int32)), .val (.int (2 : Int32)), .val (.ref s_RESOURCE)] [(.int (own_eqs ([(114 : Int32), (101 : Int32), (115 : Int32), (111 : Int32), (117 : Int32), (114 : Int32), (99 : Int32), (101 : Int32)] : List Int32) cs))])) _
    refine XS.ifYes X11.here hx rfl (pc0 := 28) (pc' := 37) rfl (hb hby d11_28) rfl ((if0 _ _).trans (teq (own_en (fun e => hy2 e.symm) : (own_eqs ([(114 : Int32), (101 : Int32), (115 : Int32), (111 : Int32), (117 : Int32), (114 : Int32), (99 : Int32), (101 : Int32)] : List Int32) cs) = (0 : Int32))).1) (by decide) (by decide) ?_
    show Steps p.tables e below (T11.setTop (mkF m 37 #[.val (.ref a), .val (.ref z_1), .val (.int (3 : Int32)), .val (.int (2 : Int32)), .val (.ref s_RESOURCE)] [])) _
    refine XS.iinc X11.here hx rfl (hb hby d11_37) rfl (l' := #[.val (.ref a), .val (.ref z_1), .val (.int (3 : Int32)), .val (.int (3 : Int32)), .val (.ref s_RESOURCE)]) rfl ?_
    show Steps p.tables e below (T11.setTop (mkF m 40 #[.val (.ref a), .val (.ref z_1), .val (.int (3 : Int32)), .val (.int (3 : Int32)), .val (.ref s_RESOURCE)] [])) _
    refine XS.goto X11.here hx rfl (pc0 := 40) (pc' := 9) rfl (hb hby d11_40) (by decide) (by decide) ?_
    show Steps p.tables e below (T11.setTop (mkF m 9 #[.val (.ref a), .val (.ref z_1), .val (.int (3 : Int32)), .val (.int (3 : Int32)), .val (.ref s_RESOURCE)] [])) _
    refine XS.iloadN X11.here hx rfl (hb hby d11_9) rfl ?_
    show Steps p.tables e below (T11.setTop (mkF m 10 #[.val (.ref a), .val (.ref z_1), .val (.int (3 : Int32)), .val (.int (3 : Int32)), .val (.ref s_RESOURCE)] [(.int (3 : Int32))])) _
    refine XS.iloadN X11.here hx rfl (hb hby d11_10) rfl ?_
    show Steps p.tables e below (T11.setTop (mkF m 11 #[.val (.ref a), .val (.ref z_1), .val (.int (3 : Int32)), .val (.int (3 : Int32)), .val (.ref s_RESOURCE)] [(.int (3 : Int32)), (.int (3 : Int32))])) _
    refine XS.icmpYes X11.here hx rfl (pc0 := 11) (pc' := 43) rfl (hb hby d11_11) rfl (flt ((by decide) : ¬ ((3 : Int32) < (3 : Int32)))).2.1 (by decide) (by decide) ?_
    show Steps p.tables e below (T11.setTop (mkF m 43 #[.val (.ref a), .val (.ref z_1), .val (.int (3 : Int32)), .val (.int (3 : Int32)), .val (.ref s_RESOURCE)] [])) _
    refine st12 _ ?_
    show Steps p.tables e below (T12.setTop (mkF m 46 #[.val (.ref a), .val (.ref z_1), .val (.int (3 : Int32)), .val (.int (3 : Int32)), .val (.ref s_RESOURCE)] [(.ref s_EMPTY)])) _
    exact k
  obtain ⟨fs, hr, hrun, hended, hW, hsame⟩ := X12.leave (v := some (.ref s_EMPTY)) (fun h => by rw [Bd.returns] at h; cases h)
  refine ⟨_, _, w13 _ ?_, hrun, hended, _, _, rfl, ?_, ⟨_, rfl⟩, hW, hsame.mono (by decide) (by decide)⟩
  · jvm_step X12.here [X12.here.top, hx, (hb hby d11_46), X12.method', Bd.returns, Value.isRef, FieldType.isReference]
    first | (intro acts; rw [hr _ acts rfl rfl rfl]) | rw [hr _ _ rfl rfl rfl]
    exact Steps.refl _
  · show Q11_3 Z a kv u0 b0 kb0 u1 b1 kb1 u2 b2 kb2 t1 kb cs zc s_VALUES s_RESPONSE s_REVISIT s_RESOURCE s_EMPTY h0 n0 _ T12.heap _
    rw [eh12]
    exact ⟨s_EMPTY, rfl, N12, K, E_s_EMPTY, F_o_s_EMPTY⟩
theorem ef_11_null (m : MethodId) : entryFrame m #[.null] 5 = mkF m 0 #[.val .null, .unset, .unset, .unset, .unset] [] := by first | (simp [entryFrame, mkF, argsToLocals, Value.category]; done) | rfl
def Q11_null (Z : State) (kv : ClassId) (u0 : Addr) (b0 : Addr) (kb0 : ClassId) (u1 : Addr) (b1 : Addr) (kb1 : ClassId) (u2 : Addr) (b2 : Addr) (kb2 : ClassId) (s_VALUES : Addr) (s_RESPONSE : Addr) (s_REVISIT : Addr) (s_RESOURCE : Addr) (s_EMPTY : Addr) (h0 : Heap) (n0 : Nat) (v : Option Value) (h : Heap) (L : List Loc) : Prop := ∃ z : Addr, v = some (.ref z) ∧ Fr n0 L ∧ Keep h0 h [] ∧ Exa Z h z "java/util/Optional" ∧ Fld Z h z "java/util/Optional" "value" "Ljava/lang/Object;" .null
set_option maxRecDepth 65536 in
set_option maxHeartbeats 40000000 in
theorem rm11_null (l : Launch) (Z : State) (a0 : Array Value) (hw : ∀ d ∈ tables_1, d.before a0 Z = true) (ws : List Jvm.Cond) (kv : ClassId) (u0 : Addr) (b0 : Addr) (kb0 : ClassId) (u1 : Addr) (b1 : Addr) (kb1 : ClassId) (u2 : Addr) (b2 : Addr) (kb2 : ClassId) (s_VALUES : Addr) (s_RESPONSE : Addr) (s_REVISIT : Addr) (s_RESOURCE : Addr) (s_EMPTY : Addr) (h0 : Heap) (n0 : Nat) (O0 : Old Z n0 h0) (S_s_VALUES : Sta Z Z.heap "com/example/rolling_ledger/rollingledger/model/CaptureKind" "$VALUES" "[Lcom/example/rolling_ledger/rollingledger/model/CaptureKind;" (.ref s_VALUES)) (S_s_RESPONSE : Sta Z Z.heap "com/example/rolling_ledger/rollingledger/model/CaptureKind" "RESPONSE" "Lcom/example/rolling_ledger/rollingledger/model/CaptureKind;" (.ref s_RESPONSE)) (S_s_REVISIT : Sta Z Z.heap "com/example/rolling_ledger/rollingledger/model/CaptureKind" "REVISIT" "Lcom/example/rolling_ledger/rollingledger/model/CaptureKind;" (.ref s_REVISIT)) (S_s_RESOURCE : Sta Z Z.heap "com/example/rolling_ledger/rollingledger/model/CaptureKind" "RESOURCE" "Lcom/example/rolling_ledger/rollingledger/model/CaptureKind;" (.ref s_RESOURCE)) (S_s_EMPTY : Sta Z Z.heap "java/util/Optional" "EMPTY" "Ljava/util/Optional;" (.ref s_EMPTY)) (o_E_s_VALUES : Exa Z Z.heap s_VALUES "[Lcom/example/rolling_ledger/rollingledger/model/CaptureKind;") (o_V_s_VALUES : Arv Z Z.heap s_VALUES kv (.object "com/example/rolling_ledger/rollingledger/model/CaptureKind") (3 : Int32) [(.ref s_RESPONSE), (.ref s_REVISIT), (.ref s_RESOURCE)] .null) (o_E_s_EMPTY : Exa Z Z.heap s_EMPTY "java/util/Optional") (o_F_o_s_EMPTY : Fld Z Z.heap s_EMPTY "java/util/Optional" "value" "Ljava/lang/Object;" .null) (o_E_s_RESPONSE : Exa Z Z.heap s_RESPONSE "com/example/rolling_ledger/rollingledger/model/CaptureKind") (o_F_warcType_s_RESPONSE : Fld Z Z.heap s_RESPONSE "com/example/rolling_ledger/rollingledger/model/CaptureKind" "warcType" "Ljava/lang/String;" (.ref u0)) (o_E_u0 : Exa Z Z.heap u0 "java/lang/String") (o_F_coder_u0 : Fld Z Z.heap u0 "java/lang/String" "coder" "B" (.int (0 : Int32))) (o_F_value_u0 : Fld Z Z.heap u0 "java/lang/String" "value" "[B" (.ref b0)) (o_V_b0 : Arv Z Z.heap b0 kb0 .byte (8 : Int32) [(.int (114 : Int32)), (.int (101 : Int32)), (.int (115 : Int32)), (.int (112 : Int32)), (.int (111 : Int32)), (.int (110 : Int32)), (.int (115 : Int32)), (.int (101 : Int32))] (.int (0 : Int32))) (o_E_s_REVISIT : Exa Z Z.heap s_REVISIT "com/example/rolling_ledger/rollingledger/model/CaptureKind") (o_F_warcType_s_REVISIT : Fld Z Z.heap s_REVISIT "com/example/rolling_ledger/rollingledger/model/CaptureKind" "warcType" "Ljava/lang/String;" (.ref u1)) (o_E_u1 : Exa Z Z.heap u1 "java/lang/String") (o_F_coder_u1 : Fld Z Z.heap u1 "java/lang/String" "coder" "B" (.int (0 : Int32))) (o_F_value_u1 : Fld Z Z.heap u1 "java/lang/String" "value" "[B" (.ref b1)) (o_V_b1 : Arv Z Z.heap b1 kb1 .byte (7 : Int32) [(.int (114 : Int32)), (.int (101 : Int32)), (.int (118 : Int32)), (.int (105 : Int32)), (.int (115 : Int32)), (.int (105 : Int32)), (.int (116 : Int32))] (.int (0 : Int32))) (o_E_s_RESOURCE : Exa Z Z.heap s_RESOURCE "com/example/rolling_ledger/rollingledger/model/CaptureKind") (o_F_warcType_s_RESOURCE : Fld Z Z.heap s_RESOURCE "com/example/rolling_ledger/rollingledger/model/CaptureKind" "warcType" "Ljava/lang/String;" (.ref u2)) (o_E_u2 : Exa Z Z.heap u2 "java/lang/String") (o_F_coder_u2 : Fld Z Z.heap u2 "java/lang/String" "coder" "B" (.int (0 : Int32))) (o_F_value_u2 : Fld Z Z.heap u2 "java/lang/String" "value" "[B" (.ref b2)) (o_V_b2 : Arv Z Z.heap b2 kb2 .byte (8 : Int32) [(.int (114 : Int32)), (.int (101 : Int32)), (.int (115 : Int32)), (.int (111 : Int32)), (.int (117 : Int32)), (.int (114 : Int32)), (.int (99 : Int32)), (.int (101 : Int32))] (.int (0 : Int32))) :
    MetFree l (⟨"com/example/rolling_ledger/rollingledger/model/CaptureKind", "ofWarcType", "(Ljava/lang/String;)Ljava/util/Optional;"⟩ : MethodName) (head1 (Jvm.Cond.code (⟨"com/example/rolling_ledger/rollingledger/model/CaptureKind", "ofWarcType", "(Ljava/lang/String;)Ljava/util/Optional;"⟩ : MethodName) prog_6_method_4_code 5 (some (.object "java/util/Optional")) :: ws) ({ frames := 2, cells := 1, slots := 3, locals := 25 } : Room)) (fun aA uU => aA = #[.null] ∧ Z.Warmed39 uU.vm ∧ uU.heap = h0) (fun _ _ _ _ _ => True) (fun _ uU oO uU' => ∃ vV lL, oO = .returned vV ∧ Q11_null Z kv u0 b0 kb0 u1 b1 kb1 u2 b2 kb2 s_VALUES s_RESPONSE s_REVISIT s_RESOURCE s_EMPTY h0 n0 vV uU'.heap lL ∧ FrameEnd uU oO uU' lL ({ frames := 2, cells := 1, slots := 3, locals := 25 } : Room).cells ({ frames := 2, cells := 1, slots := 3, locals := 25 } : Room).slots) := by
  refine MetFree.of_bodySF (plainFor_of_name pn_com_example_rolling_ledger_rollingledger_model_CaptureKind) hisR ?_
  intro p e s m args below meth c s₁ Bd hml0 hP hK
  obtain ⟨rfl, hZ, hh⟩ := hP
  have hx := Bd.exec
  have hby := Bd.bytes
  have hml : c.maxLocals = 5 := hml0
  have hown : s.vm.findClass "com/example/rolling_ledger/rollingledger/model/CaptureKind" = some m.cls := findClass_of_methodNamed Bd.named
  have hnm := (name_of_methodNamed Bd.named Bd.method).1
  have X0 : Stand p l e ({ frames := 2, cells := 1, slots := 3, locals := 25 } : Room) s m #[.null] below meth c s₁ [] 0 0 := Stand.of_body Bd
  have e0 : s₁.heap = h0 := by rw [← hh, Bd.state]; rfl
  have N0 := Fr.nil n0
  have O := O0
  have K := Keep.refl h0 []
  have pre0 : ∀ t, Steps p.tables e below (s₁.setTop (mkF m 0 #[.val .null, .unset, .unset, .unset, .unset] [])) t → Steps p.tables e below (s₁.setTop (entryFrame m #[.null] 5)) t := fun t k => castTop (ef_11_null m ) k
  have E_s_VALUES := o_E_s_VALUES.ext O0.2
  have V_s_VALUES := o_V_s_VALUES.ext O0.2
  have E_s_EMPTY := o_E_s_EMPTY.ext O0.2
  have F_o_s_EMPTY := o_F_o_s_EMPTY.ext O0.2
  have E_s_RESPONSE := o_E_s_RESPONSE.ext O0.2
  have F_warcType_s_RESPONSE := o_F_warcType_s_RESPONSE.ext O0.2
  have E_u0 := o_E_u0.ext O0.2
  have F_coder_u0 := o_F_coder_u0.ext O0.2
  have F_value_u0 := o_F_value_u0.ext O0.2
  have V_b0 := o_V_b0.ext O0.2
  have E_s_REVISIT := o_E_s_REVISIT.ext O0.2
  have F_warcType_s_REVISIT := o_F_warcType_s_REVISIT.ext O0.2
  have E_u1 := o_E_u1.ext O0.2
  have F_coder_u1 := o_F_coder_u1.ext O0.2
  have F_value_u1 := o_F_value_u1.ext O0.2
  have V_b1 := o_V_b1.ext O0.2
  have E_s_RESOURCE := o_E_s_RESOURCE.ext O0.2
  have F_warcType_s_RESOURCE := o_F_warcType_s_RESOURCE.ext O0.2
  have E_u2 := o_E_u2.ext O0.2
  have F_coder_u2 := o_F_coder_u2.ext O0.2
  have F_value_u2 := o_F_value_u2.ext O0.2
  have V_b2 := o_V_b2.ext O0.2
  have lt1_s_VALUES := E_s_VALUES.lt
  have lt1_s_EMPTY := E_s_EMPTY.lt
  have lt1_s_RESPONSE := E_s_RESPONSE.lt
  have lt1_u0 := E_u0.lt
  have lt1_b0 := V_b0.lt
  have lt1_s_REVISIT := E_s_REVISIT.lt
  have lt1_u1 := E_u1.lt
  have lt1_b1 := V_b1.lt
  have lt1_s_RESOURCE := E_s_RESOURCE.lt
  have lt1_u2 := E_u2.lt
  have lt1_b2 := V_b2.lt
  obtain ⟨_, _, ⟨T1, L1, k1, n1⟩, -, X1, ⟨Lc1, hQ1, l1, y1, z1⟩, st1⟩ := Jvm.LawKit.callS X0 hx (y := (⟨"com/example/rolling_ledger/rollingledger/model/CaptureKind", "values", "()[Lcom/example/rolling_ledger/rollingledger/model/CaptureKind;"⟩ : MethodName)) hown (mvT hZ (hw _ (List.mem_of_getElem? (i := 56) rfl))) (mvT hZ (hw _ (List.mem_of_getElem? (i := 57) rfl))) (mvT hZ (hw _ (List.mem_of_getElem? (i := 51) rfl))) (mvT hZ (hw _ (List.mem_of_getElem? (i := 58) rfl))) (by decide) (backOf (W := 0) (rm12 l Z a0 hw [] kv s_VALUES s_RESPONSE s_REVISIT s_RESOURCE h0 n0 O S_s_VALUES S_s_RESPONSE S_s_REVISIT S_s_RESOURCE V_s_VALUES E_s_VALUES) hZ (hw _ (List.mem_of_getElem? (i := 58) rfl)) (hw _ (List.mem_of_getElem? (i := 51) rfl)) (by decide) (by decide)) (g := (mkF m 0 #[.val .null, .unset, .unset, .unset, .unset] [])) rfl (by rw [hml]; rfl) (argsL := []) (rest := []) (lenOf pd__40_41_91Lcom_47example_47rolling_ledger_47rollingledger_47model_47CaptureKind_59 rfl) rfl (by show 2 * 0 + _ ≤ _; exact Nat.le_of_eq rfl) (hb hby d11_0) (fun _ _ => ⟨rfl, e0, (by decide : 0 + 1 ≤ _), (by decide : 0 + 3 ≤ _)⟩)
  dsimp only [Pt.U, Pt.locs, Pt.cells, Pt.slots] at X1 l1 y1 z1 st1 hQ1
  subst l1 y1 z1
  obtain ⟨z_1, rfl, N1q, K1, V_z_c1, gz_1, gn_1⟩ := hQ1
  have N1 := Fr.app N0 N1q
  have E_s_VALUES := E_s_VALUES.keep K1
  have V_s_VALUES := V_s_VALUES.keep K1 nin0
  have E_s_EMPTY := E_s_EMPTY.keep K1
  have F_o_s_EMPTY := F_o_s_EMPTY.keep K1 nin0
  have E_s_RESPONSE := E_s_RESPONSE.keep K1
  have F_warcType_s_RESPONSE := F_warcType_s_RESPONSE.keep K1 nin0
  have E_u0 := E_u0.keep K1
  have F_coder_u0 := F_coder_u0.keep K1 nin0
  have F_value_u0 := F_value_u0.keep K1 nin0
  have V_b0 := V_b0.keep K1 nin0
  have E_s_REVISIT := E_s_REVISIT.keep K1
  have F_warcType_s_REVISIT := F_warcType_s_REVISIT.keep K1 nin0
  have E_u1 := E_u1.keep K1
  have F_coder_u1 := F_coder_u1.keep K1 nin0
  have F_value_u1 := F_value_u1.keep K1 nin0
  have V_b1 := V_b1.keep K1 nin0
  have E_s_RESOURCE := E_s_RESOURCE.keep K1
  have F_warcType_s_RESOURCE := F_warcType_s_RESOURCE.keep K1 nin0
  have E_u2 := E_u2.keep K1
  have F_coder_u2 := F_coder_u2.keep K1 nin0
  have F_value_u2 := F_value_u2.keep K1 nin0
  have V_b2 := V_b2.keep K1 nin0
  have ne_s_VALUES_z_1 : s_VALUES ≠ z_1 := Nat.ne_of_lt (Nat.lt_of_lt_of_le lt1_s_VALUES gz_1)
  have ne_s_EMPTY_z_1 : s_EMPTY ≠ z_1 := Nat.ne_of_lt (Nat.lt_of_lt_of_le lt1_s_EMPTY gz_1)
  have ne_s_RESPONSE_z_1 : s_RESPONSE ≠ z_1 := Nat.ne_of_lt (Nat.lt_of_lt_of_le lt1_s_RESPONSE gz_1)
  have ne_u0_z_1 : u0 ≠ z_1 := Nat.ne_of_lt (Nat.lt_of_lt_of_le lt1_u0 gz_1)
  have ne_b0_z_1 : b0 ≠ z_1 := Nat.ne_of_lt (Nat.lt_of_lt_of_le lt1_b0 gz_1)
  have ne_s_REVISIT_z_1 : s_REVISIT ≠ z_1 := Nat.ne_of_lt (Nat.lt_of_lt_of_le lt1_s_REVISIT gz_1)
  have ne_u1_z_1 : u1 ≠ z_1 := Nat.ne_of_lt (Nat.lt_of_lt_of_le lt1_u1 gz_1)
  have ne_b1_z_1 : b1 ≠ z_1 := Nat.ne_of_lt (Nat.lt_of_lt_of_le lt1_b1 gz_1)
  have ne_s_RESOURCE_z_1 : s_RESOURCE ≠ z_1 := Nat.ne_of_lt (Nat.lt_of_lt_of_le lt1_s_RESOURCE gz_1)
  have ne_u2_z_1 : u2 ≠ z_1 := Nat.ne_of_lt (Nat.lt_of_lt_of_le lt1_u2 gz_1)
  have ne_b2_z_1 : b2 ≠ z_1 := Nat.ne_of_lt (Nat.lt_of_lt_of_le lt1_b2 gz_1)
  have g_z_1 := gn_1
  have z_z_1 : h0.size ≤ z_1 := Nat.le_trans K.1 gz_1
  have O := O.keep K1 all0
  have K := K.trans K1 all0
  obtain ⟨cl2, Ar2, -, Z2, N2, -, -⟩ := id V_z_c1
  obtain ⟨cl3, Ar3, q3, Z3, N3, H3, G3⟩ := id V_z_c1
  have hin3 : ¬ ((0 : Int32) < 0 ∨ cl3.slots.size ≤ ((0 : Int32)).toNatClampNeg) := inb_of Z3 ⟨by decide, by decide⟩
  have hat3 : cl3.slots[((0 : Int32)).toNatClampNeg]? = some (.ref s_RESPONSE) := H3.at hin3 rfl
  obtain ⟨T4, X4, e4, st4⟩ := getF X1 hx hZ hown (host := "") (Or.inl (hw _ (List.mem_of_getElem? (i := 73) rfl))) Via.refl rfl F_warcType_s_RESPONSE (g := (mkF m 21 #[.val .null, .val (.ref z_1), .val (.int (3 : Int32)), .val (.int (0 : Int32)), .val (.ref s_RESPONSE)] [(.ref s_RESPONSE)])) rfl rfl (hb hby d11_21)
  obtain ⟨cq5, kq5, q5a, q5b, q5c⟩ := isOf hZ e4 E_u0
  obtain ⟨_, _, ⟨T5, L5, k5, n5⟩, -, X5, ⟨Lc5, hQ5, l5, y5, z5⟩, st5⟩ := X4.virtualBack hx (y := (⟨"java/lang/String", "equals", "(Ljava/lang/Object;)Z"⟩ : MethodName)) (z := (⟨"java/lang/String", "equals", "(Ljava/lang/Object;)Z"⟩ : MethodName)) hown (mvT hZ (hw _ (List.mem_of_getElem? (i := 75) rfl))) (mvT hZ (hw _ (List.mem_of_getElem? (i := 41) rfl))) (notFace_of_selects (args := #[]) (mvT hZ (hw _ (List.mem_of_getElem? (i := 43) rfl)))) (mvT hZ (hw _ (List.mem_of_getElem? (i := 43) rfl))) (mvT hZ (hw _ (List.mem_of_getElem? (i := 42) rfl))) (by decide) (backOf (W := 0) (rm9_n l Z a0 hw [] u0 T1.heap n0 O ) hZ (hw _ (List.mem_of_getElem? (i := 44) rfl)) (hw _ (List.mem_of_getElem? (i := 7) rfl)) (by decide) (by decide)) q5a q5c (g := (mkF m 25 #[.val .null, .val (.ref z_1), .val (.int (3 : Int32)), .val (.int (0 : Int32)), .val (.ref s_RESPONSE)] [.null, (.ref u0)])) rfl (by rw [hml]; rfl) (Steps.refl _) (argsL := [.null]) (rest := []) (lenOf pd__40Ljava_47lang_47Object_59_41Z rfl) rfl (by show 2 * 0 + _ ≤ _; exact Nat.le_of_eq rfl) (hb hby d11_25) (fun _ _ => ⟨rfl, e4, (by decide : 1 + 0 ≤ _), (by decide : 3 + 0 ≤ _)⟩)
  dsimp only [Pt.U, Pt.locs, Pt.cells, Pt.slots] at X5 l5 y5 z5 st5 hQ5
  subst l5 y5 z5
  obtain ⟨rfl, N5q, eh5⟩ := hQ5
  have N5 := Fr.app N1 N5q
  obtain ⟨cl6, Ar6, q6, Z6, N6, H6, G6⟩ := id V_z_c1
  have hin6 : ¬ ((1 : Int32) < 0 ∨ cl6.slots.size ≤ ((1 : Int32)).toNatClampNeg) := inb_of Z6 ⟨by decide, by decide⟩
  have hat6 : cl6.slots[((1 : Int32)).toNatClampNeg]? = some (.ref s_REVISIT) := H6.at hin6 rfl
  obtain ⟨T7, X7, e7, st7⟩ := getF X5 hx hZ hown (host := "") (Or.inl (hw _ (List.mem_of_getElem? (i := 73) rfl))) Via.refl eh5 F_warcType_s_REVISIT (g := (mkF m 21 #[.val .null, .val (.ref z_1), .val (.int (3 : Int32)), .val (.int (1 : Int32)), .val (.ref s_REVISIT)] [(.ref s_REVISIT)])) rfl rfl (hb hby d11_21)
  obtain ⟨cq8, kq8, q8a, q8b, q8c⟩ := isOf hZ e7 E_u1
  obtain ⟨_, _, ⟨T8, L8, k8, n8⟩, -, X8, ⟨Lc8, hQ8, l8, y8, z8⟩, st8⟩ := X7.virtualBack hx (y := (⟨"java/lang/String", "equals", "(Ljava/lang/Object;)Z"⟩ : MethodName)) (z := (⟨"java/lang/String", "equals", "(Ljava/lang/Object;)Z"⟩ : MethodName)) hown (mvT hZ (hw _ (List.mem_of_getElem? (i := 75) rfl))) (mvT hZ (hw _ (List.mem_of_getElem? (i := 41) rfl))) (notFace_of_selects (args := #[]) (mvT hZ (hw _ (List.mem_of_getElem? (i := 43) rfl)))) (mvT hZ (hw _ (List.mem_of_getElem? (i := 43) rfl))) (mvT hZ (hw _ (List.mem_of_getElem? (i := 42) rfl))) (by decide) (backOf (W := 0) (rm9_n l Z a0 hw [] u1 T1.heap n0 O ) hZ (hw _ (List.mem_of_getElem? (i := 44) rfl)) (hw _ (List.mem_of_getElem? (i := 7) rfl)) (by decide) (by decide)) q8a q8c (g := (mkF m 25 #[.val .null, .val (.ref z_1), .val (.int (3 : Int32)), .val (.int (1 : Int32)), .val (.ref s_REVISIT)] [.null, (.ref u1)])) rfl (by rw [hml]; rfl) (Steps.refl _) (argsL := [.null]) (rest := []) (lenOf pd__40Ljava_47lang_47Object_59_41Z rfl) rfl (by show 2 * 0 + _ ≤ _; exact Nat.le_of_eq rfl) (hb hby d11_25) (fun _ _ => ⟨rfl, e7, (by decide : 1 + 0 ≤ _), (by decide : 3 + 0 ≤ _)⟩)
  dsimp only [Pt.U, Pt.locs, Pt.cells, Pt.slots] at X8 l8 y8 z8 st8 hQ8
  subst l8 y8 z8
  obtain ⟨rfl, N8q, eh8⟩ := hQ8
  have N8 := Fr.app N5 N8q
  obtain ⟨cl9, Ar9, q9, Z9, N9, H9, G9⟩ := id V_z_c1
  have hin9 : ¬ ((2 : Int32) < 0 ∨ cl9.slots.size ≤ ((2 : Int32)).toNatClampNeg) := inb_of Z9 ⟨by decide, by decide⟩
  have hat9 : cl9.slots[((2 : Int32)).toNatClampNeg]? = some (.ref s_RESOURCE) := H9.at hin9 rfl
  obtain ⟨T10, X10, e10, st10⟩ := getF X8 hx hZ hown (host := "") (Or.inl (hw _ (List.mem_of_getElem? (i := 73) rfl))) Via.refl eh8 F_warcType_s_RESOURCE (g := (mkF m 21 #[.val .null, .val (.ref z_1), .val (.int (3 : Int32)), .val (.int (2 : Int32)), .val (.ref s_RESOURCE)] [(.ref s_RESOURCE)])) rfl rfl (hb hby d11_21)
  obtain ⟨cq11, kq11, q11a, q11b, q11c⟩ := isOf hZ e10 E_u2
  obtain ⟨_, _, ⟨T11, L11, k11, n11⟩, -, X11, ⟨Lc11, hQ11, l11, y11, z11⟩, st11⟩ := X10.virtualBack hx (y := (⟨"java/lang/String", "equals", "(Ljava/lang/Object;)Z"⟩ : MethodName)) (z := (⟨"java/lang/String", "equals", "(Ljava/lang/Object;)Z"⟩ : MethodName)) hown (mvT hZ (hw _ (List.mem_of_getElem? (i := 75) rfl))) (mvT hZ (hw _ (List.mem_of_getElem? (i := 41) rfl))) (notFace_of_selects (args := #[]) (mvT hZ (hw _ (List.mem_of_getElem? (i := 43) rfl)))) (mvT hZ (hw _ (List.mem_of_getElem? (i := 43) rfl))) (mvT hZ (hw _ (List.mem_of_getElem? (i := 42) rfl))) (by decide) (backOf (W := 0) (rm9_n l Z a0 hw [] u2 T1.heap n0 O ) hZ (hw _ (List.mem_of_getElem? (i := 44) rfl)) (hw _ (List.mem_of_getElem? (i := 7) rfl)) (by decide) (by decide)) q11a q11c (g := (mkF m 25 #[.val .null, .val (.ref z_1), .val (.int (3 : Int32)), .val (.int (2 : Int32)), .val (.ref s_RESOURCE)] [.null, (.ref u2)])) rfl (by rw [hml]; rfl) (Steps.refl _) (argsL := [.null]) (rest := []) (lenOf pd__40Ljava_47lang_47Object_59_41Z rfl) rfl (by show 2 * 0 + _ ≤ _; exact Nat.le_of_eq rfl) (hb hby d11_25) (fun _ _ => ⟨rfl, e10, (by decide : 1 + 0 ≤ _), (by decide : 3 + 0 ≤ _)⟩)
  dsimp only [Pt.U, Pt.locs, Pt.cells, Pt.slots] at X11 l11 y11 z11 st11 hQ11
  subst l11 y11 z11
  obtain ⟨rfl, N11q, eh11⟩ := hQ11
  have N11 := Fr.app N8 N11q
  obtain ⟨_, _, ⟨T12, L12, k12, n12⟩, -, X12, ⟨Lc12, hQ12, l12, y12, z12⟩, st12⟩ := Jvm.LawKit.callS X11 hx (y := (⟨"java/util/Optional", "empty", "()Ljava/util/Optional;"⟩ : MethodName)) hown (mvT hZ (hw _ (List.mem_of_getElem? (i := 105) rfl))) (mvT hZ (hw _ (List.mem_of_getElem? (i := 106) rfl))) (mvT hZ (hw _ (List.mem_of_getElem? (i := 78) rfl))) (mvT hZ (hw _ (List.mem_of_getElem? (i := 107) rfl))) (by decide) (backOf (W := 0) (rm18 l Z a0 hw [] s_EMPTY T1.heap n0 O S_s_EMPTY) hZ (hw _ (List.mem_of_getElem? (i := 107) rfl)) (hw _ (List.mem_of_getElem? (i := 78) rfl)) (by decide) (by decide)) (g := (mkF m 43 #[.val .null, .val (.ref z_1), .val (.int (3 : Int32)), .val (.int (3 : Int32)), .val (.ref s_RESOURCE)] [])) rfl (by rw [hml]; rfl) (argsL := []) (rest := []) (lenOf pd__40_41Ljava_47util_47Optional_59 rfl) rfl (by show 2 * 0 + _ ≤ _; exact Nat.le_of_eq rfl) (hb hby d11_43) (fun _ _ => ⟨rfl, eh11, (by decide : 1 + 0 ≤ _), (by decide : 3 + 0 ≤ _)⟩)
  dsimp only [Pt.U, Pt.locs, Pt.cells, Pt.slots] at X12 l12 y12 z12 st12 hQ12
  subst l12 y12 z12
  obtain ⟨rfl, N12q, eh12⟩ := hQ12
  have N12 := Fr.app N11 N12q
  have w13 : ∀ t, Steps p.tables e below (T12.setTop (mkF m 46 #[.val .null, .val (.ref z_1), .val (.int (3 : Int32)), .val (.int (3 : Int32)), .val (.ref s_RESOURCE)] [(.ref s_EMPTY)])) t → Steps p.tables e below (s₁.setTop (entryFrame m #[.null] 5)) t := fun t k => by
    refine pre0 t ?_
    refine st1 _ ?_
    show Steps p.tables e below (T1.setTop (mkF m 3 #[.val .null, .unset, .unset, .unset, .unset] [(.ref z_1)])) _
    refine XS.astoreN X1.here hx rfl (hb hby d11_3) rfl rfl (l' := #[.val .null, .val (.ref z_1), .unset, .unset, .unset]) rfl ?_
    show Steps p.tables e below (T1.setTop (mkF m 4 #[.val .null, .val (.ref z_1), .unset, .unset, .unset] [])) _
    refine XS.aloadN X1.here hx rfl (hb hby d11_4) rfl rfl ?_
    show Steps p.tables e below (T1.setTop (mkF m 5 #[.val .null, .val (.ref z_1), .unset, .unset, .unset] [(.ref z_1)])) _
    refine X1.arraylength hx (by exact Ar2.1) (State.isArrayOf_alike hZ.alike Ar2.2.1) (g := (mkF m 5 #[.val .null, .val (.ref z_1), .unset, .unset, .unset] [(.ref z_1)])) rfl rfl (hb hby d11_5) _ ?_
    rw [len_of Z2 N2]
    show Steps p.tables e below (T1.setTop (mkF m 6 #[.val .null, .val (.ref z_1), .unset, .unset, .unset] [(.int (3 : Int32))])) _
    refine XS.istoreN X1.here hx rfl (hb hby d11_6) rfl (l' := #[.val .null, .val (.ref z_1), .val (.int (3 : Int32)), .unset, .unset]) rfl ?_
    show Steps p.tables e below (T1.setTop (mkF m 7 #[.val .null, .val (.ref z_1), .val (.int (3 : Int32)), .unset, .unset] [])) _
    refine XS.iconst X1.here hx rfl (hb hby d11_7) ?_
    show Steps p.tables e below (T1.setTop (mkF m 8 #[.val .null, .val (.ref z_1), .val (.int (3 : Int32)), .unset, .unset] [(.int (0 : Int32))])) _
    refine XS.istoreN X1.here hx rfl (hb hby d11_8) rfl (l' := #[.val .null, .val (.ref z_1), .val (.int (3 : Int32)), .val (.int (0 : Int32)), .unset]) rfl ?_
    show Steps p.tables e below (T1.setTop (mkF m 9 #[.val .null, .val (.ref z_1), .val (.int (3 : Int32)), .val (.int (0 : Int32)), .unset] [])) _
    refine XS.iloadN X1.here hx rfl (hb hby d11_9) rfl ?_
    show Steps p.tables e below (T1.setTop (mkF m 10 #[.val .null, .val (.ref z_1), .val (.int (3 : Int32)), .val (.int (0 : Int32)), .unset] [(.int (0 : Int32))])) _
    refine XS.iloadN X1.here hx rfl (hb hby d11_10) rfl ?_
    show Steps p.tables e below (T1.setTop (mkF m 11 #[.val .null, .val (.ref z_1), .val (.int (3 : Int32)), .val (.int (0 : Int32)), .unset] [(.int (3 : Int32)), (.int (0 : Int32))])) _
    refine XS.icmpNo X1.here hx rfl (hb hby d11_11) rfl (tlt ((by decide) : (0 : Int32) < (3 : Int32))).2.1 ?_
    show Steps p.tables e below (T1.setTop (mkF m 14 #[.val .null, .val (.ref z_1), .val (.int (3 : Int32)), .val (.int (0 : Int32)), .unset] [])) _
    refine XS.aloadN X1.here hx rfl (hb hby d11_14) rfl rfl ?_
    show Steps p.tables e below (T1.setTop (mkF m 15 #[.val .null, .val (.ref z_1), .val (.int (3 : Int32)), .val (.int (0 : Int32)), .unset] [(.ref z_1)])) _
    refine XS.iloadN X1.here hx rfl (hb hby d11_15) rfl ?_
    show Steps p.tables e below (T1.setTop (mkF m 16 #[.val .null, .val (.ref z_1), .val (.int (3 : Int32)), .val (.int (0 : Int32)), .unset] [(.int (0 : Int32)), (.ref z_1)])) _
    refine X1.aaload hx (j := (0 : Int32)) (v := (.ref s_RESPONSE)) (by exact Ar3.1) (State.isArrayOf_alike hZ.alike Ar3.2.1) rfl Ar3.2.2 hin3 hat3 (g := (mkF m 16 #[.val .null, .val (.ref z_1), .val (.int (3 : Int32)), .val (.int (0 : Int32)), .unset] [(.int (0 : Int32)), (.ref z_1)])) rfl rfl (hb hby d11_16) _ ?_
    show Steps p.tables e below (T1.setTop (mkF m 17 #[.val .null, .val (.ref z_1), .val (.int (3 : Int32)), .val (.int (0 : Int32)), .unset] [(.ref s_RESPONSE)])) _
    refine XS.astore X1.here hx rfl (hb hby d11_17) rfl rfl (l' := #[.val .null, .val (.ref z_1), .val (.int (3 : Int32)), .val (.int (0 : Int32)), .val (.ref s_RESPONSE)]) rfl ?_
    show Steps p.tables e below (T1.setTop (mkF m 19 #[.val .null, .val (.ref z_1), .val (.int (3 : Int32)), .val (.int (0 : Int32)), .val (.ref s_RESPONSE)] [])) _
    refine XS.aload X1.here hx rfl (hb hby d11_19) rfl rfl ?_
    show Steps p.tables e below (T1.setTop (mkF m 21 #[.val .null, .val (.ref z_1), .val (.int (3 : Int32)), .val (.int (0 : Int32)), .val (.ref s_RESPONSE)] [(.ref s_RESPONSE)])) _
    refine st4 _ ?_
    show Steps p.tables e below (T4.setTop (mkF m 24 #[.val .null, .val (.ref z_1), .val (.int (3 : Int32)), .val (.int (0 : Int32)), .val (.ref s_RESPONSE)] [(.ref u0)])) _
    refine XS.aloadN X4.here hx rfl (hb hby d11_24) rfl rfl ?_
    show Steps p.tables e below (T4.setTop (mkF m 25 #[.val .null, .val (.ref z_1), .val (.int (3 : Int32)), .val (.int (0 : Int32)), .val (.ref s_RESPONSE)] [.null, (.ref u0)])) _
    refine st5.trans ?_
    show Steps p.tables e below (T5.setTop (mkF m 28 #[.val .null, .val (.ref z_1), .val (.int (3 : Int32)), .val (.int (0 : Int32)), .val (.ref s_RESPONSE)] [(.int (0 : Int32))])) _
    refine XS.ifYes X5.here hx rfl (pc0 := 28) (pc' := 37) rfl (hb hby d11_28) rfl ((if0 _ _).trans (teq (rfl : (0 : Int32) = (0 : Int32))).1) (by decide) (by decide) ?_
    show Steps p.tables e below (T5.setTop (mkF m 37 #[.val .null, .val (.ref z_1), .val (.int (3 : Int32)), .val (.int (0 : Int32)), .val (.ref s_RESPONSE)] [])) _
    refine XS.iinc X5.here hx rfl (hb hby d11_37) rfl (l' := #[.val .null, .val (.ref z_1), .val (.int (3 : Int32)), .val (.int (1 : Int32)), .val (.ref s_RESPONSE)]) rfl ?_
    show Steps p.tables e below (T5.setTop (mkF m 40 #[.val .null, .val (.ref z_1), .val (.int (3 : Int32)), .val (.int (1 : Int32)), .val (.ref s_RESPONSE)] [])) _
    refine XS.goto X5.here hx rfl (pc0 := 40) (pc' := 9) rfl (hb hby d11_40) (by decide) (by decide) ?_
    show Steps p.tables e below (T5.setTop (mkF m 9 #[.val .null, .val (.ref z_1), .val (.int (3 : Int32)), .val (.int (1 : Int32)), .val (.ref s_RESPONSE)] [])) _
    refine XS.iloadN X5.here hx rfl (hb hby d11_9) rfl ?_
    show Steps p.tables e below (T5.setTop (mkF m 10 #[.val .null, .val (.ref z_1), .val (.int (3 : Int32)), .val (.int (1 : Int32)), .val (.ref s_RESPONSE)] [(.int (1 : Int32))])) _
    refine XS.iloadN X5.here hx rfl (hb hby d11_10) rfl ?_
    show Steps p.tables e below (T5.setTop (mkF m 11 #[.val .null, .val (.ref z_1), .val (.int (3 : Int32)), .val (.int (1 : Int32)), .val (.ref s_RESPONSE)] [(.int (3 : Int32)), (.int (1 : Int32))])) _
    refine XS.icmpNo X5.here hx rfl (hb hby d11_11) rfl (tlt ((by decide) : (1 : Int32) < (3 : Int32))).2.1 ?_
    show Steps p.tables e below (T5.setTop (mkF m 14 #[.val .null, .val (.ref z_1), .val (.int (3 : Int32)), .val (.int (1 : Int32)), .val (.ref s_RESPONSE)] [])) _
    refine XS.aloadN X5.here hx rfl (hb hby d11_14) rfl rfl ?_
    show Steps p.tables e below (T5.setTop (mkF m 15 #[.val .null, .val (.ref z_1), .val (.int (3 : Int32)), .val (.int (1 : Int32)), .val (.ref s_RESPONSE)] [(.ref z_1)])) _
    refine XS.iloadN X5.here hx rfl (hb hby d11_15) rfl ?_
    show Steps p.tables e below (T5.setTop (mkF m 16 #[.val .null, .val (.ref z_1), .val (.int (3 : Int32)), .val (.int (1 : Int32)), .val (.ref s_RESPONSE)] [(.int (1 : Int32)), (.ref z_1)])) _
    refine X5.aaload hx (j := (1 : Int32)) (v := (.ref s_REVISIT)) (by rw [eh5]; exact Ar6.1) (State.isArrayOf_alike hZ.alike Ar6.2.1) rfl Ar6.2.2 hin6 hat6 (g := (mkF m 16 #[.val .null, .val (.ref z_1), .val (.int (3 : Int32)), .val (.int (1 : Int32)), .val (.ref s_RESPONSE)] [(.int (1 : Int32)), (.ref z_1)])) rfl rfl (hb hby d11_16) _ ?_
    show Steps p.tables e below (T5.setTop (mkF m 17 #[.val .null, .val (.ref z_1), .val (.int (3 : Int32)), .val (.int (1 : Int32)), .val (.ref s_RESPONSE)] [(.ref s_REVISIT)])) _
    refine XS.astore X5.here hx rfl (hb hby d11_17) rfl rfl (l' := #[.val .null, .val (.ref z_1), .val (.int (3 : Int32)), .val (.int (1 : Int32)), .val (.ref s_REVISIT)]) rfl ?_
    show Steps p.tables e below (T5.setTop (mkF m 19 #[.val .null, .val (.ref z_1), .val (.int (3 : Int32)), .val (.int (1 : Int32)), .val (.ref s_REVISIT)] [])) _
    refine XS.aload X5.here hx rfl (hb hby d11_19) rfl rfl ?_
    show Steps p.tables e below (T5.setTop (mkF m 21 #[.val .null, .val (.ref z_1), .val (.int (3 : Int32)), .val (.int (1 : Int32)), .val (.ref s_REVISIT)] [(.ref s_REVISIT)])) _
    refine st7 _ ?_
    show Steps p.tables e below (T7.setTop (mkF m 24 #[.val .null, .val (.ref z_1), .val (.int (3 : Int32)), .val (.int (1 : Int32)), .val (.ref s_REVISIT)] [(.ref u1)])) _
    refine XS.aloadN X7.here hx rfl (hb hby d11_24) rfl rfl ?_
    show Steps p.tables e below (T7.setTop (mkF m 25 #[.val .null, .val (.ref z_1), .val (.int (3 : Int32)), .val (.int (1 : Int32)), .val (.ref s_REVISIT)] [.null, (.ref u1)])) _
    refine st8.trans ?_
    show Steps p.tables e below (T8.setTop (mkF m 28 #[.val .null, .val (.ref z_1), .val (.int (3 : Int32)), .val (.int (1 : Int32)), .val (.ref s_REVISIT)] [(.int (0 : Int32))])) _
    refine XS.ifYes X8.here hx rfl (pc0 := 28) (pc' := 37) rfl (hb hby d11_28) rfl ((if0 _ _).trans (teq (rfl : (0 : Int32) = (0 : Int32))).1) (by decide) (by decide) ?_
    show Steps p.tables e below (T8.setTop (mkF m 37 #[.val .null, .val (.ref z_1), .val (.int (3 : Int32)), .val (.int (1 : Int32)), .val (.ref s_REVISIT)] [])) _
    refine XS.iinc X8.here hx rfl (hb hby d11_37) rfl (l' := #[.val .null, .val (.ref z_1), .val (.int (3 : Int32)), .val (.int (2 : Int32)), .val (.ref s_REVISIT)]) rfl ?_
    show Steps p.tables e below (T8.setTop (mkF m 40 #[.val .null, .val (.ref z_1), .val (.int (3 : Int32)), .val (.int (2 : Int32)), .val (.ref s_REVISIT)] [])) _
    refine XS.goto X8.here hx rfl (pc0 := 40) (pc' := 9) rfl (hb hby d11_40) (by decide) (by decide) ?_
    show Steps p.tables e below (T8.setTop (mkF m 9 #[.val .null, .val (.ref z_1), .val (.int (3 : Int32)), .val (.int (2 : Int32)), .val (.ref s_REVISIT)] [])) _
    refine XS.iloadN X8.here hx rfl (hb hby d11_9) rfl ?_
    show Steps p.tables e below (T8.setTop (mkF m 10 #[.val .null, .val (.ref z_1), .val (.int (3 : Int32)), .val (.int (2 : Int32)), .val (.ref s_REVISIT)] [(.int (2 : Int32))])) _
    refine XS.iloadN X8.here hx rfl (hb hby d11_10) rfl ?_
    show Steps p.tables e below (T8.setTop (mkF m 11 #[.val .null, .val (.ref z_1), .val (.int (3 : Int32)), .val (.int (2 : Int32)), .val (.ref s_REVISIT)] [(.int (3 : Int32)), (.int (2 : Int32))])) _
    refine XS.icmpNo X8.here hx rfl (hb hby d11_11) rfl (tlt ((by decide) : (2 : Int32) < (3 : Int32))).2.1 ?_
    show Steps p.tables e below (T8.setTop (mkF m 14 #[.val .null, .val (.ref z_1), .val (.int (3 : Int32)), .val (.int (2 : Int32)), .val (.ref s_REVISIT)] [])) _
    refine XS.aloadN X8.here hx rfl (hb hby d11_14) rfl rfl ?_
    show Steps p.tables e below (T8.setTop (mkF m 15 #[.val .null, .val (.ref z_1), .val (.int (3 : Int32)), .val (.int (2 : Int32)), .val (.ref s_REVISIT)] [(.ref z_1)])) _
    refine XS.iloadN X8.here hx rfl (hb hby d11_15) rfl ?_
    show Steps p.tables e below (T8.setTop (mkF m 16 #[.val .null, .val (.ref z_1), .val (.int (3 : Int32)), .val (.int (2 : Int32)), .val (.ref s_REVISIT)] [(.int (2 : Int32)), (.ref z_1)])) _
    refine X8.aaload hx (j := (2 : Int32)) (v := (.ref s_RESOURCE)) (by rw [eh8]; exact Ar9.1) (State.isArrayOf_alike hZ.alike Ar9.2.1) rfl Ar9.2.2 hin9 hat9 (g := (mkF m 16 #[.val .null, .val (.ref z_1), .val (.int (3 : Int32)), .val (.int (2 : Int32)), .val (.ref s_REVISIT)] [(.int (2 : Int32)), (.ref z_1)])) rfl rfl (hb hby d11_16) _ ?_
    show Steps p.tables e below (T8.setTop (mkF m 17 #[.val .null, .val (.ref z_1), .val (.int (3 : Int32)), .val (.int (2 : Int32)), .val (.ref s_REVISIT)] [(.ref s_RESOURCE)])) _
    refine XS.astore X8.here hx rfl (hb hby d11_17) rfl rfl (l' := #[.val .null, .val (.ref z_1), .val (.int (3 : Int32)), .val (.int (2 : Int32)), .val (.ref s_RESOURCE)]) rfl ?_
    show Steps p.tables e below (T8.setTop (mkF m 19 #[.val .null, .val (.ref z_1), .val (.int (3 : Int32)), .val (.int (2 : Int32)), .val (.ref s_RESOURCE)] [])) _
    refine XS.aload X8.here hx rfl (hb hby d11_19) rfl rfl ?_
    show Steps p.tables e below (T8.setTop (mkF m 21 #[.val .null, .val (.ref z_1), .val (.int (3 : Int32)), .val (.int (2 : Int32)), .val (.ref s_RESOURCE)] [(.ref s_RESOURCE)])) _
    refine st10 _ ?_
    show Steps p.tables e below (T10.setTop (mkF m 24 #[.val .null, .val (.ref z_1), .val (.int (3 : Int32)), .val (.int (2 : Int32)), .val (.ref s_RESOURCE)] [(.ref u2)])) _
    refine XS.aloadN X10.here hx rfl (hb hby d11_24) rfl rfl ?_
    show Steps p.tables e below (T10.setTop (mkF m 25 #[.val .null, .val (.ref z_1), .val (.int (3 : Int32)), .val (.int (2 : Int32)), .val (.ref s_RESOURCE)] [.null, (.ref u2)])) _
    refine st11.trans ?_
    show Steps p.tables e below (T11.setTop (mkF m 28 #[.val .null, .val (.ref z_1), .val (.int (3 : Int32)), .val (.int (2 : Int32)), .val (.ref s_RESOURCE)] [(.int (0 : Int32))])) _
    refine XS.ifYes X11.here hx rfl (pc0 := 28) (pc' := 37) rfl (hb hby d11_28) rfl ((if0 _ _).trans (teq (rfl : (0 : Int32) = (0 : Int32))).1) (by decide) (by decide) ?_
    show Steps p.tables e below (T11.setTop (mkF m 37 #[.val .null, .val (.ref z_1), .val (.int (3 : Int32)), .val (.int (2 : Int32)), .val (.ref s_RESOURCE)] [])) _
    refine XS.iinc X11.here hx rfl (hb hby d11_37) rfl (l' := #[.val .null, .val (.ref z_1), .val (.int (3 : Int32)), .val (.int (3 : Int32)), .val (.ref s_RESOURCE)]) rfl ?_
    show Steps p.tables e below (T11.setTop (mkF m 40 #[.val .null, .val (.ref z_1), .val (.int (3 : Int32)), .val (.int (3 : Int32)), .val (.ref s_RESOURCE)] [])) _
    refine XS.goto X11.here hx rfl (pc0 := 40) (pc' := 9) rfl (hb hby d11_40) (by decide) (by decide) ?_
    show Steps p.tables e below (T11.setTop (mkF m 9 #[.val .null, .val (.ref z_1), .val (.int (3 : Int32)), .val (.int (3 : Int32)), .val (.ref s_RESOURCE)] [])) _
    refine XS.iloadN X11.here hx rfl (hb hby d11_9) rfl ?_
    show Steps p.tables e below (T11.setTop (mkF m 10 #[.val .null, .val (.ref z_1), .val (.int (3 : Int32)), .val (.int (3 : Int32)), .val (.ref s_RESOURCE)] [(.int (3 : Int32))])) _
    refine XS.iloadN X11.here hx rfl (hb hby d11_10) rfl ?_
    show Steps p.tables e below (T11.setTop (mkF m 11 #[.val .null, .val (.ref z_1), .val (.int (3 : Int32)), .val (.int (3 : Int32)), .val (.ref s_RESOURCE)] [(.int (3 : Int32)), (.int (3 : Int32))])) _
    refine XS.icmpYes X11.here hx rfl (pc0 := 11) (pc' := 43) rfl (hb hby d11_11) rfl (flt ((by decide) : ¬ ((3 : Int32) < (3 : Int32)))).2.1 (by decide) (by decide) ?_
    show Steps p.tables e below (T11.setTop (mkF m 43 #[.val .null, .val (.ref z_1), .val (.int (3 : Int32)), .val (.int (3 : Int32)), .val (.ref s_RESOURCE)] [])) _
    refine st12 _ ?_
    show Steps p.tables e below (T12.setTop (mkF m 46 #[.val .null, .val (.ref z_1), .val (.int (3 : Int32)), .val (.int (3 : Int32)), .val (.ref s_RESOURCE)] [(.ref s_EMPTY)])) _
    exact k
  obtain ⟨fs, hr, hrun, hended, hW, hsame⟩ := X12.leave (v := some (.ref s_EMPTY)) (fun h => by rw [Bd.returns] at h; cases h)
  refine ⟨_, _, w13 _ ?_, hrun, hended, _, _, rfl, ?_, ⟨_, rfl⟩, hW, hsame.mono (by decide) (by decide)⟩
  · jvm_step X12.here [X12.here.top, hx, (hb hby d11_46), X12.method', Bd.returns, Value.isRef, FieldType.isReference]
    first | (intro acts; rw [hr _ acts rfl rfl rfl]) | rw [hr _ _ rfl rfl rfl]
    exact Steps.refl _
  · show Q11_null Z kv u0 b0 kb0 u1 b1 kb1 u2 b2 kb2 s_VALUES s_RESPONSE s_REVISIT s_RESOURCE s_EMPTY h0 n0 _ T12.heap _
    rw [eh12]
    exact ⟨s_EMPTY, rfl, N12, K, E_s_EMPTY, F_o_s_EMPTY⟩
theorem own_hp0 : ∀ c ∈ ([] : List Int32), ¬ c < 0 ∧ ¬ (255 : Int32) < c := fun _ h => nomatch h
def own_F0 (x0 : Int32) (x1 : Int32) (x2 : Int32) (x3 : Int64) : Array Slot := #[.val (.int x0), .val (.int x1), .val (.int x2), .val (.long x3), .second, .unset, .unset, .unset, .unset]
def own_F1 (x0 : Int32) (x1 : Int32) (x2 : Int32) (x3 : Int64) (x5 : Int32) : Array Slot := #[.val (.int x0), .val (.int x1), .val (.int x2), .val (.long x3), .second, .val (.int x5), .unset, .unset, .unset]
def own_F2 (x0 : Int32) (x1 : Int32) (x2 : Int32) (x3 : Int64) (x5 : Int32) : Array Slot := #[.val (.int x0), .val (.int x1), .val (.int x2), .val (.long x3), .second, .val (.int x5), .val .null, .unset, .unset]
theorem pd__40Ljava_47lang_47String_59_41Lcom_47example_47rolling_ledger_47rollingledger_47model_47CaptureKind_59 : parseMethodDescriptor "(Ljava/lang/String;)Lcom/example/rolling_ledger/rollingledger/model/CaptureKind;" = some ⟨[(.object "java/lang/String")], some (.object "com/example/rolling_ledger/rollingledger/model/CaptureKind")⟩ := by decide +kernel
def own_F3 (x0 : Int32) (x1 : Int32) (x2 : Int32) (x3 : Int64) (x5 : Int32) : Array Slot := #[.val (.int x0), .val (.int x1), .val (.int x2), .val (.long x3), .second, .val (.int x5), .val .null, .val .null, .unset]
theorem pd__40Ljava_47lang_47String_59_41Ljava_47util_47Optional_59 : parseMethodDescriptor "(Ljava/lang/String;)Ljava/util/Optional;" = some ⟨[(.object "java/lang/String")], some (.object "java/util/Optional")⟩ := by decide +kernel
def own_F4 (x0 : Int32) (x1 : Int32) (x2 : Int32) (x3 : Int64) (x5 : Int32) (x8 : Addr) : Array Slot := #[.val (.int x0), .val (.int x1), .val (.int x2), .val (.long x3), .second, .val (.int x5), .val .null, .val .null, .val (.ref x8)]
theorem pd__40_41Z : parseMethodDescriptor "()Z" = some ⟨[], some .boolean⟩ := by decide +kernel
theorem pd__40IJI_41_91C : parseMethodDescriptor "(IJI)[C" = some ⟨[.int, .long, .int], some (.array .char)⟩ := by decide +kernel
def own_F5 (x0 : Int32) (x1 : Int32) (x2 : Int32) (x3 : Int64) (x5 : Int32) (x7 : Addr) : Array Slot := #[.val (.int x0), .val (.int x1), .val (.int x2), .val (.long x3), .second, .val (.int x5), .unset, .val (.ref x7), .unset]
theorem pd__40_91C_41V : parseMethodDescriptor "([C)V" = some ⟨[(.array .char)], none⟩ := by decide +kernel
def own_F6 (x0 : Int32) (x1 : Int32) (x2 : Int32) (x3 : Int64) (x5 : Int32) (x6 : Addr) (x7 : Addr) : Array Slot := #[.val (.int x0), .val (.int x1), .val (.int x2), .val (.long x3), .second, .val (.int x5), .val (.ref x6), .val (.ref x7), .unset]
def own_F7 (x0 : Int32) (x1 : Int32) (x2 : Int32) (x3 : Int64) (x5 : Int32) (x6 : Addr) (x7 : Addr) (x8 : Addr) : Array Slot := #[.val (.int x0), .val (.int x1), .val (.int x2), .val (.long x3), .second, .val (.int x5), .val (.ref x6), .val (.ref x7), .val (.ref x8)]
theorem pd__40_41Ljava_47lang_47Object_59 : parseMethodDescriptor "()Ljava/lang/Object;" = some ⟨[], some (.object "java/lang/Object")⟩ := by decide +kernel
def own_F8 (x0 : Int32) (x1 : Int32) (x2 : Int32) (x3 : Int64) (x5 : Int32) (x6 : Addr) : Array Slot := #[.val (.int x0), .val (.int x1), .val (.int x2), .val (.long x3), .second, .val (.int x5), .val (.ref x6), .val .null, .unset]
def own_F9 (x0 : Int32) (x1 : Int32) (x2 : Int32) (x3 : Int64) (x5 : Int32) (x6 : Addr) (x8 : Addr) : Array Slot := #[.val (.int x0), .val (.int x1), .val (.int x2), .val (.long x3), .second, .val (.int x5), .val (.ref x6), .val .null, .val (.ref x8)]
def own_F10 (x0 : Int32) (x1 : Int32) (x2 : Int32) (x3 : Int64) (x5 : Int32) (x7 : Addr) (x8 : Int32) : Array Slot := #[.val (.int x0), .val (.int x1), .val (.int x2), .val (.long x3), .second, .val (.int x5), .unset, .val (.ref x7), .val (.int x8)]
def own_F11 (x0 : Int32) (x1 : Int32) (x2 : Int32) (x3 : Int64) (x5 : Int32) (x6 : Addr) (x7 : Addr) (x8 : Int32) : Array Slot := #[.val (.int x0), .val (.int x1), .val (.int x2), .val (.long x3), .second, .val (.int x5), .val (.ref x6), .val (.ref x7), .val (.int x8)]
def own_F12 (x0 : Int32) (x1 : Int32) (x2 : Int32) (x3 : Int64) (x5 : Int32) (x6 : Addr) (x8 : Int32) : Array Slot := #[.val (.int x0), .val (.int x1), .val (.int x2), .val (.long x3), .second, .val (.int x5), .val (.ref x6), .val .null, .val (.int x8)]
theorem ef_0 (m : MethodId) (x0 : Int32) (x1 : Int32) (x2 : Int32) (x3 : Int64) : entryFrame m #[(.int x0), (.int x1), (.int x2), (.long x3)] maxLocals = mkF m 0 #[.val (.int x0), .val (.int x1), .val (.int x2), .val (.long x3), .second, .unset, .unset, .unset, .unset] [] := by first | (simp [entryFrame, mkF, argsToLocals, Value.category, maxLocals]; done) | rfl
def Q0 (Z : State) (i : Int32) (j : Int32) (k1 : Int32) (q : Int64) (kv : ClassId) (u0 : Addr) (b0 : Addr) (kb0 : ClassId) (u1 : Addr) (b1 : Addr) (kb1 : ClassId) (u2 : Addr) (b2 : Addr) (kb2 : ClassId) (zc : Int32) (s_VALUES : Addr) (s_RESPONSE : Addr) (s_REVISIT : Addr) (s_RESOURCE : Addr) (s_EMPTY : Addr) (h0 : Heap) (n0 : Nat) (v : Option Value) (h : Heap) (L : List Loc) : Prop := v = some (.int (1 : Int32)) ∧ Fr n0 L
set_option maxRecDepth 65536 in
set_option maxHeartbeats 40000000 in
theorem rm0 (l : Launch) (Z : State) (a0 : Array Value) (hw : ∀ d ∈ tables_1, d.before a0 Z = true) (ws : List Jvm.Cond) (i : Int32) (j : Int32) (k1 : Int32) (q : Int64) (kv : ClassId) (u0 : Addr) (b0 : Addr) (kb0 : ClassId) (u1 : Addr) (b1 : Addr) (kb1 : ClassId) (u2 : Addr) (b2 : Addr) (kb2 : ClassId) (zc : Int32) (s_VALUES : Addr) (s_RESPONSE : Addr) (s_REVISIT : Addr) (s_RESOURCE : Addr) (s_EMPTY : Addr) (h0 : Heap) (n0 : Nat) (O0 : Old Z n0 h0) (S_s_VALUES : Sta Z Z.heap "com/example/rolling_ledger/rollingledger/model/CaptureKind" "$VALUES" "[Lcom/example/rolling_ledger/rollingledger/model/CaptureKind;" (.ref s_VALUES)) (S_s_RESPONSE : Sta Z Z.heap "com/example/rolling_ledger/rollingledger/model/CaptureKind" "RESPONSE" "Lcom/example/rolling_ledger/rollingledger/model/CaptureKind;" (.ref s_RESPONSE)) (S_s_REVISIT : Sta Z Z.heap "com/example/rolling_ledger/rollingledger/model/CaptureKind" "REVISIT" "Lcom/example/rolling_ledger/rollingledger/model/CaptureKind;" (.ref s_REVISIT)) (S_s_RESOURCE : Sta Z Z.heap "com/example/rolling_ledger/rollingledger/model/CaptureKind" "RESOURCE" "Lcom/example/rolling_ledger/rollingledger/model/CaptureKind;" (.ref s_RESOURCE)) (S_s_EMPTY : Sta Z Z.heap "java/util/Optional" "EMPTY" "Ljava/util/Optional;" (.ref s_EMPTY)) (o_E_s_VALUES : Exa Z Z.heap s_VALUES "[Lcom/example/rolling_ledger/rollingledger/model/CaptureKind;") (o_V_s_VALUES : Arv Z Z.heap s_VALUES kv (.object "com/example/rolling_ledger/rollingledger/model/CaptureKind") (3 : Int32) [(.ref s_RESPONSE), (.ref s_REVISIT), (.ref s_RESOURCE)] .null) (o_E_s_EMPTY : Exa Z Z.heap s_EMPTY "java/util/Optional") (o_F_o_s_EMPTY : Fld Z Z.heap s_EMPTY "java/util/Optional" "value" "Ljava/lang/Object;" .null) (o_E_s_RESPONSE : Exa Z Z.heap s_RESPONSE "com/example/rolling_ledger/rollingledger/model/CaptureKind") (o_F_warcType_s_RESPONSE : Fld Z Z.heap s_RESPONSE "com/example/rolling_ledger/rollingledger/model/CaptureKind" "warcType" "Ljava/lang/String;" (.ref u0)) (o_E_u0 : Exa Z Z.heap u0 "java/lang/String") (o_F_coder_u0 : Fld Z Z.heap u0 "java/lang/String" "coder" "B" (.int (0 : Int32))) (o_F_value_u0 : Fld Z Z.heap u0 "java/lang/String" "value" "[B" (.ref b0)) (o_V_b0 : Arv Z Z.heap b0 kb0 .byte (8 : Int32) [(.int (114 : Int32)), (.int (101 : Int32)), (.int (115 : Int32)), (.int (112 : Int32)), (.int (111 : Int32)), (.int (110 : Int32)), (.int (115 : Int32)), (.int (101 : Int32))] (.int (0 : Int32))) (o_E_s_REVISIT : Exa Z Z.heap s_REVISIT "com/example/rolling_ledger/rollingledger/model/CaptureKind") (o_F_warcType_s_REVISIT : Fld Z Z.heap s_REVISIT "com/example/rolling_ledger/rollingledger/model/CaptureKind" "warcType" "Ljava/lang/String;" (.ref u1)) (o_E_u1 : Exa Z Z.heap u1 "java/lang/String") (o_F_coder_u1 : Fld Z Z.heap u1 "java/lang/String" "coder" "B" (.int (0 : Int32))) (o_F_value_u1 : Fld Z Z.heap u1 "java/lang/String" "value" "[B" (.ref b1)) (o_V_b1 : Arv Z Z.heap b1 kb1 .byte (7 : Int32) [(.int (114 : Int32)), (.int (101 : Int32)), (.int (118 : Int32)), (.int (105 : Int32)), (.int (115 : Int32)), (.int (105 : Int32)), (.int (116 : Int32))] (.int (0 : Int32))) (o_E_s_RESOURCE : Exa Z Z.heap s_RESOURCE "com/example/rolling_ledger/rollingledger/model/CaptureKind") (o_F_warcType_s_RESOURCE : Fld Z Z.heap s_RESOURCE "com/example/rolling_ledger/rollingledger/model/CaptureKind" "warcType" "Ljava/lang/String;" (.ref u2)) (o_E_u2 : Exa Z Z.heap u2 "java/lang/String") (o_F_coder_u2 : Fld Z Z.heap u2 "java/lang/String" "coder" "B" (.int (0 : Int32))) (o_F_value_u2 : Fld Z Z.heap u2 "java/lang/String" "value" "[B" (.ref b2)) (o_V_b2 : Arv Z Z.heap b2 kb2 .byte (8 : Int32) [(.int (114 : Int32)), (.int (101 : Int32)), (.int (115 : Int32)), (.int (111 : Int32)), (.int (117 : Int32)), (.int (114 : Int32)), (.int (99 : Int32)), (.int (101 : Int32))] (.int (0 : Int32))) (SC : Sta Z Z.heap "java/lang/String" "COMPACT_STRINGS" "Z" (.int zc)) (hzc : ¬ zc = 0) :
    MetFree l x (head1 (Jvm.Cond.code x code maxLocals ret :: ws) room_1) (fun aA uU => aA = #[(.int i), (.int j), (.int k1), (.long q)] ∧ Z.Warmed39 uU.vm ∧ uU.heap = h0 ∧ CHv Z consts_1 uU.vm h0) (fun _ _ _ _ _ => True) (fun _ uU oO uU' => ∃ vV lL, oO = .returned vV ∧ Q0 Z i j k1 q kv u0 b0 kb0 u1 b1 kb1 u2 b2 kb2 zc s_VALUES s_RESPONSE s_REVISIT s_RESOURCE s_EMPTY h0 n0 vV uU'.heap lL ∧ CHr Z consts_1 uU.vm uU.heap uU'.vm uU'.heap ∧ ReturnedEndW uU oO uU' lL room_1.cells room_1.slots) := by
  refine MetFree.of_bodySF (plainFor_of_name pn_com_example_rolling_ledger_rollingledger_model_CaptureKindOfWarcTypePinLaw) hisR ?_
  intro p e s m args below meth c s₁ Bd hml0 hP hK
  obtain ⟨rfl, hZ, hh, H0⟩ := hP
  have hx := Bd.exec
  have hby := Bd.bytes
  have hml : c.maxLocals = 9 := hml0
  have hown : s.vm.findClass "com/example/rolling_ledger/rollingledger/model/CaptureKindOfWarcTypePinLaw" = some m.cls := findClass_of_methodNamed Bd.named
  have hnm := (name_of_methodNamed Bd.named Bd.method).1
  have X0 : Stand p l e room_1 (s.setVm s.vm) m #[(.int i), (.int j), (.int k1), (.long q)] below meth c s₁ [] 0 0 := Stand.of_body Bd
  have e0 : s₁.heap = h0 := by rw [← hh, Bd.state]; rfl
  have N0 := Fr.nil n0
  have O := O0
  have hS : s.Since s.vm h0.size := own_since s _
  have hk : h0.size ≤ h0.size := Nat.le_refl _
  have C : CHr Z consts_1 s.vm h0 s.vm h0 := CHr.refl H0
  have hEL := own_EW hw
  have hSA := own_wS hw
  have pre0 : ∀ t, Steps p.tables e below (s₁.setTop (mkF m 0 #[.val (.int i), .val (.int j), .val (.int k1), .val (.long q), .second, .unset, .unset, .unset, .unset] [])) t → Steps p.tables e below (s₁.setTop (entryFrame m #[(.int i), (.int j), (.int k1), (.long q)] maxLocals)) t := fun t k => castTop (ef_0 m i j k1 q) k
  have w1 : ∀ t, Steps p.tables e below (s₁.setTop (mkF m 10 (own_F1 i j k1 q (i &&& (7 : Int32))) [(.int (7 : Int32)), (.int (i &&& (7 : Int32)))])) t → Steps p.tables e below (s₁.setTop (entryFrame m #[(.int i), (.int j), (.int k1), (.long q)] maxLocals)) t := fun t k => by
    refine pre0 t ?_
    refine XS.iloadN X0.here hx rfl (hb hby at_0) rfl ?_
    show Steps p.tables e below (s₁.setTop (mkF m 1 (own_F0 i j k1 q) [(.int i)])) _
    refine XS.bipush X0.here hx rfl (hb hby at_1) ?_
    show Steps p.tables e below (s₁.setTop (mkF m 3 (own_F0 i j k1 q) [(.int (7 : Int32)), (.int i)])) _
    refine XS.iand X0.here hx rfl (hb hby at_3) rfl ?_
    show Steps p.tables e below (s₁.setTop (mkF m 4 (own_F0 i j k1 q) [(.int (i &&& (7 : Int32)))])) _
    refine XS.istore X0.here hx rfl (hb hby at_4) rfl (l' := (own_F1 i j k1 q (i &&& (7 : Int32)))) rfl ?_
    show Steps p.tables e below (s₁.setTop (mkF m 6 (own_F1 i j k1 q (i &&& (7 : Int32))) [])) _
    refine XS.iload X0.here hx rfl (hb hby at_6) rfl ?_
    show Steps p.tables e below (s₁.setTop (mkF m 8 (own_F1 i j k1 q (i &&& (7 : Int32))) [(.int (i &&& (7 : Int32)))])) _
    refine XS.bipush X0.here hx rfl (hb hby at_8) ?_
    show Steps p.tables e below (s₁.setTop (mkF m 10 (own_F1 i j k1 q (i &&& (7 : Int32))) [(.int (7 : Int32)), (.int (i &&& (7 : Int32)))])) _
    exact k
  by_cases hc10_2 : (i &&& (7 : Int32)) = (7 : Int32)
  · obtain ⟨_, _, ⟨T3, L3, k3, n3⟩, -, X3, ⟨Lc3, hQ3, l3, y3, z3⟩, st3⟩ := Jvm.LawKit.callS X0 hx (y := (⟨"com/example/rolling_ledger/rollingledger/model/CaptureKindOfWarcTypePinLaw", "expect", "(Ljava/lang/String;)Lcom/example/rolling_ledger/rollingledger/model/CaptureKind;"⟩ : MethodName)) hown (mvT hZ (hw _ (List.mem_of_getElem? (i := 34) rfl))) (mvT hZ (hw _ (List.mem_of_getElem? (i := 35) rfl))) (mvT hZ (hw _ (List.mem_of_getElem? (i := 2) rfl))) (mvT hZ (hw _ (List.mem_of_getElem? (i := 36) rfl))) (by decide) (backOf (W := 0) (rm8_null l Z a0 hw []  h0 n0 O ) hZ (hw _ (List.mem_of_getElem? (i := 36) rfl)) (hw _ (List.mem_of_getElem? (i := 2) rfl)) (by decide) (by decide)) (g := (mkF m 79 (own_F2 i j k1 q (i &&& (7 : Int32))) [.null])) rfl (by rw [hml]; rfl) (argsL := [.null]) (rest := []) (lenOf pd__40Ljava_47lang_47String_59_41Lcom_47example_47rolling_ledger_47rollingledger_47model_47CaptureKind_59 rfl) rfl (by show 2 * 0 + _ ≤ _; exact Nat.le_of_eq rfl) (hb hby at_79) (fun _ _ => ⟨rfl, e0, (by decide : 0 + 0 ≤ _), (by decide : 0 + 0 ≤ _)⟩)
    dsimp only [Pt.U, Pt.locs, Pt.cells, Pt.slots] at X3 l3 y3 z3 st3 hQ3
    subst l3 y3 z3
    obtain ⟨rfl, N3q, eh3⟩ := hQ3
    have N3 := Fr.app N0 N3q
    obtain ⟨_, _, ⟨T4, L4, k4, n4⟩, -, X4, ⟨Lc4, hQ4, l4, y4, z4⟩, st4⟩ := Jvm.LawKit.callS X3 hx (y := (⟨"com/example/rolling_ledger/rollingledger/model/CaptureKind", "ofWarcType", "(Ljava/lang/String;)Ljava/util/Optional;"⟩ : MethodName)) hown (mvT hZ (hw _ (List.mem_of_getElem? (i := 53) rfl))) (mvT hZ (hw _ (List.mem_of_getElem? (i := 54) rfl))) (mvT hZ (hw _ (List.mem_of_getElem? (i := 51) rfl))) (mvT hZ (hw _ (List.mem_of_getElem? (i := 55) rfl))) (by decide) (backOf (W := 0) (rm11_null l Z a0 hw [] kv u0 b0 kb0 u1 b1 kb1 u2 b2 kb2 s_VALUES s_RESPONSE s_REVISIT s_RESOURCE s_EMPTY h0 n0 O S_s_VALUES S_s_RESPONSE S_s_REVISIT S_s_RESOURCE S_s_EMPTY (by assumption) (by assumption) (by assumption) (by assumption) (by assumption) (by assumption) (by assumption) (by assumption) (by assumption) (by assumption) (by assumption) (by assumption) (by assumption) (by assumption) (by assumption) (by assumption) (by assumption) (by assumption) (by assumption) (by assumption) (by assumption) (by assumption)) hZ (hw _ (List.mem_of_getElem? (i := 55) rfl)) (hw _ (List.mem_of_getElem? (i := 51) rfl)) (by decide) (by decide)) (g := (mkF m 86 (own_F3 i j k1 q (i &&& (7 : Int32))) [.null])) rfl (by rw [hml]; rfl) (argsL := [.null]) (rest := []) (lenOf pd__40Ljava_47lang_47String_59_41Ljava_47util_47Optional_59 rfl) rfl (by show 2 * 0 + _ ≤ _; exact Nat.le_of_eq rfl) (hb hby at_86) (fun _ _ => ⟨rfl, eh3, (by decide : 0 + 1 ≤ _), (by decide : 0 + 3 ≤ _)⟩)
    dsimp only [Pt.U, Pt.locs, Pt.cells, Pt.slots] at X4 l4 y4 z4 st4 hQ4
    subst l4 y4 z4
    obtain ⟨z_4, rfl, N4q, K4, E_z_c4, F_o_z_c4⟩ := hQ4
    have N4 := Fr.app N3 N4q
    have R := CHr.keep K4 all0 C.1
    have C := C.trans R
    have hk := Nat.le_trans hk K4.1
    have O := O.keep K4 all0
    obtain ⟨cq5, kq5, q5a, q5b, q5c⟩ := isOf hZ rfl E_z_c4
    obtain ⟨_, _, ⟨T5, L5, k5, n5⟩, -, X5, ⟨Lc5, hQ5, l5, y5, z5⟩, st5⟩ := X4.virtualBack hx (y := (⟨"java/util/Optional", "isPresent", "()Z"⟩ : MethodName)) (z := (⟨"java/util/Optional", "isPresent", "()Z"⟩ : MethodName)) hown (mvT hZ (hw _ (List.mem_of_getElem? (i := 93) rfl))) (mvT hZ (hw _ (List.mem_of_getElem? (i := 94) rfl))) (notFace_of_selects (args := #[]) (mvT hZ (hw _ (List.mem_of_getElem? (i := 96) rfl)))) (mvT hZ (hw _ (List.mem_of_getElem? (i := 96) rfl))) (mvT hZ (hw _ (List.mem_of_getElem? (i := 95) rfl))) (by decide) (backOf (W := 0) (rm16_n l Z a0 hw [] z_4 T4.heap n0 O F_o_z_c4) hZ (hw _ (List.mem_of_getElem? (i := 97) rfl)) (hw _ (List.mem_of_getElem? (i := 78) rfl)) (by decide) (by decide)) q5a q5c (g := (mkF m 105 (own_F4 i j k1 q (i &&& (7 : Int32)) z_4) [(.ref z_4)])) rfl (by rw [hml]; rfl) (Steps.refl _) (argsL := []) (rest := []) (lenOf pd__40_41Z rfl) rfl (by show 2 * 0 + _ ≤ _; exact Nat.le_of_eq rfl) (hb hby at_105) (fun _ _ => ⟨rfl, rfl, (by decide : 1 + 0 ≤ _), (by decide : 3 + 0 ≤ _)⟩)
    dsimp only [Pt.U, Pt.locs, Pt.cells, Pt.slots] at X5 l5 y5 z5 st5 hQ5
    subst l5 y5 z5
    obtain ⟨rfl, N5q, eh5⟩ := hQ5
    have N5 := Fr.app N4 N5q
    have w6 : ∀ t, Steps p.tables e below (T5.setTop (mkF m 116 (own_F4 i j k1 q (i &&& (7 : Int32)) z_4) [(.int (1 : Int32))])) t → Steps p.tables e below (s₁.setTop (entryFrame m #[(.int i), (.int j), (.int k1), (.long q)] maxLocals)) t := fun t k => by
      refine w1 t ?_
      refine XS.icmpNo X0.here hx rfl (hb hby at_10) rfl (teq hc10_2).2 ?_
      show Steps p.tables e below (s₁.setTop (mkF m 13 (own_F1 i j k1 q (i &&& (7 : Int32))) [])) _
      refine XS.aconstNull X0.here hx rfl (hb hby at_13) ?_
      show Steps p.tables e below (s₁.setTop (mkF m 14 (own_F1 i j k1 q (i &&& (7 : Int32))) [.null])) _
      refine XS.astore X0.here hx rfl (hb hby at_14) rfl rfl (l' := (own_F2 i j k1 q (i &&& (7 : Int32)))) rfl ?_
      show Steps p.tables e below (s₁.setTop (mkF m 16 (own_F2 i j k1 q (i &&& (7 : Int32))) [])) _
      refine XS.goto X0.here hx rfl (pc0 := 16) (pc' := 77) rfl (hb hby at_16) (by decide) (by decide) ?_
      show Steps p.tables e below (s₁.setTop (mkF m 77 (own_F2 i j k1 q (i &&& (7 : Int32))) [])) _
      refine XS.aload X0.here hx rfl (hb hby at_77) rfl rfl ?_
      show Steps p.tables e below (s₁.setTop (mkF m 79 (own_F2 i j k1 q (i &&& (7 : Int32))) [.null])) _
      refine st3 _ ?_
      show Steps p.tables e below (T3.setTop (mkF m 82 (own_F2 i j k1 q (i &&& (7 : Int32))) [.null])) _
      refine XS.astore X3.here hx rfl (hb hby at_82) rfl rfl (l' := (own_F3 i j k1 q (i &&& (7 : Int32)))) rfl ?_
      show Steps p.tables e below (T3.setTop (mkF m 84 (own_F3 i j k1 q (i &&& (7 : Int32))) [])) _
      refine XS.aload X3.here hx rfl (hb hby at_84) rfl rfl ?_
      show Steps p.tables e below (T3.setTop (mkF m 86 (own_F3 i j k1 q (i &&& (7 : Int32))) [.null])) _
      refine st4 _ ?_
      show Steps p.tables e below (T4.setTop (mkF m 89 (own_F3 i j k1 q (i &&& (7 : Int32))) [(.ref z_4)])) _
      refine XS.astore X4.here hx rfl (hb hby at_89) rfl rfl (l' := (own_F4 i j k1 q (i &&& (7 : Int32)) z_4)) rfl ?_
      show Steps p.tables e below (T4.setTop (mkF m 91 (own_F4 i j k1 q (i &&& (7 : Int32)) z_4) [])) _
      refine XS.aload X4.here hx rfl (hb hby at_91) rfl rfl ?_
      show Steps p.tables e below (T4.setTop (mkF m 93 (own_F4 i j k1 q (i &&& (7 : Int32)) z_4) [(.ref z_4)])) _
      refine XS.ifnonnullYes X4.here hx rfl (pc0 := 93) (pc' := 98) rfl (hb hby at_93) rfl (by decide) (by decide) ?_
      show Steps p.tables e below (T4.setTop (mkF m 98 (own_F4 i j k1 q (i &&& (7 : Int32)) z_4) [])) _
      refine XS.aload X4.here hx rfl (hb hby at_98) rfl rfl ?_
      show Steps p.tables e below (T4.setTop (mkF m 100 (own_F4 i j k1 q (i &&& (7 : Int32)) z_4) [.null])) _
      refine XS.ifnonnullNo X4.here hx rfl (hb hby at_100) rfl ?_
      show Steps p.tables e below (T4.setTop (mkF m 103 (own_F4 i j k1 q (i &&& (7 : Int32)) z_4) [])) _
      refine XS.aload X4.here hx rfl (hb hby at_103) rfl rfl ?_
      show Steps p.tables e below (T4.setTop (mkF m 105 (own_F4 i j k1 q (i &&& (7 : Int32)) z_4) [(.ref z_4)])) _
      refine st5.trans ?_
      show Steps p.tables e below (T5.setTop (mkF m 108 (own_F4 i j k1 q (i &&& (7 : Int32)) z_4) [(.int (0 : Int32))])) _
      refine XS.ifNo X5.here hx rfl (hb hby at_108) rfl ((if0 _ _).trans (teq (rfl : (0 : Int32) = (0 : Int32))).2) ?_
      show Steps p.tables e below (T5.setTop (mkF m 111 (own_F4 i j k1 q (i &&& (7 : Int32)) z_4) [])) _
      refine XS.iconst X5.here hx rfl (hb hby at_111) ?_
      show Steps p.tables e below (T5.setTop (mkF m 112 (own_F4 i j k1 q (i &&& (7 : Int32)) z_4) [(.int (1 : Int32))])) _
      refine XS.goto X5.here hx rfl (pc0 := 112) (pc' := 116) rfl (hb hby at_112) (by decide) (by decide) ?_
      show Steps p.tables e below (T5.setTop (mkF m 116 (own_F4 i j k1 q (i &&& (7 : Int32)) z_4) [(.int (1 : Int32))])) _
      exact k
    obtain ⟨fs, hr, hrun, hended, hE⟩ := Stand.leaveW (s := s) (vm₁ := s.vm) X5 hS (by rw [eh5]; exact hk) (v := some (.int (1 : Int32))) (fun h => by rw [Bd.returns] at h; cases h)
    refine ⟨_, _, w6 _ ?_, hrun, hended, _, _, rfl, ?_, ?_, own_mono hE (by decide) (by decide)⟩
    · exact retN X5 hx (t := .boolean) Bd.returns (by simp) (hb hby at_116) hr
    · show Q0 Z i j k1 q kv u0 b0 kb0 u1 b1 kb1 u2 b2 kb2 zc s_VALUES s_RESPONSE s_REVISIT s_RESOURCE s_EMPTY h0 n0 _ T5.heap _
      rw [eh5]
      exact ⟨rfl, N5⟩
    · rw [hh]; show CHr Z consts_1 s.vm h0 T5.vm T5.heap; rw [eh5]; exact C.trans (CHv.at X5 hZ hEL C.1)
  · obtain ⟨_, _, ⟨T7, L7, k7, n7⟩, -, X7, ⟨Lc7, hQ7, l7, y7, z7⟩, st7⟩ := Jvm.LawKit.callS X0 hx (y := (⟨"com/example/rolling_ledger/rollingledger/model/CaptureKindOfWarcTypePinLaw", "base", "(IJI)[C"⟩ : MethodName)) hown (mvT hZ (hw _ (List.mem_of_getElem? (i := 0) rfl))) (mvT hZ (hw _ (List.mem_of_getElem? (i := 1) rfl))) (mvT hZ (hw _ (List.mem_of_getElem? (i := 2) rfl))) (mvT hZ (hw _ (List.mem_of_getElem? (i := 3) rfl))) (by decide) (backOf (W := 0) (rm1 l Z a0 hw [] (i &&& (7 : Int32)) q k1 h0 n0 O ) hZ (hw _ (List.mem_of_getElem? (i := 3) rfl)) (hw _ (List.mem_of_getElem? (i := 2) rfl)) (by decide) (by decide)) (g := (mkF m 23 (own_F1 i j k1 q (i &&& (7 : Int32))) [(.int k1), (.long q), (.int (i &&& (7 : Int32)))])) rfl (by rw [hml]; rfl) (argsL := [(.int (i &&& (7 : Int32))), (.long q), (.int k1)]) (rest := []) (lenOf pd__40IJI_41_91C rfl) rfl (by show 2 * 0 + _ ≤ _; exact Nat.le_of_eq rfl) (hb hby at_23) (fun _ _ => ⟨rfl, e0, (by decide : 0 + 1 ≤ _), (by decide : 0 + 9 ≤ _)⟩)
    dsimp only [Pt.U, Pt.locs, Pt.cells, Pt.slots] at X7 l7 y7 z7 st7 hQ7
    subst l7 y7 z7
    obtain ⟨z_7, kz_7, cs_7, rfl, N7q, K7, V_z_c7, gz_7, gn_7, hl_7, hp_7⟩ := hQ7
    have N7 := Fr.app N0 N7q
    have R := CHr.keep K7 all0 C.1
    have C := C.trans R
    have hk := Nat.le_trans hk K7.1
    have g_z_7 := gn_7
    have O := O.keep K7 all0
    have w8 : ∀ t, Steps p.tables e below (T7.setTop (mkF m 33 (own_F5 i j k1 q (i &&& (7 : Int32)) z_7) [(.int (((i.toUInt32 >>> ((3 : Int32) &&& 31).toUInt32).toInt32) &&& (1 : Int32)))])) t → Steps p.tables e below (s₁.setTop (entryFrame m #[(.int i), (.int j), (.int k1), (.long q)] maxLocals)) t := fun t k => by
      refine w1 t ?_
      refine XS.icmpYes X0.here hx rfl (pc0 := 10) (pc' := 19) rfl (hb hby at_10) rfl (feq hc10_2).2 (by decide) (by decide) ?_
      show Steps p.tables e below (s₁.setTop (mkF m 19 (own_F1 i j k1 q (i &&& (7 : Int32))) [])) _
      refine XS.iload X0.here hx rfl (hb hby at_19) rfl ?_
      show Steps p.tables e below (s₁.setTop (mkF m 21 (own_F1 i j k1 q (i &&& (7 : Int32))) [(.int (i &&& (7 : Int32)))])) _
      refine XS.lloadN X0.here hx rfl (hb hby at_21) rfl ?_
      show Steps p.tables e below (s₁.setTop (mkF m 22 (own_F1 i j k1 q (i &&& (7 : Int32))) [(.long q), (.int (i &&& (7 : Int32)))])) _
      refine XS.iloadN X0.here hx rfl (hb hby at_22) rfl ?_
      show Steps p.tables e below (s₁.setTop (mkF m 23 (own_F1 i j k1 q (i &&& (7 : Int32))) [(.int k1), (.long q), (.int (i &&& (7 : Int32)))])) _
      refine st7 _ ?_
      show Steps p.tables e below (T7.setTop (mkF m 26 (own_F1 i j k1 q (i &&& (7 : Int32))) [(.ref z_7)])) _
      refine XS.astore X7.here hx rfl (hb hby at_26) rfl rfl (l' := (own_F5 i j k1 q (i &&& (7 : Int32)) z_7)) rfl ?_
      show Steps p.tables e below (T7.setTop (mkF m 28 (own_F5 i j k1 q (i &&& (7 : Int32)) z_7) [])) _
      refine XS.iloadN X7.here hx rfl (hb hby at_28) rfl ?_
      show Steps p.tables e below (T7.setTop (mkF m 29 (own_F5 i j k1 q (i &&& (7 : Int32)) z_7) [(.int i)])) _
      refine XS.iconst X7.here hx rfl (hb hby at_29) ?_
      show Steps p.tables e below (T7.setTop (mkF m 30 (own_F5 i j k1 q (i &&& (7 : Int32)) z_7) [(.int (3 : Int32)), (.int i)])) _
      refine XS.iushr X7.here hx rfl (hb hby at_30) rfl ?_
      show Steps p.tables e below (T7.setTop (mkF m 31 (own_F5 i j k1 q (i &&& (7 : Int32)) z_7) [(.int ((i.toUInt32 >>> ((3 : Int32) &&& 31).toUInt32).toInt32))])) _
      refine XS.iconst X7.here hx rfl (hb hby at_31) ?_
      show Steps p.tables e below (T7.setTop (mkF m 32 (own_F5 i j k1 q (i &&& (7 : Int32)) z_7) [(.int (1 : Int32)), (.int ((i.toUInt32 >>> ((3 : Int32) &&& 31).toUInt32).toInt32))])) _
      refine XS.iand X7.here hx rfl (hb hby at_32) rfl ?_
      show Steps p.tables e below (T7.setTop (mkF m 33 (own_F5 i j k1 q (i &&& (7 : Int32)) z_7) [(.int (((i.toUInt32 >>> ((3 : Int32) &&& 31).toUInt32).toInt32) &&& (1 : Int32)))])) _
      exact k
    by_cases hc33_9 : (((i.toUInt32 >>> ((3 : Int32) &&& 31).toUInt32).toInt32) &&& (1 : Int32)) = (0 : Int32)
    · have w10 : ∀ t, Steps p.tables e below (T7.setTop (mkF m 66 (own_F5 i j k1 q (i &&& (7 : Int32)) z_7) [])) t → Steps p.tables e below (s₁.setTop (entryFrame m #[(.int i), (.int j), (.int k1), (.long q)] maxLocals)) t := fun t k => by
        refine w8 t ?_
        refine XS.ifYes X7.here hx rfl (pc0 := 33) (pc' := 66) rfl (hb hby at_33) rfl ((if0 _ _).trans (teq hc33_9).1) (by decide) (by decide) ?_
        show Steps p.tables e below (T7.setTop (mkF m 66 (own_F5 i j k1 q (i &&& (7 : Int32)) z_7) [])) _
        exact k
      by_cases he11 : (0 : Int32) < (Int32.ofNat cs_7.length)
      · have pohe11 := own_pos hl_7 he11
        obtain ⟨T12, h12, X12, e12, E12, A12, D12, -, st12⟩ := newO X7 hx hZ hown (hw _ (List.mem_of_getElem? (i := 5) rfl)) (hw _ (List.mem_of_getElem? (i := 6) rfl)) (hw _ (List.mem_of_getElem? (i := 7) rfl)) rfl (g := (mkF m 66 (own_F5 i j k1 q (i &&& (7 : Int32)) z_7) [])) rfl (hb hby at_66) (by decide) (by decide)
        obtain ⟨b12, gq12⟩ : ∃ z, z = Array.size T7.heap := ⟨_, rfl⟩
        rw [← gq12] at A12 D12 st12
        have ne_z_7_b12 : z_7 ≠ b12 := Nat.ne_of_lt (Nat.lt_of_lt_of_le V_z_c7.lt (Nat.le_of_eq gq12.symm))
        have g_b12 : n0 ≤ b12 := Nat.le_trans (O.1 ▸ O.2.1) (Nat.le_of_eq gq12.symm)
        have sf_b12 := own_safeN C.1 E12 (Nat.le_of_eq gq12.symm)
        have R := CHr.ext E12 C.1
        have C := C.trans R
        have hk := Nat.le_trans hk E12.1
        have V_z_c7 := V_z_c7.ext E12
        have O := O.ext E12
        have F_coder_b12 : Fld Z h12 b12 "java/lang/String" "coder" "B" (.int (0 : Int32)) := D12 (Or.inr (hw _ (List.mem_of_getElem? (i := 31) rfl))) (ty := .byte) (by decide)
        have F_value_b12 : Fld Z h12 b12 "java/lang/String" "value" "[B" .null := D12 (Or.inr (hw _ (List.mem_of_getElem? (i := 33) rfl))) (ty := (.array .byte)) (by decide)
        have h9_b12 : 0 < cs_7.length ∧ cs_7.length ≤ 9 := ⟨pohe11, hl_7⟩
        obtain ⟨_, _, ⟨T13, L13, k13, n13⟩, -, X13, ⟨Lc13, hQ13, l13, y13, z13⟩, st13⟩ := X12.specialBack hx (y := (⟨"java/lang/String", "<init>", "([C)V"⟩ : MethodName)) rfl hown (mvT hZ (hw _ (List.mem_of_getElem? (i := 8) rfl))) (mvT hZ (hw _ (List.mem_of_getElem? (i := 9) rfl))) (mvT hZ (hw _ (List.mem_of_getElem? (i := 10) rfl))) (by decide) (StrChars.Road.backV (W := 1) hZ (own_wNew hw) (kI := 4) (hw _ (List.mem_of_getElem? (i := 6) rfl)) (cs := cs_7) (bs := (cs_7.map (fun c => c.toInt8.toInt32))) (n := cs_7.length) g_b12 (O.1 ▸ O.2.1) A12 F_value_b12 F_coder_b12 V_z_c7 (SC.ext O.2) hzc rfl rfl h9_b12.1 (Nat.le_trans h9_b12.2 (by decide)) hp_7 rfl (by decide) (by decide)) (g := (mkF m 72 (own_F5 i j k1 q (i &&& (7 : Int32)) z_7) [(.ref z_7), (.ref b12), (.ref b12)])) rfl (by rw [hml]; rfl) (Steps.refl _) (a := b12) (argsL := [(.ref z_7)]) (rest := [(.ref b12)]) (lenOf pd__40_91C_41V rfl) rfl (by show 2 * 0 + _ ≤ _; exact Nat.le_of_eq rfl) (hb hby at_72) (fun _ _ => ⟨rfl, e12, (by decide : 2 + 1 ≤ _), Nat.le_trans (Nat.add_le_add_left h9_b12.2 13) (by decide)⟩)
        dsimp only [Pt.U, Pt.locs, Pt.cells, Pt.slots] at X13 l13 y13 z13 st13 hQ13
        subst l13 y13 z13
        have X13 := X13.more (Nat.le_refl _) (Nat.add_le_add_left h9_b12.2 13)
        obtain ⟨rfl, N13q, K13, Ex13, Fc13, t13, kb13, gn13, gz13, nx13, Fv13, Av13⟩ := hQ13
        have N13 := Fr.app N7 N13q
        have ne_z_7_t13 : z_7 ≠ t13 := Nat.ne_of_lt (Nat.lt_of_lt_of_le V_z_c7.lt gz13)
        have ne_b12_t13 : b12 ≠ t13 := Nat.ne_of_lt (Nat.lt_of_lt_of_le A12.lt gz13)
        have R := CHr.keep K13 (allS sf_b12 all0) C.1
        have sf_b12 := R.safe A12.lt sf_b12
        have C := C.trans R
        have hk := Nat.le_trans hk K13.1
        have V_z_c7 := V_z_c7.keep K13 (ninS ne_z_7_b12 nin0)
        have A12 := A12.keep K13
        have g_t13 := gn13
        have O := O.keep K13 (allS g_b12 all0)
        have w14 : ∀ t, Steps p.tables e below (T13.setTop (mkF m 77 (own_F6 i j k1 q (i &&& (7 : Int32)) b12 z_7) [])) t → Steps p.tables e below (s₁.setTop (entryFrame m #[(.int i), (.int j), (.int k1), (.long q)] maxLocals)) t := fun t k => by
          refine w10 t ?_
          refine st12 _ ?_
          show Steps p.tables e below (T12.setTop (mkF m 69 (own_F5 i j k1 q (i &&& (7 : Int32)) z_7) [(.ref b12)])) _
          refine XS.dup X12.here hx rfl (hb hby at_69) rfl rfl ?_
          show Steps p.tables e below (T12.setTop (mkF m 70 (own_F5 i j k1 q (i &&& (7 : Int32)) z_7) [(.ref b12), (.ref b12)])) _
          refine XS.aload X12.here hx rfl (hb hby at_70) rfl rfl ?_
          show Steps p.tables e below (T12.setTop (mkF m 72 (own_F5 i j k1 q (i &&& (7 : Int32)) z_7) [(.ref z_7), (.ref b12), (.ref b12)])) _
          refine st13.trans ?_
          show Steps p.tables e below (T13.setTop (mkF m 75 (own_F5 i j k1 q (i &&& (7 : Int32)) z_7) [(.ref b12)])) _
          refine XS.astore X13.here hx rfl (hb hby at_75) rfl rfl (l' := (own_F6 i j k1 q (i &&& (7 : Int32)) b12 z_7)) rfl ?_
          show Steps p.tables e below (T13.setTop (mkF m 77 (own_F6 i j k1 q (i &&& (7 : Int32)) b12 z_7) [])) _
          exact k
        rcases own_4w cs_7 with hw0 | hw1 | hw2 | ⟨hw3, hw4, hw5⟩
        · have wz := w14
          obtain ⟨_, _, ⟨T15, L15, k15, n15⟩, -, X15, sn15, gr15, ⟨Lc15, hQ15, l15, y15, z15, R15⟩, st15⟩ := callSS X13 hx (y := (⟨"com/example/rolling_ledger/rollingledger/model/CaptureKindOfWarcTypePinLaw", "expect", "(Ljava/lang/String;)Lcom/example/rolling_ledger/rollingledger/model/CaptureKind;"⟩ : MethodName)) hown (mvT hZ (hw _ (List.mem_of_getElem? (i := 34) rfl))) (mvT hZ (hw _ (List.mem_of_getElem? (i := 35) rfl))) (mvT hZ (hw _ (List.mem_of_getElem? (i := 2) rfl))) (mvT hZ (hw _ (List.mem_of_getElem? (i := 36) rfl))) (by decide) (backOfSH (W := 0) (rm8_0 l Z a0 hw [] b12 t13 kb13 cs_7 zc s_RESPONSE T13.heap n0 O S_s_RESPONSE Ex13 Fv13 Fc13 Av13 hp_7 (Nat.le_trans h9_b12.2 (by decide)) hw0 SC hzc) hZ (hw _ (List.mem_of_getElem? (i := 36) rfl)) (hw _ (List.mem_of_getElem? (i := 2) rfl)) (by decide) (by decide) hEL C.1) (g := (mkF m 79 (own_F6 i j k1 q (i &&& (7 : Int32)) b12 z_7) [(.ref b12)])) rfl (by rw [hml]; rfl) (argsL := [(.ref b12)]) (rest := []) (lenOf pd__40Ljava_47lang_47String_59_41Lcom_47example_47rolling_ledger_47rollingledger_47model_47CaptureKind_59 rfl) rfl (by show 2 * 0 + _ ≤ _; exact Nat.le_of_eq rfl) (hb hby at_79) (fun _ _ => ⟨rfl, rfl, (by decide : 3 + 2 ≤ _), (by decide : 22 + 36 ≤ _)⟩)
          dsimp only [Pt.U, Pt.locs, Pt.cells, Pt.slots] at X15 l15 y15 z15 st15 hQ15 sn15 gr15 R15
          subst l15 y15 z15
          obtain ⟨X15, hS, hZ, hown⟩ := rebS hS (by exact hk) X15 sn15 gr15 hZ hown
          obtain ⟨rfl, N15q, K15⟩ := hQ15
          have N15 := Fr.app N13 N15q
          have R := R15
          have sf_b12 := R.safe Ex13.lt sf_b12
          have C := C.trans R
          have hk : T15.heap.size ≤ T15.heap.size := Nat.le_refl _
          have V_z_c7 := V_z_c7.keep K15 nin0
          have Ex13 := Ex13.keep K15
          have Fc13 := Fc13.keep K15 nin0
          have Fv13 := Fv13.keep K15 nin0
          have Av13 := Av13.keep K15 nin0
          have O := O.keep K15 all0
          obtain ⟨_, _, ⟨T16, L16, k16, n16⟩, -, X16, ⟨Lc16, hQ16, l16, y16, z16⟩, st16⟩ := Jvm.LawKit.callS X15 hx (y := (⟨"com/example/rolling_ledger/rollingledger/model/CaptureKind", "ofWarcType", "(Ljava/lang/String;)Ljava/util/Optional;"⟩ : MethodName)) hown (mvT hZ (hw _ (List.mem_of_getElem? (i := 53) rfl))) (mvT hZ (hw _ (List.mem_of_getElem? (i := 54) rfl))) (mvT hZ (hw _ (List.mem_of_getElem? (i := 51) rfl))) (mvT hZ (hw _ (List.mem_of_getElem? (i := 55) rfl))) (by decide) (backOf (W := 0) (rm11_0 l Z a0 hw [] b12 kv u0 b0 kb0 u1 b1 kb1 u2 b2 kb2 t13 kb13 cs_7 zc s_VALUES s_RESPONSE s_REVISIT s_RESOURCE s_EMPTY T15.heap n0 O S_s_VALUES S_s_RESPONSE S_s_REVISIT S_s_RESOURCE S_s_EMPTY Ex13 Fv13 Fc13 Av13 hp_7 (Nat.le_trans h9_b12.2 (by decide)) hw0 SC hzc (by assumption) (by assumption) (by assumption) (by assumption) (by assumption) (by assumption) (by assumption) (by assumption) (by assumption) (by assumption) (by assumption) (by assumption) (by assumption) (by assumption) (by assumption) (by assumption) (by assumption) (by assumption) (by assumption) (by assumption) (by assumption) (by assumption)) hZ (hw _ (List.mem_of_getElem? (i := 55) rfl)) (hw _ (List.mem_of_getElem? (i := 51) rfl)) (by decide) (by decide)) (g := (mkF m 86 (own_F6 i j k1 q (i &&& (7 : Int32)) b12 s_RESPONSE) [(.ref b12)])) rfl (by rw [hml]; rfl) (argsL := [(.ref b12)]) (rest := []) (lenOf pd__40Ljava_47lang_47String_59_41Ljava_47util_47Optional_59 rfl) rfl (by show 2 * 0 + _ ≤ _; exact Nat.le_of_eq rfl) (hb hby at_86) (fun _ _ => ⟨rfl, rfl, (by decide : 5 + 2 ≤ _), (by decide : 58 + 4 ≤ _)⟩)
          dsimp only [Pt.U, Pt.locs, Pt.cells, Pt.slots] at X16 l16 y16 z16 st16 hQ16
          subst l16 y16 z16
          obtain ⟨z_16, rfl, N16q, K16, E_z_c16, F_o_z_c16⟩ := hQ16
          have N16 := Fr.app N15 N16q
          have R := CHr.keep K16 all0 C.1
          have sf_b12 := R.safe Ex13.lt sf_b12
          have C := C.trans R
          have hk := Nat.le_trans hk K16.1
          have V_z_c7 := V_z_c7.keep K16 nin0
          have Ex13 := Ex13.keep K16
          have Fc13 := Fc13.keep K16 nin0
          have Fv13 := Fv13.keep K16 nin0
          have Av13 := Av13.keep K16 nin0
          have O := O.keep K16 all0
          obtain ⟨cq17, kq17, q17a, q17b, q17c⟩ := isOf hZ rfl E_z_c16
          obtain ⟨_, _, ⟨T17, L17, k17, n17⟩, -, X17, ⟨Lc17, hQ17, l17, y17, z17⟩, st17⟩ := X16.virtualBack hx (y := (⟨"java/util/Optional", "isPresent", "()Z"⟩ : MethodName)) (z := (⟨"java/util/Optional", "isPresent", "()Z"⟩ : MethodName)) hown (mvT hZ (hw _ (List.mem_of_getElem? (i := 93) rfl))) (mvT hZ (hw _ (List.mem_of_getElem? (i := 94) rfl))) (notFace_of_selects (args := #[]) (mvT hZ (hw _ (List.mem_of_getElem? (i := 96) rfl)))) (mvT hZ (hw _ (List.mem_of_getElem? (i := 96) rfl))) (mvT hZ (hw _ (List.mem_of_getElem? (i := 95) rfl))) (by decide) (backOf (W := 0) (rm16_y l Z a0 hw [] z_16 s_RESPONSE T16.heap n0 O F_o_z_c16) hZ (hw _ (List.mem_of_getElem? (i := 97) rfl)) (hw _ (List.mem_of_getElem? (i := 78) rfl)) (by decide) (by decide)) q17a q17c (g := (mkF m 119 (own_F7 i j k1 q (i &&& (7 : Int32)) b12 s_RESPONSE z_16) [(.ref z_16)])) rfl (by rw [hml]; rfl) (Steps.refl _) (argsL := []) (rest := []) (lenOf pd__40_41Z rfl) rfl (by show 2 * 0 + _ ≤ _; exact Nat.le_of_eq rfl) (hb hby at_119) (fun _ _ => ⟨rfl, rfl, (by decide : 7 + 0 ≤ _), (by decide : 62 + 0 ≤ _)⟩)
          dsimp only [Pt.U, Pt.locs, Pt.cells, Pt.slots] at X17 l17 y17 z17 st17 hQ17
          subst l17 y17 z17
          obtain ⟨rfl, N17q, eh17⟩ := hQ17
          have N17 := Fr.app N16 N17q
          obtain ⟨cq18, kq18, q18a, q18b, q18c⟩ := isOf hZ eh17 E_z_c16
          obtain ⟨_, _, ⟨T18, L18, k18, n18⟩, -, X18, ⟨Lc18, hQ18, l18, y18, z18⟩, st18⟩ := X17.virtualBack hx (y := (⟨"java/util/Optional", "get", "()Ljava/lang/Object;"⟩ : MethodName)) (z := (⟨"java/util/Optional", "get", "()Ljava/lang/Object;"⟩ : MethodName)) hown (mvT hZ (hw _ (List.mem_of_getElem? (i := 98) rfl))) (mvT hZ (hw _ (List.mem_of_getElem? (i := 99) rfl))) (notFace_of_selects (args := #[]) (mvT hZ (hw _ (List.mem_of_getElem? (i := 101) rfl)))) (mvT hZ (hw _ (List.mem_of_getElem? (i := 101) rfl))) (mvT hZ (hw _ (List.mem_of_getElem? (i := 100) rfl))) (by decide) (backOf (W := 0) (rm17 l Z a0 hw [] z_16 s_RESPONSE T16.heap n0 O F_o_z_c16) hZ (hw _ (List.mem_of_getElem? (i := 102) rfl)) (hw _ (List.mem_of_getElem? (i := 78) rfl)) (by decide) (by decide)) q18a q18c (g := (mkF m 127 (own_F7 i j k1 q (i &&& (7 : Int32)) b12 s_RESPONSE z_16) [(.ref z_16)])) rfl (by rw [hml]; rfl) (Steps.refl _) (argsL := []) (rest := []) (lenOf pd__40_41Ljava_47lang_47Object_59 rfl) rfl (by show 2 * 0 + _ ≤ _; exact Nat.le_of_eq rfl) (hb hby at_127) (fun _ _ => ⟨rfl, eh17, (by decide : 7 + 0 ≤ _), (by decide : 62 + 0 ≤ _)⟩)
          dsimp only [Pt.U, Pt.locs, Pt.cells, Pt.slots] at X18 l18 y18 z18 st18 hQ18
          subst l18 y18 z18
          obtain ⟨rfl, N18q, eh18⟩ := hQ18
          have N18 := Fr.app N17 N18q
          have w19 : ∀ t, Steps p.tables e below (T18.setTop (mkF m 140 (own_F7 i j k1 q (i &&& (7 : Int32)) b12 s_RESPONSE z_16) [(.int (1 : Int32))])) t → Steps p.tables e below (s₁.setTop (entryFrame m #[(.int i), (.int j), (.int k1), (.long q)] maxLocals)) t := fun t k => by
            refine w14 t ?_
            refine XS.aload X13.here hx rfl (hb hby at_77) rfl rfl ?_
            show Steps p.tables e below (T13.setTop (mkF m 79 (own_F6 i j k1 q (i &&& (7 : Int32)) b12 z_7) [(.ref b12)])) _
            refine st15.trans ?_
            show Steps p.tables e below (T15.setTop (mkF m 82 (own_F6 i j k1 q (i &&& (7 : Int32)) b12 z_7) [(.ref s_RESPONSE)])) _
            refine XS.astore X15.here hx rfl (hb hby at_82) rfl rfl (l' := (own_F6 i j k1 q (i &&& (7 : Int32)) b12 s_RESPONSE)) rfl ?_
            show Steps p.tables e below (T15.setTop (mkF m 84 (own_F6 i j k1 q (i &&& (7 : Int32)) b12 s_RESPONSE) [])) _
            refine XS.aload X15.here hx rfl (hb hby at_84) rfl rfl ?_
            show Steps p.tables e below (T15.setTop (mkF m 86 (own_F6 i j k1 q (i &&& (7 : Int32)) b12 s_RESPONSE) [(.ref b12)])) _
            refine st16 _ ?_
            show Steps p.tables e below (T16.setTop (mkF m 89 (own_F6 i j k1 q (i &&& (7 : Int32)) b12 s_RESPONSE) [(.ref z_16)])) _
            refine XS.astore X16.here hx rfl (hb hby at_89) rfl rfl (l' := (own_F7 i j k1 q (i &&& (7 : Int32)) b12 s_RESPONSE z_16)) rfl ?_
            show Steps p.tables e below (T16.setTop (mkF m 91 (own_F7 i j k1 q (i &&& (7 : Int32)) b12 s_RESPONSE z_16) [])) _
            refine XS.aload X16.here hx rfl (hb hby at_91) rfl rfl ?_
            show Steps p.tables e below (T16.setTop (mkF m 93 (own_F7 i j k1 q (i &&& (7 : Int32)) b12 s_RESPONSE z_16) [(.ref z_16)])) _
            refine XS.ifnonnullYes X16.here hx rfl (pc0 := 93) (pc' := 98) rfl (hb hby at_93) rfl (by decide) (by decide) ?_
            show Steps p.tables e below (T16.setTop (mkF m 98 (own_F7 i j k1 q (i &&& (7 : Int32)) b12 s_RESPONSE z_16) [])) _
            refine XS.aload X16.here hx rfl (hb hby at_98) rfl rfl ?_
            show Steps p.tables e below (T16.setTop (mkF m 100 (own_F7 i j k1 q (i &&& (7 : Int32)) b12 s_RESPONSE z_16) [(.ref s_RESPONSE)])) _
            refine XS.ifnonnullYes X16.here hx rfl (pc0 := 100) (pc' := 117) rfl (hb hby at_100) rfl (by decide) (by decide) ?_
            show Steps p.tables e below (T16.setTop (mkF m 117 (own_F7 i j k1 q (i &&& (7 : Int32)) b12 s_RESPONSE z_16) [])) _
            refine XS.aload X16.here hx rfl (hb hby at_117) rfl rfl ?_
            show Steps p.tables e below (T16.setTop (mkF m 119 (own_F7 i j k1 q (i &&& (7 : Int32)) b12 s_RESPONSE z_16) [(.ref z_16)])) _
            refine st17.trans ?_
            show Steps p.tables e below (T17.setTop (mkF m 122 (own_F7 i j k1 q (i &&& (7 : Int32)) b12 s_RESPONSE z_16) [(.int (1 : Int32))])) _
            refine XS.ifNo X17.here hx rfl (hb hby at_122) rfl ((if0 _ _).trans (feq ((by decide) : ¬ ((1 : Int32) = (0 : Int32)))).1) ?_
            show Steps p.tables e below (T17.setTop (mkF m 125 (own_F7 i j k1 q (i &&& (7 : Int32)) b12 s_RESPONSE z_16) [])) _
            refine XS.aload X17.here hx rfl (hb hby at_125) rfl rfl ?_
            show Steps p.tables e below (T17.setTop (mkF m 127 (own_F7 i j k1 q (i &&& (7 : Int32)) b12 s_RESPONSE z_16) [(.ref z_16)])) _
            refine st18.trans ?_
            show Steps p.tables e below (T18.setTop (mkF m 130 (own_F7 i j k1 q (i &&& (7 : Int32)) b12 s_RESPONSE z_16) [(.ref s_RESPONSE)])) _
            refine XS.aload X18.here hx rfl (hb hby at_130) rfl rfl ?_
            show Steps p.tables e below (T18.setTop (mkF m 132 (own_F7 i j k1 q (i &&& (7 : Int32)) b12 s_RESPONSE z_16) [(.ref s_RESPONSE), (.ref s_RESPONSE)])) _
            refine Jvm.RoadKit.acmp (g := (mkF m 132 (own_F7 i j k1 q (i &&& (7 : Int32)) b12 s_RESPONSE z_16) [(.ref s_RESPONSE), (.ref s_RESPONSE)])) X18 hx rfl rfl rfl (pc0 := 132) (pc' := 135) (same := true) rfl (hb hby at_132) rfl (decide_eq_true rfl) (by decide) (by decide) ?_
            show Steps p.tables e below (T18.setTop (mkF m 135 (own_F7 i j k1 q (i &&& (7 : Int32)) b12 s_RESPONSE z_16) [])) _
            refine XS.iconst X18.here hx rfl (hb hby at_135) ?_
            show Steps p.tables e below (T18.setTop (mkF m 136 (own_F7 i j k1 q (i &&& (7 : Int32)) b12 s_RESPONSE z_16) [(.int (1 : Int32))])) _
            refine XS.goto X18.here hx rfl (pc0 := 136) (pc' := 140) rfl (hb hby at_136) (by decide) (by decide) ?_
            show Steps p.tables e below (T18.setTop (mkF m 140 (own_F7 i j k1 q (i &&& (7 : Int32)) b12 s_RESPONSE z_16) [(.int (1 : Int32))])) _
            exact k
          obtain ⟨fs, hr, hrun, hended, hE⟩ := Stand.leaveW (s := s) (vm₁ := T15.vm) X18 hS (by rw [eh18]; exact hk) (v := some (.int (1 : Int32))) (fun h => by rw [Bd.returns] at h; cases h)
          refine ⟨_, _, w19 _ ?_, hrun, hended, _, _, rfl, ?_, ?_, own_mono hE (by decide) (by decide)⟩
          · exact retN X18 hx (t := .boolean) Bd.returns (by simp) (hb hby at_140) hr
          · show Q0 Z i j k1 q kv u0 b0 kb0 u1 b1 kb1 u2 b2 kb2 zc s_VALUES s_RESPONSE s_REVISIT s_RESOURCE s_EMPTY h0 n0 _ T18.heap _
            rw [eh18]
            exact ⟨rfl, N18⟩
          · rw [hh]; show CHr Z consts_1 s.vm h0 T18.vm T18.heap; rw [eh18]; exact C.trans (CHv.at X18 hZ hEL C.1)
        · have wz := w14
          obtain ⟨_, _, ⟨T20, L20, k20, n20⟩, -, X20, sn20, gr20, ⟨Lc20, hQ20, l20, y20, z20, R20⟩, st20⟩ := callSS X13 hx (y := (⟨"com/example/rolling_ledger/rollingledger/model/CaptureKindOfWarcTypePinLaw", "expect", "(Ljava/lang/String;)Lcom/example/rolling_ledger/rollingledger/model/CaptureKind;"⟩ : MethodName)) hown (mvT hZ (hw _ (List.mem_of_getElem? (i := 34) rfl))) (mvT hZ (hw _ (List.mem_of_getElem? (i := 35) rfl))) (mvT hZ (hw _ (List.mem_of_getElem? (i := 2) rfl))) (mvT hZ (hw _ (List.mem_of_getElem? (i := 36) rfl))) (by decide) (backOfSH (W := 0) (rm8_1 l Z a0 hw [] b12 t13 kb13 cs_7 zc s_REVISIT T13.heap n0 O S_s_REVISIT Ex13 Fv13 Fc13 Av13 hp_7 (Nat.le_trans h9_b12.2 (by decide)) hw1 SC hzc) hZ (hw _ (List.mem_of_getElem? (i := 36) rfl)) (hw _ (List.mem_of_getElem? (i := 2) rfl)) (by decide) (by decide) hEL C.1) (g := (mkF m 79 (own_F6 i j k1 q (i &&& (7 : Int32)) b12 z_7) [(.ref b12)])) rfl (by rw [hml]; rfl) (argsL := [(.ref b12)]) (rest := []) (lenOf pd__40Ljava_47lang_47String_59_41Lcom_47example_47rolling_ledger_47rollingledger_47model_47CaptureKind_59 rfl) rfl (by show 2 * 0 + _ ≤ _; exact Nat.le_of_eq rfl) (hb hby at_79) (fun _ _ => ⟨rfl, rfl, (by decide : 3 + 4 ≤ _), (by decide : 22 + 68 ≤ _)⟩)
          dsimp only [Pt.U, Pt.locs, Pt.cells, Pt.slots] at X20 l20 y20 z20 st20 hQ20 sn20 gr20 R20
          subst l20 y20 z20
          obtain ⟨X20, hS, hZ, hown⟩ := rebS hS (by exact hk) X20 sn20 gr20 hZ hown
          obtain ⟨rfl, N20q, K20⟩ := hQ20
          have N20 := Fr.app N13 N20q
          have R := R20
          have sf_b12 := R.safe Ex13.lt sf_b12
          have C := C.trans R
          have hk : T20.heap.size ≤ T20.heap.size := Nat.le_refl _
          have V_z_c7 := V_z_c7.keep K20 nin0
          have Ex13 := Ex13.keep K20
          have Fc13 := Fc13.keep K20 nin0
          have Fv13 := Fv13.keep K20 nin0
          have Av13 := Av13.keep K20 nin0
          have O := O.keep K20 all0
          obtain ⟨_, _, ⟨T21, L21, k21, n21⟩, -, X21, ⟨Lc21, hQ21, l21, y21, z21⟩, st21⟩ := Jvm.LawKit.callS X20 hx (y := (⟨"com/example/rolling_ledger/rollingledger/model/CaptureKind", "ofWarcType", "(Ljava/lang/String;)Ljava/util/Optional;"⟩ : MethodName)) hown (mvT hZ (hw _ (List.mem_of_getElem? (i := 53) rfl))) (mvT hZ (hw _ (List.mem_of_getElem? (i := 54) rfl))) (mvT hZ (hw _ (List.mem_of_getElem? (i := 51) rfl))) (mvT hZ (hw _ (List.mem_of_getElem? (i := 55) rfl))) (by decide) (backOf (W := 0) (rm11_1 l Z a0 hw [] b12 kv u0 b0 kb0 u1 b1 kb1 u2 b2 kb2 t13 kb13 cs_7 zc s_VALUES s_RESPONSE s_REVISIT s_RESOURCE s_EMPTY T20.heap n0 O S_s_VALUES S_s_RESPONSE S_s_REVISIT S_s_RESOURCE S_s_EMPTY Ex13 Fv13 Fc13 Av13 hp_7 (Nat.le_trans h9_b12.2 (by decide)) hw1 SC hzc (by assumption) (by assumption) (by assumption) (by assumption) (by assumption) (by assumption) (by assumption) (by assumption) (by assumption) (by assumption) (by assumption) (by assumption) (by assumption) (by assumption) (by assumption) (by assumption) (by assumption) (by assumption) (by assumption) (by assumption) (by assumption) (by assumption)) hZ (hw _ (List.mem_of_getElem? (i := 55) rfl)) (hw _ (List.mem_of_getElem? (i := 51) rfl)) (by decide) (by decide)) (g := (mkF m 86 (own_F6 i j k1 q (i &&& (7 : Int32)) b12 s_REVISIT) [(.ref b12)])) rfl (by rw [hml]; rfl) (argsL := [(.ref b12)]) (rest := []) (lenOf pd__40Ljava_47lang_47String_59_41Ljava_47util_47Optional_59 rfl) rfl (by show 2 * 0 + _ ≤ _; exact Nat.le_of_eq rfl) (hb hby at_86) (fun _ _ => ⟨rfl, rfl, (by decide : 7 + 2 ≤ _), (by decide : 90 + 4 ≤ _)⟩)
          dsimp only [Pt.U, Pt.locs, Pt.cells, Pt.slots] at X21 l21 y21 z21 st21 hQ21
          subst l21 y21 z21
          obtain ⟨z_21, rfl, N21q, K21, E_z_c21, F_o_z_c21⟩ := hQ21
          have N21 := Fr.app N20 N21q
          have R := CHr.keep K21 all0 C.1
          have sf_b12 := R.safe Ex13.lt sf_b12
          have C := C.trans R
          have hk := Nat.le_trans hk K21.1
          have V_z_c7 := V_z_c7.keep K21 nin0
          have Ex13 := Ex13.keep K21
          have Fc13 := Fc13.keep K21 nin0
          have Fv13 := Fv13.keep K21 nin0
          have Av13 := Av13.keep K21 nin0
          have O := O.keep K21 all0
          obtain ⟨cq22, kq22, q22a, q22b, q22c⟩ := isOf hZ rfl E_z_c21
          obtain ⟨_, _, ⟨T22, L22, k22, n22⟩, -, X22, ⟨Lc22, hQ22, l22, y22, z22⟩, st22⟩ := X21.virtualBack hx (y := (⟨"java/util/Optional", "isPresent", "()Z"⟩ : MethodName)) (z := (⟨"java/util/Optional", "isPresent", "()Z"⟩ : MethodName)) hown (mvT hZ (hw _ (List.mem_of_getElem? (i := 93) rfl))) (mvT hZ (hw _ (List.mem_of_getElem? (i := 94) rfl))) (notFace_of_selects (args := #[]) (mvT hZ (hw _ (List.mem_of_getElem? (i := 96) rfl)))) (mvT hZ (hw _ (List.mem_of_getElem? (i := 96) rfl))) (mvT hZ (hw _ (List.mem_of_getElem? (i := 95) rfl))) (by decide) (backOf (W := 0) (rm16_y l Z a0 hw [] z_21 s_REVISIT T21.heap n0 O F_o_z_c21) hZ (hw _ (List.mem_of_getElem? (i := 97) rfl)) (hw _ (List.mem_of_getElem? (i := 78) rfl)) (by decide) (by decide)) q22a q22c (g := (mkF m 119 (own_F7 i j k1 q (i &&& (7 : Int32)) b12 s_REVISIT z_21) [(.ref z_21)])) rfl (by rw [hml]; rfl) (Steps.refl _) (argsL := []) (rest := []) (lenOf pd__40_41Z rfl) rfl (by show 2 * 0 + _ ≤ _; exact Nat.le_of_eq rfl) (hb hby at_119) (fun _ _ => ⟨rfl, rfl, (by decide : 9 + 0 ≤ _), (by decide : 94 + 0 ≤ _)⟩)
          dsimp only [Pt.U, Pt.locs, Pt.cells, Pt.slots] at X22 l22 y22 z22 st22 hQ22
          subst l22 y22 z22
          obtain ⟨rfl, N22q, eh22⟩ := hQ22
          have N22 := Fr.app N21 N22q
          obtain ⟨cq23, kq23, q23a, q23b, q23c⟩ := isOf hZ eh22 E_z_c21
          obtain ⟨_, _, ⟨T23, L23, k23, n23⟩, -, X23, ⟨Lc23, hQ23, l23, y23, z23⟩, st23⟩ := X22.virtualBack hx (y := (⟨"java/util/Optional", "get", "()Ljava/lang/Object;"⟩ : MethodName)) (z := (⟨"java/util/Optional", "get", "()Ljava/lang/Object;"⟩ : MethodName)) hown (mvT hZ (hw _ (List.mem_of_getElem? (i := 98) rfl))) (mvT hZ (hw _ (List.mem_of_getElem? (i := 99) rfl))) (notFace_of_selects (args := #[]) (mvT hZ (hw _ (List.mem_of_getElem? (i := 101) rfl)))) (mvT hZ (hw _ (List.mem_of_getElem? (i := 101) rfl))) (mvT hZ (hw _ (List.mem_of_getElem? (i := 100) rfl))) (by decide) (backOf (W := 0) (rm17 l Z a0 hw [] z_21 s_REVISIT T21.heap n0 O F_o_z_c21) hZ (hw _ (List.mem_of_getElem? (i := 102) rfl)) (hw _ (List.mem_of_getElem? (i := 78) rfl)) (by decide) (by decide)) q23a q23c (g := (mkF m 127 (own_F7 i j k1 q (i &&& (7 : Int32)) b12 s_REVISIT z_21) [(.ref z_21)])) rfl (by rw [hml]; rfl) (Steps.refl _) (argsL := []) (rest := []) (lenOf pd__40_41Ljava_47lang_47Object_59 rfl) rfl (by show 2 * 0 + _ ≤ _; exact Nat.le_of_eq rfl) (hb hby at_127) (fun _ _ => ⟨rfl, eh22, (by decide : 9 + 0 ≤ _), (by decide : 94 + 0 ≤ _)⟩)
          dsimp only [Pt.U, Pt.locs, Pt.cells, Pt.slots] at X23 l23 y23 z23 st23 hQ23
          subst l23 y23 z23
          obtain ⟨rfl, N23q, eh23⟩ := hQ23
          have N23 := Fr.app N22 N23q
          have w24 : ∀ t, Steps p.tables e below (T23.setTop (mkF m 140 (own_F7 i j k1 q (i &&& (7 : Int32)) b12 s_REVISIT z_21) [(.int (1 : Int32))])) t → Steps p.tables e below (s₁.setTop (entryFrame m #[(.int i), (.int j), (.int k1), (.long q)] maxLocals)) t := fun t k => by
            refine w14 t ?_
            refine XS.aload X13.here hx rfl (hb hby at_77) rfl rfl ?_
            show Steps p.tables e below (T13.setTop (mkF m 79 (own_F6 i j k1 q (i &&& (7 : Int32)) b12 z_7) [(.ref b12)])) _
            refine st20.trans ?_
            show Steps p.tables e below (T20.setTop (mkF m 82 (own_F6 i j k1 q (i &&& (7 : Int32)) b12 z_7) [(.ref s_REVISIT)])) _
            refine XS.astore X20.here hx rfl (hb hby at_82) rfl rfl (l' := (own_F6 i j k1 q (i &&& (7 : Int32)) b12 s_REVISIT)) rfl ?_
            show Steps p.tables e below (T20.setTop (mkF m 84 (own_F6 i j k1 q (i &&& (7 : Int32)) b12 s_REVISIT) [])) _
            refine XS.aload X20.here hx rfl (hb hby at_84) rfl rfl ?_
            show Steps p.tables e below (T20.setTop (mkF m 86 (own_F6 i j k1 q (i &&& (7 : Int32)) b12 s_REVISIT) [(.ref b12)])) _
            refine st21 _ ?_
            show Steps p.tables e below (T21.setTop (mkF m 89 (own_F6 i j k1 q (i &&& (7 : Int32)) b12 s_REVISIT) [(.ref z_21)])) _
            refine XS.astore X21.here hx rfl (hb hby at_89) rfl rfl (l' := (own_F7 i j k1 q (i &&& (7 : Int32)) b12 s_REVISIT z_21)) rfl ?_
            show Steps p.tables e below (T21.setTop (mkF m 91 (own_F7 i j k1 q (i &&& (7 : Int32)) b12 s_REVISIT z_21) [])) _
            refine XS.aload X21.here hx rfl (hb hby at_91) rfl rfl ?_
            show Steps p.tables e below (T21.setTop (mkF m 93 (own_F7 i j k1 q (i &&& (7 : Int32)) b12 s_REVISIT z_21) [(.ref z_21)])) _
            refine XS.ifnonnullYes X21.here hx rfl (pc0 := 93) (pc' := 98) rfl (hb hby at_93) rfl (by decide) (by decide) ?_
            show Steps p.tables e below (T21.setTop (mkF m 98 (own_F7 i j k1 q (i &&& (7 : Int32)) b12 s_REVISIT z_21) [])) _
            refine XS.aload X21.here hx rfl (hb hby at_98) rfl rfl ?_
            show Steps p.tables e below (T21.setTop (mkF m 100 (own_F7 i j k1 q (i &&& (7 : Int32)) b12 s_REVISIT z_21) [(.ref s_REVISIT)])) _
            refine XS.ifnonnullYes X21.here hx rfl (pc0 := 100) (pc' := 117) rfl (hb hby at_100) rfl (by decide) (by decide) ?_
            show Steps p.tables e below (T21.setTop (mkF m 117 (own_F7 i j k1 q (i &&& (7 : Int32)) b12 s_REVISIT z_21) [])) _
            refine XS.aload X21.here hx rfl (hb hby at_117) rfl rfl ?_
            show Steps p.tables e below (T21.setTop (mkF m 119 (own_F7 i j k1 q (i &&& (7 : Int32)) b12 s_REVISIT z_21) [(.ref z_21)])) _
            refine st22.trans ?_
            show Steps p.tables e below (T22.setTop (mkF m 122 (own_F7 i j k1 q (i &&& (7 : Int32)) b12 s_REVISIT z_21) [(.int (1 : Int32))])) _
            refine XS.ifNo X22.here hx rfl (hb hby at_122) rfl ((if0 _ _).trans (feq ((by decide) : ¬ ((1 : Int32) = (0 : Int32)))).1) ?_
            show Steps p.tables e below (T22.setTop (mkF m 125 (own_F7 i j k1 q (i &&& (7 : Int32)) b12 s_REVISIT z_21) [])) _
            refine XS.aload X22.here hx rfl (hb hby at_125) rfl rfl ?_
            show Steps p.tables e below (T22.setTop (mkF m 127 (own_F7 i j k1 q (i &&& (7 : Int32)) b12 s_REVISIT z_21) [(.ref z_21)])) _
            refine st23.trans ?_
            show Steps p.tables e below (T23.setTop (mkF m 130 (own_F7 i j k1 q (i &&& (7 : Int32)) b12 s_REVISIT z_21) [(.ref s_REVISIT)])) _
            refine XS.aload X23.here hx rfl (hb hby at_130) rfl rfl ?_
            show Steps p.tables e below (T23.setTop (mkF m 132 (own_F7 i j k1 q (i &&& (7 : Int32)) b12 s_REVISIT z_21) [(.ref s_REVISIT), (.ref s_REVISIT)])) _
            refine Jvm.RoadKit.acmp (g := (mkF m 132 (own_F7 i j k1 q (i &&& (7 : Int32)) b12 s_REVISIT z_21) [(.ref s_REVISIT), (.ref s_REVISIT)])) X23 hx rfl rfl rfl (pc0 := 132) (pc' := 135) (same := true) rfl (hb hby at_132) rfl (decide_eq_true rfl) (by decide) (by decide) ?_
            show Steps p.tables e below (T23.setTop (mkF m 135 (own_F7 i j k1 q (i &&& (7 : Int32)) b12 s_REVISIT z_21) [])) _
            refine XS.iconst X23.here hx rfl (hb hby at_135) ?_
            show Steps p.tables e below (T23.setTop (mkF m 136 (own_F7 i j k1 q (i &&& (7 : Int32)) b12 s_REVISIT z_21) [(.int (1 : Int32))])) _
            refine XS.goto X23.here hx rfl (pc0 := 136) (pc' := 140) rfl (hb hby at_136) (by decide) (by decide) ?_
            show Steps p.tables e below (T23.setTop (mkF m 140 (own_F7 i j k1 q (i &&& (7 : Int32)) b12 s_REVISIT z_21) [(.int (1 : Int32))])) _
            exact k
          obtain ⟨fs, hr, hrun, hended, hE⟩ := Stand.leaveW (s := s) (vm₁ := T20.vm) X23 hS (by rw [eh23]; exact hk) (v := some (.int (1 : Int32))) (fun h => by rw [Bd.returns] at h; cases h)
          refine ⟨_, _, w24 _ ?_, hrun, hended, _, _, rfl, ?_, ?_, own_mono hE (by decide) (by decide)⟩
          · exact retN X23 hx (t := .boolean) Bd.returns (by simp) (hb hby at_140) hr
          · show Q0 Z i j k1 q kv u0 b0 kb0 u1 b1 kb1 u2 b2 kb2 zc s_VALUES s_RESPONSE s_REVISIT s_RESOURCE s_EMPTY h0 n0 _ T23.heap _
            rw [eh23]
            exact ⟨rfl, N23⟩
          · rw [hh]; show CHr Z consts_1 s.vm h0 T23.vm T23.heap; rw [eh23]; exact C.trans (CHv.at X23 hZ hEL C.1)
        · have wz := w14
          obtain ⟨_, _, ⟨T25, L25, k25, n25⟩, -, X25, sn25, gr25, ⟨Lc25, hQ25, l25, y25, z25, R25⟩, st25⟩ := callSS X13 hx (y := (⟨"com/example/rolling_ledger/rollingledger/model/CaptureKindOfWarcTypePinLaw", "expect", "(Ljava/lang/String;)Lcom/example/rolling_ledger/rollingledger/model/CaptureKind;"⟩ : MethodName)) hown (mvT hZ (hw _ (List.mem_of_getElem? (i := 34) rfl))) (mvT hZ (hw _ (List.mem_of_getElem? (i := 35) rfl))) (mvT hZ (hw _ (List.mem_of_getElem? (i := 2) rfl))) (mvT hZ (hw _ (List.mem_of_getElem? (i := 36) rfl))) (by decide) (backOfSH (W := 0) (rm8_2 l Z a0 hw [] b12 t13 kb13 cs_7 zc s_RESOURCE T13.heap n0 O S_s_RESOURCE Ex13 Fv13 Fc13 Av13 hp_7 (Nat.le_trans h9_b12.2 (by decide)) hw2 SC hzc) hZ (hw _ (List.mem_of_getElem? (i := 36) rfl)) (hw _ (List.mem_of_getElem? (i := 2) rfl)) (by decide) (by decide) hEL C.1) (g := (mkF m 79 (own_F6 i j k1 q (i &&& (7 : Int32)) b12 z_7) [(.ref b12)])) rfl (by rw [hml]; rfl) (argsL := [(.ref b12)]) (rest := []) (lenOf pd__40Ljava_47lang_47String_59_41Lcom_47example_47rolling_ledger_47rollingledger_47model_47CaptureKind_59 rfl) rfl (by show 2 * 0 + _ ≤ _; exact Nat.le_of_eq rfl) (hb hby at_79) (fun _ _ => ⟨rfl, rfl, (by decide : 3 + 6 ≤ _), (by decide : 22 + 104 ≤ _)⟩)
          dsimp only [Pt.U, Pt.locs, Pt.cells, Pt.slots] at X25 l25 y25 z25 st25 hQ25 sn25 gr25 R25
          subst l25 y25 z25
          obtain ⟨X25, hS, hZ, hown⟩ := rebS hS (by exact hk) X25 sn25 gr25 hZ hown
          obtain ⟨rfl, N25q, K25⟩ := hQ25
          have N25 := Fr.app N13 N25q
          have R := R25
          have sf_b12 := R.safe Ex13.lt sf_b12
          have C := C.trans R
          have hk : T25.heap.size ≤ T25.heap.size := Nat.le_refl _
          have V_z_c7 := V_z_c7.keep K25 nin0
          have Ex13 := Ex13.keep K25
          have Fc13 := Fc13.keep K25 nin0
          have Fv13 := Fv13.keep K25 nin0
          have Av13 := Av13.keep K25 nin0
          have O := O.keep K25 all0
          obtain ⟨_, _, ⟨T26, L26, k26, n26⟩, -, X26, ⟨Lc26, hQ26, l26, y26, z26⟩, st26⟩ := Jvm.LawKit.callS X25 hx (y := (⟨"com/example/rolling_ledger/rollingledger/model/CaptureKind", "ofWarcType", "(Ljava/lang/String;)Ljava/util/Optional;"⟩ : MethodName)) hown (mvT hZ (hw _ (List.mem_of_getElem? (i := 53) rfl))) (mvT hZ (hw _ (List.mem_of_getElem? (i := 54) rfl))) (mvT hZ (hw _ (List.mem_of_getElem? (i := 51) rfl))) (mvT hZ (hw _ (List.mem_of_getElem? (i := 55) rfl))) (by decide) (backOf (W := 0) (rm11_2 l Z a0 hw [] b12 kv u0 b0 kb0 u1 b1 kb1 u2 b2 kb2 t13 kb13 cs_7 zc s_VALUES s_RESPONSE s_REVISIT s_RESOURCE s_EMPTY T25.heap n0 O S_s_VALUES S_s_RESPONSE S_s_REVISIT S_s_RESOURCE S_s_EMPTY Ex13 Fv13 Fc13 Av13 hp_7 (Nat.le_trans h9_b12.2 (by decide)) hw2 SC hzc (by assumption) (by assumption) (by assumption) (by assumption) (by assumption) (by assumption) (by assumption) (by assumption) (by assumption) (by assumption) (by assumption) (by assumption) (by assumption) (by assumption) (by assumption) (by assumption) (by assumption) (by assumption) (by assumption) (by assumption) (by assumption) (by assumption)) hZ (hw _ (List.mem_of_getElem? (i := 55) rfl)) (hw _ (List.mem_of_getElem? (i := 51) rfl)) (by decide) (by decide)) (g := (mkF m 86 (own_F6 i j k1 q (i &&& (7 : Int32)) b12 s_RESOURCE) [(.ref b12)])) rfl (by rw [hml]; rfl) (argsL := [(.ref b12)]) (rest := []) (lenOf pd__40Ljava_47lang_47String_59_41Ljava_47util_47Optional_59 rfl) rfl (by show 2 * 0 + _ ≤ _; exact Nat.le_of_eq rfl) (hb hby at_86) (fun _ _ => ⟨rfl, rfl, (by decide : 9 + 2 ≤ _), (by decide : 126 + 4 ≤ _)⟩)
          dsimp only [Pt.U, Pt.locs, Pt.cells, Pt.slots] at X26 l26 y26 z26 st26 hQ26
          subst l26 y26 z26
          obtain ⟨z_26, rfl, N26q, K26, E_z_c26, F_o_z_c26⟩ := hQ26
          have N26 := Fr.app N25 N26q
          have R := CHr.keep K26 all0 C.1
          have sf_b12 := R.safe Ex13.lt sf_b12
          have C := C.trans R
          have hk := Nat.le_trans hk K26.1
          have V_z_c7 := V_z_c7.keep K26 nin0
          have Ex13 := Ex13.keep K26
          have Fc13 := Fc13.keep K26 nin0
          have Fv13 := Fv13.keep K26 nin0
          have Av13 := Av13.keep K26 nin0
          have O := O.keep K26 all0
          obtain ⟨cq27, kq27, q27a, q27b, q27c⟩ := isOf hZ rfl E_z_c26
          obtain ⟨_, _, ⟨T27, L27, k27, n27⟩, -, X27, ⟨Lc27, hQ27, l27, y27, z27⟩, st27⟩ := X26.virtualBack hx (y := (⟨"java/util/Optional", "isPresent", "()Z"⟩ : MethodName)) (z := (⟨"java/util/Optional", "isPresent", "()Z"⟩ : MethodName)) hown (mvT hZ (hw _ (List.mem_of_getElem? (i := 93) rfl))) (mvT hZ (hw _ (List.mem_of_getElem? (i := 94) rfl))) (notFace_of_selects (args := #[]) (mvT hZ (hw _ (List.mem_of_getElem? (i := 96) rfl)))) (mvT hZ (hw _ (List.mem_of_getElem? (i := 96) rfl))) (mvT hZ (hw _ (List.mem_of_getElem? (i := 95) rfl))) (by decide) (backOf (W := 0) (rm16_y l Z a0 hw [] z_26 s_RESOURCE T26.heap n0 O F_o_z_c26) hZ (hw _ (List.mem_of_getElem? (i := 97) rfl)) (hw _ (List.mem_of_getElem? (i := 78) rfl)) (by decide) (by decide)) q27a q27c (g := (mkF m 119 (own_F7 i j k1 q (i &&& (7 : Int32)) b12 s_RESOURCE z_26) [(.ref z_26)])) rfl (by rw [hml]; rfl) (Steps.refl _) (argsL := []) (rest := []) (lenOf pd__40_41Z rfl) rfl (by show 2 * 0 + _ ≤ _; exact Nat.le_of_eq rfl) (hb hby at_119) (fun _ _ => ⟨rfl, rfl, (by decide : 11 + 0 ≤ _), (by decide : 130 + 0 ≤ _)⟩)
          dsimp only [Pt.U, Pt.locs, Pt.cells, Pt.slots] at X27 l27 y27 z27 st27 hQ27
          subst l27 y27 z27
          obtain ⟨rfl, N27q, eh27⟩ := hQ27
          have N27 := Fr.app N26 N27q
          obtain ⟨cq28, kq28, q28a, q28b, q28c⟩ := isOf hZ eh27 E_z_c26
          obtain ⟨_, _, ⟨T28, L28, k28, n28⟩, -, X28, ⟨Lc28, hQ28, l28, y28, z28⟩, st28⟩ := X27.virtualBack hx (y := (⟨"java/util/Optional", "get", "()Ljava/lang/Object;"⟩ : MethodName)) (z := (⟨"java/util/Optional", "get", "()Ljava/lang/Object;"⟩ : MethodName)) hown (mvT hZ (hw _ (List.mem_of_getElem? (i := 98) rfl))) (mvT hZ (hw _ (List.mem_of_getElem? (i := 99) rfl))) (notFace_of_selects (args := #[]) (mvT hZ (hw _ (List.mem_of_getElem? (i := 101) rfl)))) (mvT hZ (hw _ (List.mem_of_getElem? (i := 101) rfl))) (mvT hZ (hw _ (List.mem_of_getElem? (i := 100) rfl))) (by decide) (backOf (W := 0) (rm17 l Z a0 hw [] z_26 s_RESOURCE T26.heap n0 O F_o_z_c26) hZ (hw _ (List.mem_of_getElem? (i := 102) rfl)) (hw _ (List.mem_of_getElem? (i := 78) rfl)) (by decide) (by decide)) q28a q28c (g := (mkF m 127 (own_F7 i j k1 q (i &&& (7 : Int32)) b12 s_RESOURCE z_26) [(.ref z_26)])) rfl (by rw [hml]; rfl) (Steps.refl _) (argsL := []) (rest := []) (lenOf pd__40_41Ljava_47lang_47Object_59 rfl) rfl (by show 2 * 0 + _ ≤ _; exact Nat.le_of_eq rfl) (hb hby at_127) (fun _ _ => ⟨rfl, eh27, (by decide : 11 + 0 ≤ _), (by decide : 130 + 0 ≤ _)⟩)
          dsimp only [Pt.U, Pt.locs, Pt.cells, Pt.slots] at X28 l28 y28 z28 st28 hQ28
          subst l28 y28 z28
          obtain ⟨rfl, N28q, eh28⟩ := hQ28
          have N28 := Fr.app N27 N28q
          have w29 : ∀ t, Steps p.tables e below (T28.setTop (mkF m 140 (own_F7 i j k1 q (i &&& (7 : Int32)) b12 s_RESOURCE z_26) [(.int (1 : Int32))])) t → Steps p.tables e below (s₁.setTop (entryFrame m #[(.int i), (.int j), (.int k1), (.long q)] maxLocals)) t := fun t k => by
            refine w14 t ?_
            refine XS.aload X13.here hx rfl (hb hby at_77) rfl rfl ?_
            show Steps p.tables e below (T13.setTop (mkF m 79 (own_F6 i j k1 q (i &&& (7 : Int32)) b12 z_7) [(.ref b12)])) _
            refine st25.trans ?_
            show Steps p.tables e below (T25.setTop (mkF m 82 (own_F6 i j k1 q (i &&& (7 : Int32)) b12 z_7) [(.ref s_RESOURCE)])) _
            refine XS.astore X25.here hx rfl (hb hby at_82) rfl rfl (l' := (own_F6 i j k1 q (i &&& (7 : Int32)) b12 s_RESOURCE)) rfl ?_
            show Steps p.tables e below (T25.setTop (mkF m 84 (own_F6 i j k1 q (i &&& (7 : Int32)) b12 s_RESOURCE) [])) _
            refine XS.aload X25.here hx rfl (hb hby at_84) rfl rfl ?_
            show Steps p.tables e below (T25.setTop (mkF m 86 (own_F6 i j k1 q (i &&& (7 : Int32)) b12 s_RESOURCE) [(.ref b12)])) _
            refine st26 _ ?_
            show Steps p.tables e below (T26.setTop (mkF m 89 (own_F6 i j k1 q (i &&& (7 : Int32)) b12 s_RESOURCE) [(.ref z_26)])) _
            refine XS.astore X26.here hx rfl (hb hby at_89) rfl rfl (l' := (own_F7 i j k1 q (i &&& (7 : Int32)) b12 s_RESOURCE z_26)) rfl ?_
            show Steps p.tables e below (T26.setTop (mkF m 91 (own_F7 i j k1 q (i &&& (7 : Int32)) b12 s_RESOURCE z_26) [])) _
            refine XS.aload X26.here hx rfl (hb hby at_91) rfl rfl ?_
            show Steps p.tables e below (T26.setTop (mkF m 93 (own_F7 i j k1 q (i &&& (7 : Int32)) b12 s_RESOURCE z_26) [(.ref z_26)])) _
            refine XS.ifnonnullYes X26.here hx rfl (pc0 := 93) (pc' := 98) rfl (hb hby at_93) rfl (by decide) (by decide) ?_
            show Steps p.tables e below (T26.setTop (mkF m 98 (own_F7 i j k1 q (i &&& (7 : Int32)) b12 s_RESOURCE z_26) [])) _
            refine XS.aload X26.here hx rfl (hb hby at_98) rfl rfl ?_
            show Steps p.tables e below (T26.setTop (mkF m 100 (own_F7 i j k1 q (i &&& (7 : Int32)) b12 s_RESOURCE z_26) [(.ref s_RESOURCE)])) _
            refine XS.ifnonnullYes X26.here hx rfl (pc0 := 100) (pc' := 117) rfl (hb hby at_100) rfl (by decide) (by decide) ?_
            show Steps p.tables e below (T26.setTop (mkF m 117 (own_F7 i j k1 q (i &&& (7 : Int32)) b12 s_RESOURCE z_26) [])) _
            refine XS.aload X26.here hx rfl (hb hby at_117) rfl rfl ?_
            show Steps p.tables e below (T26.setTop (mkF m 119 (own_F7 i j k1 q (i &&& (7 : Int32)) b12 s_RESOURCE z_26) [(.ref z_26)])) _
            refine st27.trans ?_
            show Steps p.tables e below (T27.setTop (mkF m 122 (own_F7 i j k1 q (i &&& (7 : Int32)) b12 s_RESOURCE z_26) [(.int (1 : Int32))])) _
            refine XS.ifNo X27.here hx rfl (hb hby at_122) rfl ((if0 _ _).trans (feq ((by decide) : ¬ ((1 : Int32) = (0 : Int32)))).1) ?_
            show Steps p.tables e below (T27.setTop (mkF m 125 (own_F7 i j k1 q (i &&& (7 : Int32)) b12 s_RESOURCE z_26) [])) _
            refine XS.aload X27.here hx rfl (hb hby at_125) rfl rfl ?_
            show Steps p.tables e below (T27.setTop (mkF m 127 (own_F7 i j k1 q (i &&& (7 : Int32)) b12 s_RESOURCE z_26) [(.ref z_26)])) _
            refine st28.trans ?_
            show Steps p.tables e below (T28.setTop (mkF m 130 (own_F7 i j k1 q (i &&& (7 : Int32)) b12 s_RESOURCE z_26) [(.ref s_RESOURCE)])) _
            refine XS.aload X28.here hx rfl (hb hby at_130) rfl rfl ?_
            show Steps p.tables e below (T28.setTop (mkF m 132 (own_F7 i j k1 q (i &&& (7 : Int32)) b12 s_RESOURCE z_26) [(.ref s_RESOURCE), (.ref s_RESOURCE)])) _
            refine Jvm.RoadKit.acmp (g := (mkF m 132 (own_F7 i j k1 q (i &&& (7 : Int32)) b12 s_RESOURCE z_26) [(.ref s_RESOURCE), (.ref s_RESOURCE)])) X28 hx rfl rfl rfl (pc0 := 132) (pc' := 135) (same := true) rfl (hb hby at_132) rfl (decide_eq_true rfl) (by decide) (by decide) ?_
            show Steps p.tables e below (T28.setTop (mkF m 135 (own_F7 i j k1 q (i &&& (7 : Int32)) b12 s_RESOURCE z_26) [])) _
            refine XS.iconst X28.here hx rfl (hb hby at_135) ?_
            show Steps p.tables e below (T28.setTop (mkF m 136 (own_F7 i j k1 q (i &&& (7 : Int32)) b12 s_RESOURCE z_26) [(.int (1 : Int32))])) _
            refine XS.goto X28.here hx rfl (pc0 := 136) (pc' := 140) rfl (hb hby at_136) (by decide) (by decide) ?_
            show Steps p.tables e below (T28.setTop (mkF m 140 (own_F7 i j k1 q (i &&& (7 : Int32)) b12 s_RESOURCE z_26) [(.int (1 : Int32))])) _
            exact k
          obtain ⟨fs, hr, hrun, hended, hE⟩ := Stand.leaveW (s := s) (vm₁ := T25.vm) X28 hS (by rw [eh28]; exact hk) (v := some (.int (1 : Int32))) (fun h => by rw [Bd.returns] at h; cases h)
          refine ⟨_, _, w29 _ ?_, hrun, hended, _, _, rfl, ?_, ?_, own_mono hE (by decide) (by decide)⟩
          · exact retN X28 hx (t := .boolean) Bd.returns (by simp) (hb hby at_140) hr
          · show Q0 Z i j k1 q kv u0 b0 kb0 u1 b1 kb1 u2 b2 kb2 zc s_VALUES s_RESPONSE s_REVISIT s_RESOURCE s_EMPTY h0 n0 _ T28.heap _
            rw [eh28]
            exact ⟨rfl, N28⟩
          · rw [hh]; show CHr Z consts_1 s.vm h0 T28.vm T28.heap; rw [eh28]; exact C.trans (CHv.at X28 hZ hEL C.1)
        · have wz := w14
          obtain ⟨_, _, ⟨T30, L30, k30, n30⟩, -, X30, sn30, gr30, ⟨Lc30, hQ30, l30, y30, z30, R30⟩, st30⟩ := callSS X13 hx (y := (⟨"com/example/rolling_ledger/rollingledger/model/CaptureKindOfWarcTypePinLaw", "expect", "(Ljava/lang/String;)Lcom/example/rolling_ledger/rollingledger/model/CaptureKind;"⟩ : MethodName)) hown (mvT hZ (hw _ (List.mem_of_getElem? (i := 34) rfl))) (mvT hZ (hw _ (List.mem_of_getElem? (i := 35) rfl))) (mvT hZ (hw _ (List.mem_of_getElem? (i := 2) rfl))) (mvT hZ (hw _ (List.mem_of_getElem? (i := 36) rfl))) (by decide) (backOfSH (W := 0) (rm8_3 l Z a0 hw [] b12 t13 kb13 cs_7 zc T13.heap n0 O Ex13 Fv13 Fc13 Av13 hp_7 (Nat.le_trans h9_b12.2 (by decide)) hw3 hw4 hw5 SC hzc) hZ (hw _ (List.mem_of_getElem? (i := 36) rfl)) (hw _ (List.mem_of_getElem? (i := 2) rfl)) (by decide) (by decide) hEL C.1) (g := (mkF m 79 (own_F6 i j k1 q (i &&& (7 : Int32)) b12 z_7) [(.ref b12)])) rfl (by rw [hml]; rfl) (argsL := [(.ref b12)]) (rest := []) (lenOf pd__40Ljava_47lang_47String_59_41Lcom_47example_47rolling_ledger_47rollingledger_47model_47CaptureKind_59 rfl) rfl (by show 2 * 0 + _ ≤ _; exact Nat.le_of_eq rfl) (hb hby at_79) (fun _ _ => ⟨rfl, rfl, (by decide : 3 + 6 ≤ _), (by decide : 22 + 104 ≤ _)⟩)
          dsimp only [Pt.U, Pt.locs, Pt.cells, Pt.slots] at X30 l30 y30 z30 st30 hQ30 sn30 gr30 R30
          subst l30 y30 z30
          obtain ⟨X30, hS, hZ, hown⟩ := rebS hS (by exact hk) X30 sn30 gr30 hZ hown
          obtain ⟨rfl, N30q, K30⟩ := hQ30
          have N30 := Fr.app N13 N30q
          have R := R30
          have sf_b12 := R.safe Ex13.lt sf_b12
          have C := C.trans R
          have hk : T30.heap.size ≤ T30.heap.size := Nat.le_refl _
          have V_z_c7 := V_z_c7.keep K30 nin0
          have Ex13 := Ex13.keep K30
          have Fc13 := Fc13.keep K30 nin0
          have Fv13 := Fv13.keep K30 nin0
          have Av13 := Av13.keep K30 nin0
          have O := O.keep K30 all0
          obtain ⟨_, _, ⟨T31, L31, k31, n31⟩, -, X31, ⟨Lc31, hQ31, l31, y31, z31⟩, st31⟩ := Jvm.LawKit.callS X30 hx (y := (⟨"com/example/rolling_ledger/rollingledger/model/CaptureKind", "ofWarcType", "(Ljava/lang/String;)Ljava/util/Optional;"⟩ : MethodName)) hown (mvT hZ (hw _ (List.mem_of_getElem? (i := 53) rfl))) (mvT hZ (hw _ (List.mem_of_getElem? (i := 54) rfl))) (mvT hZ (hw _ (List.mem_of_getElem? (i := 51) rfl))) (mvT hZ (hw _ (List.mem_of_getElem? (i := 55) rfl))) (by decide) (backOf (W := 0) (rm11_3 l Z a0 hw [] b12 kv u0 b0 kb0 u1 b1 kb1 u2 b2 kb2 t13 kb13 cs_7 zc s_VALUES s_RESPONSE s_REVISIT s_RESOURCE s_EMPTY T30.heap n0 O S_s_VALUES S_s_RESPONSE S_s_REVISIT S_s_RESOURCE S_s_EMPTY Ex13 Fv13 Fc13 Av13 hp_7 (Nat.le_trans h9_b12.2 (by decide)) hw3 hw4 hw5 SC hzc (by assumption) (by assumption) (by assumption) (by assumption) (by assumption) (by assumption) (by assumption) (by assumption) (by assumption) (by assumption) (by assumption) (by assumption) (by assumption) (by assumption) (by assumption) (by assumption) (by assumption) (by assumption) (by assumption) (by assumption) (by assumption) (by assumption)) hZ (hw _ (List.mem_of_getElem? (i := 55) rfl)) (hw _ (List.mem_of_getElem? (i := 51) rfl)) (by decide) (by decide)) (g := (mkF m 86 (own_F8 i j k1 q (i &&& (7 : Int32)) b12) [(.ref b12)])) rfl (by rw [hml]; rfl) (argsL := [(.ref b12)]) (rest := []) (lenOf pd__40Ljava_47lang_47String_59_41Ljava_47util_47Optional_59 rfl) rfl (by show 2 * 0 + _ ≤ _; exact Nat.le_of_eq rfl) (hb hby at_86) (fun _ _ => ⟨rfl, rfl, (by decide : 9 + 1 ≤ _), (by decide : 126 + 3 ≤ _)⟩)
          dsimp only [Pt.U, Pt.locs, Pt.cells, Pt.slots] at X31 l31 y31 z31 st31 hQ31
          subst l31 y31 z31
          obtain ⟨z_31, rfl, N31q, K31, E_z_c31, F_o_z_c31⟩ := hQ31
          have N31 := Fr.app N30 N31q
          have R := CHr.keep K31 all0 C.1
          have sf_b12 := R.safe Ex13.lt sf_b12
          have C := C.trans R
          have hk := Nat.le_trans hk K31.1
          have V_z_c7 := V_z_c7.keep K31 nin0
          have Ex13 := Ex13.keep K31
          have Fc13 := Fc13.keep K31 nin0
          have Fv13 := Fv13.keep K31 nin0
          have Av13 := Av13.keep K31 nin0
          have O := O.keep K31 all0
          obtain ⟨cq32, kq32, q32a, q32b, q32c⟩ := isOf hZ rfl E_z_c31
          obtain ⟨_, _, ⟨T32, L32, k32, n32⟩, -, X32, ⟨Lc32, hQ32, l32, y32, z32⟩, st32⟩ := X31.virtualBack hx (y := (⟨"java/util/Optional", "isPresent", "()Z"⟩ : MethodName)) (z := (⟨"java/util/Optional", "isPresent", "()Z"⟩ : MethodName)) hown (mvT hZ (hw _ (List.mem_of_getElem? (i := 93) rfl))) (mvT hZ (hw _ (List.mem_of_getElem? (i := 94) rfl))) (notFace_of_selects (args := #[]) (mvT hZ (hw _ (List.mem_of_getElem? (i := 96) rfl)))) (mvT hZ (hw _ (List.mem_of_getElem? (i := 96) rfl))) (mvT hZ (hw _ (List.mem_of_getElem? (i := 95) rfl))) (by decide) (backOf (W := 0) (rm16_n l Z a0 hw [] z_31 T31.heap n0 O F_o_z_c31) hZ (hw _ (List.mem_of_getElem? (i := 97) rfl)) (hw _ (List.mem_of_getElem? (i := 78) rfl)) (by decide) (by decide)) q32a q32c (g := (mkF m 105 (own_F9 i j k1 q (i &&& (7 : Int32)) b12 z_31) [(.ref z_31)])) rfl (by rw [hml]; rfl) (Steps.refl _) (argsL := []) (rest := []) (lenOf pd__40_41Z rfl) rfl (by show 2 * 0 + _ ≤ _; exact Nat.le_of_eq rfl) (hb hby at_105) (fun _ _ => ⟨rfl, rfl, (by decide : 10 + 0 ≤ _), (by decide : 129 + 0 ≤ _)⟩)
          dsimp only [Pt.U, Pt.locs, Pt.cells, Pt.slots] at X32 l32 y32 z32 st32 hQ32
          subst l32 y32 z32
          obtain ⟨rfl, N32q, eh32⟩ := hQ32
          have N32 := Fr.app N31 N32q
          have w33 : ∀ t, Steps p.tables e below (T32.setTop (mkF m 116 (own_F9 i j k1 q (i &&& (7 : Int32)) b12 z_31) [(.int (1 : Int32))])) t → Steps p.tables e below (s₁.setTop (entryFrame m #[(.int i), (.int j), (.int k1), (.long q)] maxLocals)) t := fun t k => by
            refine w14 t ?_
            refine XS.aload X13.here hx rfl (hb hby at_77) rfl rfl ?_
            show Steps p.tables e below (T13.setTop (mkF m 79 (own_F6 i j k1 q (i &&& (7 : Int32)) b12 z_7) [(.ref b12)])) _
            refine st30.trans ?_
            show Steps p.tables e below (T30.setTop (mkF m 82 (own_F6 i j k1 q (i &&& (7 : Int32)) b12 z_7) [.null])) _
            refine XS.astore X30.here hx rfl (hb hby at_82) rfl rfl (l' := (own_F8 i j k1 q (i &&& (7 : Int32)) b12)) rfl ?_
            show Steps p.tables e below (T30.setTop (mkF m 84 (own_F8 i j k1 q (i &&& (7 : Int32)) b12) [])) _
            refine XS.aload X30.here hx rfl (hb hby at_84) rfl rfl ?_
            show Steps p.tables e below (T30.setTop (mkF m 86 (own_F8 i j k1 q (i &&& (7 : Int32)) b12) [(.ref b12)])) _
            refine st31 _ ?_
            show Steps p.tables e below (T31.setTop (mkF m 89 (own_F8 i j k1 q (i &&& (7 : Int32)) b12) [(.ref z_31)])) _
            refine XS.astore X31.here hx rfl (hb hby at_89) rfl rfl (l' := (own_F9 i j k1 q (i &&& (7 : Int32)) b12 z_31)) rfl ?_
            show Steps p.tables e below (T31.setTop (mkF m 91 (own_F9 i j k1 q (i &&& (7 : Int32)) b12 z_31) [])) _
            refine XS.aload X31.here hx rfl (hb hby at_91) rfl rfl ?_
            show Steps p.tables e below (T31.setTop (mkF m 93 (own_F9 i j k1 q (i &&& (7 : Int32)) b12 z_31) [(.ref z_31)])) _
            refine XS.ifnonnullYes X31.here hx rfl (pc0 := 93) (pc' := 98) rfl (hb hby at_93) rfl (by decide) (by decide) ?_
            show Steps p.tables e below (T31.setTop (mkF m 98 (own_F9 i j k1 q (i &&& (7 : Int32)) b12 z_31) [])) _
            refine XS.aload X31.here hx rfl (hb hby at_98) rfl rfl ?_
            show Steps p.tables e below (T31.setTop (mkF m 100 (own_F9 i j k1 q (i &&& (7 : Int32)) b12 z_31) [.null])) _
            refine XS.ifnonnullNo X31.here hx rfl (hb hby at_100) rfl ?_
            show Steps p.tables e below (T31.setTop (mkF m 103 (own_F9 i j k1 q (i &&& (7 : Int32)) b12 z_31) [])) _
            refine XS.aload X31.here hx rfl (hb hby at_103) rfl rfl ?_
            show Steps p.tables e below (T31.setTop (mkF m 105 (own_F9 i j k1 q (i &&& (7 : Int32)) b12 z_31) [(.ref z_31)])) _
            refine st32.trans ?_
            show Steps p.tables e below (T32.setTop (mkF m 108 (own_F9 i j k1 q (i &&& (7 : Int32)) b12 z_31) [(.int (0 : Int32))])) _
            refine XS.ifNo X32.here hx rfl (hb hby at_108) rfl ((if0 _ _).trans (teq (rfl : (0 : Int32) = (0 : Int32))).2) ?_
            show Steps p.tables e below (T32.setTop (mkF m 111 (own_F9 i j k1 q (i &&& (7 : Int32)) b12 z_31) [])) _
            refine XS.iconst X32.here hx rfl (hb hby at_111) ?_
            show Steps p.tables e below (T32.setTop (mkF m 112 (own_F9 i j k1 q (i &&& (7 : Int32)) b12 z_31) [(.int (1 : Int32))])) _
            refine XS.goto X32.here hx rfl (pc0 := 112) (pc' := 116) rfl (hb hby at_112) (by decide) (by decide) ?_
            show Steps p.tables e below (T32.setTop (mkF m 116 (own_F9 i j k1 q (i &&& (7 : Int32)) b12 z_31) [(.int (1 : Int32))])) _
            exact k
          obtain ⟨fs, hr, hrun, hended, hE⟩ := Stand.leaveW (s := s) (vm₁ := T30.vm) X32 hS (by rw [eh32]; exact hk) (v := some (.int (1 : Int32))) (fun h => by rw [Bd.returns] at h; cases h)
          refine ⟨_, _, w33 _ ?_, hrun, hended, _, _, rfl, ?_, ?_, own_mono hE (by decide) (by decide)⟩
          · exact retN X32 hx (t := .boolean) Bd.returns (by simp) (hb hby at_116) hr
          · show Q0 Z i j k1 q kv u0 b0 kb0 u1 b1 kb1 u2 b2 kb2 zc s_VALUES s_RESPONSE s_REVISIT s_RESOURCE s_EMPTY h0 n0 _ T32.heap _
            rw [eh32]
            exact ⟨rfl, N32⟩
          · rw [hh]; show CHr Z consts_1 s.vm h0 T32.vm T32.heap; rw [eh32]; exact C.trans (CHv.at X32 hZ hEL C.1)
      · have hnil := own_nil hl_7 he11
        subst hnil
        obtain ⟨T34, h34, X34, e34, E34, A34, D34, -, st34⟩ := newO X7 hx hZ hown (hw _ (List.mem_of_getElem? (i := 5) rfl)) (hw _ (List.mem_of_getElem? (i := 6) rfl)) (hw _ (List.mem_of_getElem? (i := 7) rfl)) rfl (g := (mkF m 66 (own_F5 i j k1 q (i &&& (7 : Int32)) z_7) [])) rfl (hb hby at_66) (by decide) (by decide)
        obtain ⟨b34, gq34⟩ : ∃ z, z = Array.size T7.heap := ⟨_, rfl⟩
        rw [← gq34] at A34 D34 st34
        have ne_z_7_b34 : z_7 ≠ b34 := Nat.ne_of_lt (Nat.lt_of_lt_of_le V_z_c7.lt (Nat.le_of_eq gq34.symm))
        have g_b34 : n0 ≤ b34 := Nat.le_trans (O.1 ▸ O.2.1) (Nat.le_of_eq gq34.symm)
        have sf_b34 := own_safeN C.1 E34 (Nat.le_of_eq gq34.symm)
        have R := CHr.ext E34 C.1
        have C := C.trans R
        have hk := Nat.le_trans hk E34.1
        have V_z_c7 := V_z_c7.ext E34
        have O := O.ext E34
        have F_coder_b34 : Fld Z h34 b34 "java/lang/String" "coder" "B" (.int (0 : Int32)) := D34 (Or.inr (hw _ (List.mem_of_getElem? (i := 31) rfl))) (ty := .byte) (by decide)
        have F_value_b34 : Fld Z h34 b34 "java/lang/String" "value" "[B" .null := D34 (Or.inr (hw _ (List.mem_of_getElem? (i := 33) rfl))) (ty := (.array .byte)) (by decide)
        obtain ⟨_, _, ⟨T35, L35, k35, n35⟩, -, X35, sn35, gr35, ⟨Lc35, hQ35, l35, y35, z35, R35⟩, st35⟩ := X34.specialBackS hx (y := (⟨"java/lang/String", "<init>", "([C)V"⟩ : MethodName)) rfl hown (mvT hZ (hw _ (List.mem_of_getElem? (i := 8) rfl))) (mvT hZ (hw _ (List.mem_of_getElem? (i := 9) rfl))) (mvT hZ (hw _ (List.mem_of_getElem? (i := 10) rfl))) (by decide) (backOfSH (W := 1) (rm2_e l Z a0 hw [] b34 z_7 kz_7 h34 n0 O A34 F_value_b34 F_coder_b34 V_z_c7 g_b34) hZ (hw _ (List.mem_of_getElem? (i := 10) rfl)) (hw _ (List.mem_of_getElem? (i := 7) rfl)) (by decide) (by decide) hEL C.1) (g := (mkF m 72 (own_F5 i j k1 q (i &&& (7 : Int32)) z_7) [(.ref z_7), (.ref b34), (.ref b34)])) rfl (by rw [hml]; rfl) (Steps.refl _) (a := b34) (argsL := [(.ref z_7)]) (rest := [(.ref b34)]) (lenOf pd__40_91C_41V rfl) rfl (by show 2 * 0 + _ ≤ _; exact Nat.le_of_eq rfl) (hb hby at_72) (fun _ _ => ⟨rfl, e34, (by decide : 2 + 4 ≤ _), (by decide : 13 + 8 ≤ _)⟩)
        dsimp only [Pt.U, Pt.locs, Pt.cells, Pt.slots] at X35 l35 y35 z35 st35 hQ35 sn35 gr35 R35
        subst l35 y35 z35
        obtain ⟨X35, hS, hZ, hown⟩ := rebS hS (by rw [e34]; exact hk) X35 sn35 gr35 hZ hown
        obtain ⟨t1_35, kb_35, rfl, N35q, K35, F_v_a_c35, F_c_a_c35, V_t_c35⟩ := hQ35
        have N35 := Fr.app N7 N35q
        have R := R35
        have sf_b34 := R.safe A34.lt sf_b34
        have C := C.trans R
        have hk : T35.heap.size ≤ T35.heap.size := Nat.le_refl _
        have V_z_c7 := V_z_c7.keep K35 (ninS ne_z_7_b34 nin0)
        have A34 := A34.keep K35
        have O := O.keep K35 (allS g_b34 all0)
        obtain ⟨_, _, ⟨T36, L36, k36, n36⟩, -, X36, sn36, gr36, ⟨Lc36, hQ36, l36, y36, z36, R36⟩, st36⟩ := callSS X35 hx (y := (⟨"com/example/rolling_ledger/rollingledger/model/CaptureKindOfWarcTypePinLaw", "expect", "(Ljava/lang/String;)Lcom/example/rolling_ledger/rollingledger/model/CaptureKind;"⟩ : MethodName)) hown (mvT hZ (hw _ (List.mem_of_getElem? (i := 34) rfl))) (mvT hZ (hw _ (List.mem_of_getElem? (i := 35) rfl))) (mvT hZ (hw _ (List.mem_of_getElem? (i := 2) rfl))) (mvT hZ (hw _ (List.mem_of_getElem? (i := 36) rfl))) (by decide) (backOfSH (W := 0) (rm8_3 l Z a0 hw [] b34 t1_35 kb_35 ([] : List Int32) zc T35.heap n0 O A34 F_v_a_c35 F_c_a_c35 V_t_c35 own_hp0 (Nat.zero_le _) (by decide) (by decide) (by decide) SC hzc) hZ (hw _ (List.mem_of_getElem? (i := 36) rfl)) (hw _ (List.mem_of_getElem? (i := 2) rfl)) (by decide) (by decide) hEL C.1) (g := (mkF m 79 (own_F6 i j k1 q (i &&& (7 : Int32)) b34 z_7) [(.ref b34)])) rfl (by rw [hml]; rfl) (argsL := [(.ref b34)]) (rest := []) (lenOf pd__40Ljava_47lang_47String_59_41Lcom_47example_47rolling_ledger_47rollingledger_47model_47CaptureKind_59 rfl) rfl (by show 2 * 0 + _ ≤ _; exact Nat.le_of_eq rfl) (hb hby at_79) (fun _ _ => ⟨rfl, rfl, (by decide : 6 + 6 ≤ _), (by decide : 21 + 104 ≤ _)⟩)
        dsimp only [Pt.U, Pt.locs, Pt.cells, Pt.slots] at X36 l36 y36 z36 st36 hQ36 sn36 gr36 R36
        subst l36 y36 z36
        obtain ⟨X36, hS, hZ, hown⟩ := rebS hS (by exact hk) X36 sn36 gr36 hZ hown
        obtain ⟨rfl, N36q, K36⟩ := hQ36
        have N36 := Fr.app N35 N36q
        have R := R36
        have sf_b34 := R.safe A34.lt sf_b34
        have C := C.trans R
        have hk : T36.heap.size ≤ T36.heap.size := Nat.le_refl _
        have V_z_c7 := V_z_c7.keep K36 nin0
        have A34 := A34.keep K36
        have F_v_a_c35 := F_v_a_c35.keep K36 nin0
        have F_c_a_c35 := F_c_a_c35.keep K36 nin0
        have V_t_c35 := V_t_c35.keep K36 nin0
        have O := O.keep K36 all0
        obtain ⟨_, _, ⟨T37, L37, k37, n37⟩, -, X37, ⟨Lc37, hQ37, l37, y37, z37⟩, st37⟩ := Jvm.LawKit.callS X36 hx (y := (⟨"com/example/rolling_ledger/rollingledger/model/CaptureKind", "ofWarcType", "(Ljava/lang/String;)Ljava/util/Optional;"⟩ : MethodName)) hown (mvT hZ (hw _ (List.mem_of_getElem? (i := 53) rfl))) (mvT hZ (hw _ (List.mem_of_getElem? (i := 54) rfl))) (mvT hZ (hw _ (List.mem_of_getElem? (i := 51) rfl))) (mvT hZ (hw _ (List.mem_of_getElem? (i := 55) rfl))) (by decide) (backOf (W := 0) (rm11_3 l Z a0 hw [] b34 kv u0 b0 kb0 u1 b1 kb1 u2 b2 kb2 t1_35 kb_35 ([] : List Int32) zc s_VALUES s_RESPONSE s_REVISIT s_RESOURCE s_EMPTY T36.heap n0 O S_s_VALUES S_s_RESPONSE S_s_REVISIT S_s_RESOURCE S_s_EMPTY A34 F_v_a_c35 F_c_a_c35 V_t_c35 own_hp0 (Nat.zero_le _) (by decide) (by decide) (by decide) SC hzc (by assumption) (by assumption) (by assumption) (by assumption) (by assumption) (by assumption) (by assumption) (by assumption) (by assumption) (by assumption) (by assumption) (by assumption) (by assumption) (by assumption) (by assumption) (by assumption) (by assumption) (by assumption) (by assumption) (by assumption) (by assumption) (by assumption)) hZ (hw _ (List.mem_of_getElem? (i := 55) rfl)) (hw _ (List.mem_of_getElem? (i := 51) rfl)) (by decide) (by decide)) (g := (mkF m 86 (own_F8 i j k1 q (i &&& (7 : Int32)) b34) [(.ref b34)])) rfl (by rw [hml]; rfl) (argsL := [(.ref b34)]) (rest := []) (lenOf pd__40Ljava_47lang_47String_59_41Ljava_47util_47Optional_59 rfl) rfl (by show 2 * 0 + _ ≤ _; exact Nat.le_of_eq rfl) (hb hby at_86) (fun _ _ => ⟨rfl, rfl, (by decide : 12 + 1 ≤ _), (by decide : 125 + 3 ≤ _)⟩)
        dsimp only [Pt.U, Pt.locs, Pt.cells, Pt.slots] at X37 l37 y37 z37 st37 hQ37
        subst l37 y37 z37
        obtain ⟨z_37, rfl, N37q, K37, E_z_c37, F_o_z_c37⟩ := hQ37
        have N37 := Fr.app N36 N37q
        have R := CHr.keep K37 all0 C.1
        have sf_b34 := R.safe A34.lt sf_b34
        have C := C.trans R
        have hk := Nat.le_trans hk K37.1
        have V_z_c7 := V_z_c7.keep K37 nin0
        have A34 := A34.keep K37
        have F_v_a_c35 := F_v_a_c35.keep K37 nin0
        have F_c_a_c35 := F_c_a_c35.keep K37 nin0
        have V_t_c35 := V_t_c35.keep K37 nin0
        have O := O.keep K37 all0
        obtain ⟨cq38, kq38, q38a, q38b, q38c⟩ := isOf hZ rfl E_z_c37
        obtain ⟨_, _, ⟨T38, L38, k38, n38⟩, -, X38, ⟨Lc38, hQ38, l38, y38, z38⟩, st38⟩ := X37.virtualBack hx (y := (⟨"java/util/Optional", "isPresent", "()Z"⟩ : MethodName)) (z := (⟨"java/util/Optional", "isPresent", "()Z"⟩ : MethodName)) hown (mvT hZ (hw _ (List.mem_of_getElem? (i := 93) rfl))) (mvT hZ (hw _ (List.mem_of_getElem? (i := 94) rfl))) (notFace_of_selects (args := #[]) (mvT hZ (hw _ (List.mem_of_getElem? (i := 96) rfl)))) (mvT hZ (hw _ (List.mem_of_getElem? (i := 96) rfl))) (mvT hZ (hw _ (List.mem_of_getElem? (i := 95) rfl))) (by decide) (backOf (W := 0) (rm16_n l Z a0 hw [] z_37 T37.heap n0 O F_o_z_c37) hZ (hw _ (List.mem_of_getElem? (i := 97) rfl)) (hw _ (List.mem_of_getElem? (i := 78) rfl)) (by decide) (by decide)) q38a q38c (g := (mkF m 105 (own_F9 i j k1 q (i &&& (7 : Int32)) b34 z_37) [(.ref z_37)])) rfl (by rw [hml]; rfl) (Steps.refl _) (argsL := []) (rest := []) (lenOf pd__40_41Z rfl) rfl (by show 2 * 0 + _ ≤ _; exact Nat.le_of_eq rfl) (hb hby at_105) (fun _ _ => ⟨rfl, rfl, (by decide : 13 + 0 ≤ _), (by decide : 128 + 0 ≤ _)⟩)
        dsimp only [Pt.U, Pt.locs, Pt.cells, Pt.slots] at X38 l38 y38 z38 st38 hQ38
        subst l38 y38 z38
        obtain ⟨rfl, N38q, eh38⟩ := hQ38
        have N38 := Fr.app N37 N38q
        have w39 : ∀ t, Steps p.tables e below (T38.setTop (mkF m 116 (own_F9 i j k1 q (i &&& (7 : Int32)) b34 z_37) [(.int (1 : Int32))])) t → Steps p.tables e below (s₁.setTop (entryFrame m #[(.int i), (.int j), (.int k1), (.long q)] maxLocals)) t := fun t k => by
          refine w10 t ?_
          refine st34 _ ?_
          show Steps p.tables e below (T34.setTop (mkF m 69 (own_F5 i j k1 q (i &&& (7 : Int32)) z_7) [(.ref b34)])) _
          refine XS.dup X34.here hx rfl (hb hby at_69) rfl rfl ?_
          show Steps p.tables e below (T34.setTop (mkF m 70 (own_F5 i j k1 q (i &&& (7 : Int32)) z_7) [(.ref b34), (.ref b34)])) _
          refine XS.aload X34.here hx rfl (hb hby at_70) rfl rfl ?_
          show Steps p.tables e below (T34.setTop (mkF m 72 (own_F5 i j k1 q (i &&& (7 : Int32)) z_7) [(.ref z_7), (.ref b34), (.ref b34)])) _
          refine st35.trans ?_
          show Steps p.tables e below (T35.setTop (mkF m 75 (own_F5 i j k1 q (i &&& (7 : Int32)) z_7) [(.ref b34)])) _
          refine XS.astore X35.here hx rfl (hb hby at_75) rfl rfl (l' := (own_F6 i j k1 q (i &&& (7 : Int32)) b34 z_7)) rfl ?_
          show Steps p.tables e below (T35.setTop (mkF m 77 (own_F6 i j k1 q (i &&& (7 : Int32)) b34 z_7) [])) _
          refine XS.aload X35.here hx rfl (hb hby at_77) rfl rfl ?_
          show Steps p.tables e below (T35.setTop (mkF m 79 (own_F6 i j k1 q (i &&& (7 : Int32)) b34 z_7) [(.ref b34)])) _
          refine st36.trans ?_
          show Steps p.tables e below (T36.setTop (mkF m 82 (own_F6 i j k1 q (i &&& (7 : Int32)) b34 z_7) [.null])) _
          refine XS.astore X36.here hx rfl (hb hby at_82) rfl rfl (l' := (own_F8 i j k1 q (i &&& (7 : Int32)) b34)) rfl ?_
          show Steps p.tables e below (T36.setTop (mkF m 84 (own_F8 i j k1 q (i &&& (7 : Int32)) b34) [])) _
          refine XS.aload X36.here hx rfl (hb hby at_84) rfl rfl ?_
          show Steps p.tables e below (T36.setTop (mkF m 86 (own_F8 i j k1 q (i &&& (7 : Int32)) b34) [(.ref b34)])) _
          refine st37 _ ?_
          show Steps p.tables e below (T37.setTop (mkF m 89 (own_F8 i j k1 q (i &&& (7 : Int32)) b34) [(.ref z_37)])) _
          refine XS.astore X37.here hx rfl (hb hby at_89) rfl rfl (l' := (own_F9 i j k1 q (i &&& (7 : Int32)) b34 z_37)) rfl ?_
          show Steps p.tables e below (T37.setTop (mkF m 91 (own_F9 i j k1 q (i &&& (7 : Int32)) b34 z_37) [])) _
          refine XS.aload X37.here hx rfl (hb hby at_91) rfl rfl ?_
          show Steps p.tables e below (T37.setTop (mkF m 93 (own_F9 i j k1 q (i &&& (7 : Int32)) b34 z_37) [(.ref z_37)])) _
          refine XS.ifnonnullYes X37.here hx rfl (pc0 := 93) (pc' := 98) rfl (hb hby at_93) rfl (by decide) (by decide) ?_
          show Steps p.tables e below (T37.setTop (mkF m 98 (own_F9 i j k1 q (i &&& (7 : Int32)) b34 z_37) [])) _
          refine XS.aload X37.here hx rfl (hb hby at_98) rfl rfl ?_
          show Steps p.tables e below (T37.setTop (mkF m 100 (own_F9 i j k1 q (i &&& (7 : Int32)) b34 z_37) [.null])) _
          refine XS.ifnonnullNo X37.here hx rfl (hb hby at_100) rfl ?_
          show Steps p.tables e below (T37.setTop (mkF m 103 (own_F9 i j k1 q (i &&& (7 : Int32)) b34 z_37) [])) _
          refine XS.aload X37.here hx rfl (hb hby at_103) rfl rfl ?_
          show Steps p.tables e below (T37.setTop (mkF m 105 (own_F9 i j k1 q (i &&& (7 : Int32)) b34 z_37) [(.ref z_37)])) _
          refine st38.trans ?_
          show Steps p.tables e below (T38.setTop (mkF m 108 (own_F9 i j k1 q (i &&& (7 : Int32)) b34 z_37) [(.int (0 : Int32))])) _
          refine XS.ifNo X38.here hx rfl (hb hby at_108) rfl ((if0 _ _).trans (teq (rfl : (0 : Int32) = (0 : Int32))).2) ?_
          show Steps p.tables e below (T38.setTop (mkF m 111 (own_F9 i j k1 q (i &&& (7 : Int32)) b34 z_37) [])) _
          refine XS.iconst X38.here hx rfl (hb hby at_111) ?_
          show Steps p.tables e below (T38.setTop (mkF m 112 (own_F9 i j k1 q (i &&& (7 : Int32)) b34 z_37) [(.int (1 : Int32))])) _
          refine XS.goto X38.here hx rfl (pc0 := 112) (pc' := 116) rfl (hb hby at_112) (by decide) (by decide) ?_
          show Steps p.tables e below (T38.setTop (mkF m 116 (own_F9 i j k1 q (i &&& (7 : Int32)) b34 z_37) [(.int (1 : Int32))])) _
          exact k
        obtain ⟨fs, hr, hrun, hended, hE⟩ := Stand.leaveW (s := s) (vm₁ := T36.vm) X38 hS (by rw [eh38]; exact hk) (v := some (.int (1 : Int32))) (fun h => by rw [Bd.returns] at h; cases h)
        refine ⟨_, _, w39 _ ?_, hrun, hended, _, _, rfl, ?_, ?_, own_mono hE (by decide) (by decide)⟩
        · exact retN X38 hx (t := .boolean) Bd.returns (by simp) (hb hby at_116) hr
        · show Q0 Z i j k1 q kv u0 b0 kb0 u1 b1 kb1 u2 b2 kb2 zc s_VALUES s_RESPONSE s_REVISIT s_RESOURCE s_EMPTY h0 n0 _ T38.heap _
          rw [eh38]
          exact ⟨rfl, N38⟩
        · rw [hh]; show CHr Z consts_1 s.vm h0 T38.vm T38.heap; rw [eh38]; exact C.trans (CHv.at X38 hZ hEL C.1)
    · obtain ⟨cl40, Ar40, -, Z40, N40, -, -⟩ := id V_z_c7
      have w41 : ∀ t, Steps p.tables e below (T7.setTop (mkF m 39 (own_F5 i j k1 q (i &&& (7 : Int32)) z_7) [(.int (Int32.ofNat cs_7.length))])) t → Steps p.tables e below (s₁.setTop (entryFrame m #[(.int i), (.int j), (.int k1), (.long q)] maxLocals)) t := fun t k => by
        refine w8 t ?_
        refine XS.ifNo X7.here hx rfl (hb hby at_33) rfl ((if0 _ _).trans (feq hc33_9).1) ?_
        show Steps p.tables e below (T7.setTop (mkF m 36 (own_F5 i j k1 q (i &&& (7 : Int32)) z_7) [])) _
        refine XS.aload X7.here hx rfl (hb hby at_36) rfl rfl ?_
        show Steps p.tables e below (T7.setTop (mkF m 38 (own_F5 i j k1 q (i &&& (7 : Int32)) z_7) [(.ref z_7)])) _
        refine X7.arraylength hx (by exact Ar40.1) (State.isArrayOf_alike hZ.alike Ar40.2.1) (g := (mkF m 38 (own_F5 i j k1 q (i &&& (7 : Int32)) z_7) [(.ref z_7)])) rfl rfl (hb hby at_38) _ ?_
        rw [len_of Z40 N40]
        show Steps p.tables e below (T7.setTop (mkF m 39 (own_F5 i j k1 q (i &&& (7 : Int32)) z_7) [(.int (Int32.ofNat cs_7.length))])) _
        exact k
      by_cases hc39_42 : (0 : Int32) < (Int32.ofNat cs_7.length)
      · obtain ⟨cl43, Ar43, -, Z43, N43, -, -⟩ := id V_z_c7
        have ix44 := own_ix j hl_7 hc39_42
        obtain ⟨cl44, Ar44, q44, Z44, N44, H44, G44⟩ := id V_z_c7
        have hin44 : ¬ (((j &&& (2147483647 : Int32)) - (j &&& (2147483647 : Int32)) / (Int32.ofNat cs_7.length) * (Int32.ofNat cs_7.length)) < 0 ∨ cl44.slots.size ≤ (((j &&& (2147483647 : Int32)) - (j &&& (2147483647 : Int32)) / (Int32.ofNat cs_7.length) * (Int32.ofNat cs_7.length))).toNatClampNeg) := inb_of Z44 ⟨ix44.1, ix44.2.1⟩
        have sf_z_7 := Safe.arr (EL := consts_1) hZ.alike Ar44 (by decide)
        obtain ⟨T45, h45, X45, e45, W45, st45⟩ := stC X7 hx hZ rfl Ar44 (j := ((j &&& (2147483647 : Int32)) - (j &&& (2147483647 : Int32)) / (Int32.ofNat cs_7.length) * (Int32.ofNat cs_7.length))) hin44 (g := (mkF m 65 (own_F10 i j k1 q (i &&& (7 : Int32)) z_7 ((j &&& (2147483647 : Int32)) - (j &&& (2147483647 : Int32)) / (Int32.ofNat cs_7.length) * (Int32.ofNat cs_7.length))) [(.int ((((k1.toUInt32 >>> ((8 : Int32) &&& 31).toUInt32).toInt32) &&& (255 : Int32)).toUInt32.toUInt16.toUInt32.toInt32)), (.int ((j &&& (2147483647 : Int32)) - (j &&& (2147483647 : Int32)) / (Int32.ofNat cs_7.length) * (Int32.ofNat cs_7.length))), (.ref z_7)])) rfl rfl (hb hby at_65)
        have R := CHr.wr W45 sf_z_7 C.1
        have C := C.trans R
        obtain ⟨cs45, hcs45⟩ : ∃ l, l = cs_7.set (((j &&& (2147483647 : Int32)) - (j &&& (2147483647 : Int32)) / (Int32.ofNat cs_7.length) * (Int32.ofNat cs_7.length))).toNatClampNeg (((((k1.toUInt32 >>> ((8 : Int32) &&& 31).toUInt32).toInt32) &&& (255 : Int32)).toUInt32.toUInt16.toUInt32.toInt32).toUInt32.toUInt16.toUInt32.toInt32) := ⟨_, rfl⟩
        have ln45 : cs45.length = cs_7.length := by rw [hcs45]; exact List.length_set
        have V_z_c7 : Arv Z h45 z_7 kz_7 .char (Int32.ofNat cs45.length) (cs45.map Value.int) (.int (0 : Int32)) := by
          have q := Arv.set Ar44 q44 Z44 N44 H44 G44 (fits_nar_char _) W45 _ rfl (by rw [List.length_map]; exact ix44.2.2)
          rw [ln45, hcs45, List.map_set]; exact q
        have hk := (by rw [W45.size]; exact hk : _ ≤ Array.size h45)
        have O := O.wr W45 g_z_7
        have hp45 : ∀ c ∈ cs45, ¬ c < 0 ∧ ¬ (255 : Int32) < c := by rw [hcs45]; exact own_hps hp_7 (own_bI _) _
        have hl45 : cs45.length ≤ 9 := by rw [ln45]; exact hl_7
        have po45 : 0 < cs45.length := by rw [ln45]; exact own_pos hl_7 hc39_42
        have N45 := Fr.snoc X45 N7 g_z_7
        obtain ⟨T46, h46, X46, e46, E46, A46, D46, -, st46⟩ := newO X45 hx hZ hown (hw _ (List.mem_of_getElem? (i := 5) rfl)) (hw _ (List.mem_of_getElem? (i := 6) rfl)) (hw _ (List.mem_of_getElem? (i := 7) rfl)) e45 (g := (mkF m 66 (own_F10 i j k1 q (i &&& (7 : Int32)) z_7 ((j &&& (2147483647 : Int32)) - (j &&& (2147483647 : Int32)) / (Int32.ofNat cs_7.length) * (Int32.ofNat cs_7.length))) [])) rfl (hb hby at_66) (by decide) (by decide)
        obtain ⟨b46, gq46⟩ : ∃ z, z = Array.size h45 := ⟨_, rfl⟩
        rw [← gq46] at A46 D46 st46
        have ne_z_7_b46 : z_7 ≠ b46 := Nat.ne_of_lt (Nat.lt_of_lt_of_le V_z_c7.lt (Nat.le_of_eq gq46.symm))
        have g_b46 : n0 ≤ b46 := Nat.le_trans (O.1 ▸ O.2.1) (Nat.le_of_eq gq46.symm)
        have sf_b46 := own_safeN C.1 E46 (Nat.le_of_eq gq46.symm)
        have R := CHr.ext E46 C.1
        have C := C.trans R
        have hk := Nat.le_trans hk E46.1
        have V_z_c7 := V_z_c7.ext E46
        have O := O.ext E46
        have F_coder_b46 : Fld Z h46 b46 "java/lang/String" "coder" "B" (.int (0 : Int32)) := D46 (Or.inr (hw _ (List.mem_of_getElem? (i := 31) rfl))) (ty := .byte) (by decide)
        have F_value_b46 : Fld Z h46 b46 "java/lang/String" "value" "[B" .null := D46 (Or.inr (hw _ (List.mem_of_getElem? (i := 33) rfl))) (ty := (.array .byte)) (by decide)
        have w47 : ∀ t, Steps p.tables e below (T46.setTop (mkF m 72 (own_F10 i j k1 q (i &&& (7 : Int32)) z_7 ((j &&& (2147483647 : Int32)) - (j &&& (2147483647 : Int32)) / (Int32.ofNat cs_7.length) * (Int32.ofNat cs_7.length))) [(.ref z_7), (.ref b46), (.ref b46)])) t → Steps p.tables e below (s₁.setTop (entryFrame m #[(.int i), (.int j), (.int k1), (.long q)] maxLocals)) t := fun t k => by
          refine w41 t ?_
          refine XS.ifNo X7.here hx rfl (hb hby at_39) rfl ((if0 _ _).trans (tlt hc39_42).2.2.2) ?_
          show Steps p.tables e below (T7.setTop (mkF m 42 (own_F5 i j k1 q (i &&& (7 : Int32)) z_7) [])) _
          refine XS.iloadN X7.here hx rfl (hb hby at_42) rfl ?_
          show Steps p.tables e below (T7.setTop (mkF m 43 (own_F5 i j k1 q (i &&& (7 : Int32)) z_7) [(.int j)])) _
          refine X7.ldcInt hx hown (mvT hZ (hw _ (List.mem_of_getElem? (i := 110) rfl))) (g := (mkF m 43 (own_F5 i j k1 q (i &&& (7 : Int32)) z_7) [(.int j)])) rfl (hb hby at_43) _ ?_
          show Steps p.tables e below (T7.setTop (mkF m 45 (own_F5 i j k1 q (i &&& (7 : Int32)) z_7) [(.int (2147483647 : Int32)), (.int j)])) _
          refine XS.iand X7.here hx rfl (hb hby at_45) rfl ?_
          show Steps p.tables e below (T7.setTop (mkF m 46 (own_F5 i j k1 q (i &&& (7 : Int32)) z_7) [(.int (j &&& (2147483647 : Int32)))])) _
          refine XS.aload X7.here hx rfl (hb hby at_46) rfl rfl ?_
          show Steps p.tables e below (T7.setTop (mkF m 48 (own_F5 i j k1 q (i &&& (7 : Int32)) z_7) [(.ref z_7), (.int (j &&& (2147483647 : Int32)))])) _
          refine X7.arraylength hx (by exact Ar43.1) (State.isArrayOf_alike hZ.alike Ar43.2.1) (g := (mkF m 48 (own_F5 i j k1 q (i &&& (7 : Int32)) z_7) [(.ref z_7), (.int (j &&& (2147483647 : Int32)))])) rfl rfl (hb hby at_48) _ ?_
          rw [len_of Z43 N43]
          show Steps p.tables e below (T7.setTop (mkF m 49 (own_F5 i j k1 q (i &&& (7 : Int32)) z_7) [(.int (Int32.ofNat cs_7.length)), (.int (j &&& (2147483647 : Int32)))])) _
          refine XS.irem X7.here hx rfl (hb hby at_49) rfl (own_nz hl_7 hc39_42) ?_
          show Steps p.tables e below (T7.setTop (mkF m 50 (own_F5 i j k1 q (i &&& (7 : Int32)) z_7) [(.int ((j &&& (2147483647 : Int32)) - (j &&& (2147483647 : Int32)) / (Int32.ofNat cs_7.length) * (Int32.ofNat cs_7.length)))])) _
          refine XS.istore X7.here hx rfl (hb hby at_50) rfl (l' := (own_F10 i j k1 q (i &&& (7 : Int32)) z_7 ((j &&& (2147483647 : Int32)) - (j &&& (2147483647 : Int32)) / (Int32.ofNat cs_7.length) * (Int32.ofNat cs_7.length)))) rfl ?_
          show Steps p.tables e below (T7.setTop (mkF m 52 (own_F10 i j k1 q (i &&& (7 : Int32)) z_7 ((j &&& (2147483647 : Int32)) - (j &&& (2147483647 : Int32)) / (Int32.ofNat cs_7.length) * (Int32.ofNat cs_7.length))) [])) _
          refine XS.aload X7.here hx rfl (hb hby at_52) rfl rfl ?_
          show Steps p.tables e below (T7.setTop (mkF m 54 (own_F10 i j k1 q (i &&& (7 : Int32)) z_7 ((j &&& (2147483647 : Int32)) - (j &&& (2147483647 : Int32)) / (Int32.ofNat cs_7.length) * (Int32.ofNat cs_7.length))) [(.ref z_7)])) _
          refine XS.iload X7.here hx rfl (hb hby at_54) rfl ?_
          show Steps p.tables e below (T7.setTop (mkF m 56 (own_F10 i j k1 q (i &&& (7 : Int32)) z_7 ((j &&& (2147483647 : Int32)) - (j &&& (2147483647 : Int32)) / (Int32.ofNat cs_7.length) * (Int32.ofNat cs_7.length))) [(.int ((j &&& (2147483647 : Int32)) - (j &&& (2147483647 : Int32)) / (Int32.ofNat cs_7.length) * (Int32.ofNat cs_7.length))), (.ref z_7)])) _
          refine XS.iloadN X7.here hx rfl (hb hby at_56) rfl ?_
          show Steps p.tables e below (T7.setTop (mkF m 57 (own_F10 i j k1 q (i &&& (7 : Int32)) z_7 ((j &&& (2147483647 : Int32)) - (j &&& (2147483647 : Int32)) / (Int32.ofNat cs_7.length) * (Int32.ofNat cs_7.length))) [(.int k1), (.int ((j &&& (2147483647 : Int32)) - (j &&& (2147483647 : Int32)) / (Int32.ofNat cs_7.length) * (Int32.ofNat cs_7.length))), (.ref z_7)])) _
          refine XS.bipush X7.here hx rfl (hb hby at_57) ?_
          show Steps p.tables e below (T7.setTop (mkF m 59 (own_F10 i j k1 q (i &&& (7 : Int32)) z_7 ((j &&& (2147483647 : Int32)) - (j &&& (2147483647 : Int32)) / (Int32.ofNat cs_7.length) * (Int32.ofNat cs_7.length))) [(.int (8 : Int32)), (.int k1), (.int ((j &&& (2147483647 : Int32)) - (j &&& (2147483647 : Int32)) / (Int32.ofNat cs_7.length) * (Int32.ofNat cs_7.length))), (.ref z_7)])) _
          refine XS.iushr X7.here hx rfl (hb hby at_59) rfl ?_
          show Steps p.tables e below (T7.setTop (mkF m 60 (own_F10 i j k1 q (i &&& (7 : Int32)) z_7 ((j &&& (2147483647 : Int32)) - (j &&& (2147483647 : Int32)) / (Int32.ofNat cs_7.length) * (Int32.ofNat cs_7.length))) [(.int ((k1.toUInt32 >>> ((8 : Int32) &&& 31).toUInt32).toInt32)), (.int ((j &&& (2147483647 : Int32)) - (j &&& (2147483647 : Int32)) / (Int32.ofNat cs_7.length) * (Int32.ofNat cs_7.length))), (.ref z_7)])) _
          refine XS.sipush X7.here hx rfl (hb hby at_60) ?_
          show Steps p.tables e below (T7.setTop (mkF m 63 (own_F10 i j k1 q (i &&& (7 : Int32)) z_7 ((j &&& (2147483647 : Int32)) - (j &&& (2147483647 : Int32)) / (Int32.ofNat cs_7.length) * (Int32.ofNat cs_7.length))) [(.int (255 : Int32)), (.int ((k1.toUInt32 >>> ((8 : Int32) &&& 31).toUInt32).toInt32)), (.int ((j &&& (2147483647 : Int32)) - (j &&& (2147483647 : Int32)) / (Int32.ofNat cs_7.length) * (Int32.ofNat cs_7.length))), (.ref z_7)])) _
          refine XS.iand X7.here hx rfl (hb hby at_63) rfl ?_
          show Steps p.tables e below (T7.setTop (mkF m 64 (own_F10 i j k1 q (i &&& (7 : Int32)) z_7 ((j &&& (2147483647 : Int32)) - (j &&& (2147483647 : Int32)) / (Int32.ofNat cs_7.length) * (Int32.ofNat cs_7.length))) [(.int (((k1.toUInt32 >>> ((8 : Int32) &&& 31).toUInt32).toInt32) &&& (255 : Int32))), (.int ((j &&& (2147483647 : Int32)) - (j &&& (2147483647 : Int32)) / (Int32.ofNat cs_7.length) * (Int32.ofNat cs_7.length))), (.ref z_7)])) _
          refine XS.i2c X7.here hx rfl (hb hby at_64) rfl ?_
          show Steps p.tables e below (T7.setTop (mkF m 65 (own_F10 i j k1 q (i &&& (7 : Int32)) z_7 ((j &&& (2147483647 : Int32)) - (j &&& (2147483647 : Int32)) / (Int32.ofNat cs_7.length) * (Int32.ofNat cs_7.length))) [(.int ((((k1.toUInt32 >>> ((8 : Int32) &&& 31).toUInt32).toInt32) &&& (255 : Int32)).toUInt32.toUInt16.toUInt32.toInt32)), (.int ((j &&& (2147483647 : Int32)) - (j &&& (2147483647 : Int32)) / (Int32.ofNat cs_7.length) * (Int32.ofNat cs_7.length))), (.ref z_7)])) _
          refine st45 _ ?_
          show Steps p.tables e below (T45.setTop (mkF m 66 (own_F10 i j k1 q (i &&& (7 : Int32)) z_7 ((j &&& (2147483647 : Int32)) - (j &&& (2147483647 : Int32)) / (Int32.ofNat cs_7.length) * (Int32.ofNat cs_7.length))) [])) _
          refine st46 _ ?_
          show Steps p.tables e below (T46.setTop (mkF m 69 (own_F10 i j k1 q (i &&& (7 : Int32)) z_7 ((j &&& (2147483647 : Int32)) - (j &&& (2147483647 : Int32)) / (Int32.ofNat cs_7.length) * (Int32.ofNat cs_7.length))) [(.ref b46)])) _
          refine XS.dup X46.here hx rfl (hb hby at_69) rfl rfl ?_
          show Steps p.tables e below (T46.setTop (mkF m 70 (own_F10 i j k1 q (i &&& (7 : Int32)) z_7 ((j &&& (2147483647 : Int32)) - (j &&& (2147483647 : Int32)) / (Int32.ofNat cs_7.length) * (Int32.ofNat cs_7.length))) [(.ref b46), (.ref b46)])) _
          refine XS.aload X46.here hx rfl (hb hby at_70) rfl rfl ?_
          show Steps p.tables e below (T46.setTop (mkF m 72 (own_F10 i j k1 q (i &&& (7 : Int32)) z_7 ((j &&& (2147483647 : Int32)) - (j &&& (2147483647 : Int32)) / (Int32.ofNat cs_7.length) * (Int32.ofNat cs_7.length))) [(.ref z_7), (.ref b46), (.ref b46)])) _
          exact k
        have h9_b46 : 0 < cs45.length ∧ cs45.length ≤ 9 := ⟨po45, hl45⟩
        obtain ⟨_, _, ⟨T48, L48, k48, n48⟩, -, X48, ⟨Lc48, hQ48, l48, y48, z48⟩, st48⟩ := X46.specialBack hx (y := (⟨"java/lang/String", "<init>", "([C)V"⟩ : MethodName)) rfl hown (mvT hZ (hw _ (List.mem_of_getElem? (i := 8) rfl))) (mvT hZ (hw _ (List.mem_of_getElem? (i := 9) rfl))) (mvT hZ (hw _ (List.mem_of_getElem? (i := 10) rfl))) (by decide) (StrChars.Road.backV (W := 1) hZ (own_wNew hw) (kI := 4) (hw _ (List.mem_of_getElem? (i := 6) rfl)) (cs := cs45) (bs := (cs45.map (fun c => c.toInt8.toInt32))) (n := cs45.length) g_b46 (O.1 ▸ O.2.1) A46 F_value_b46 F_coder_b46 V_z_c7 (SC.ext O.2) hzc rfl rfl h9_b46.1 (Nat.le_trans h9_b46.2 (by decide)) hp45 rfl (by decide) (by decide)) (g := (mkF m 72 (own_F10 i j k1 q (i &&& (7 : Int32)) z_7 ((j &&& (2147483647 : Int32)) - (j &&& (2147483647 : Int32)) / (Int32.ofNat cs_7.length) * (Int32.ofNat cs_7.length))) [(.ref z_7), (.ref b46), (.ref b46)])) rfl (by rw [hml]; rfl) (Steps.refl _) (a := b46) (argsL := [(.ref z_7)]) (rest := [(.ref b46)]) (lenOf pd__40_91C_41V rfl) rfl (by show 2 * 0 + _ ≤ _; exact Nat.le_of_eq rfl) (hb hby at_72) (fun _ _ => ⟨rfl, e46, (by decide : 2 + 1 ≤ _), Nat.le_trans (Nat.add_le_add_left h9_b46.2 13) (by decide)⟩)
        dsimp only [Pt.U, Pt.locs, Pt.cells, Pt.slots] at X48 l48 y48 z48 st48 hQ48
        subst l48 y48 z48
        have X48 := X48.more (Nat.le_refl _) (Nat.add_le_add_left h9_b46.2 13)
        obtain ⟨rfl, N48q, K48, Ex48, Fc48, t48, kb48, gn48, gz48, nx48, Fv48, Av48⟩ := hQ48
        have N48 := Fr.app N45 N48q
        have ne_z_7_t48 : z_7 ≠ t48 := Nat.ne_of_lt (Nat.lt_of_lt_of_le V_z_c7.lt gz48)
        have ne_b46_t48 : b46 ≠ t48 := Nat.ne_of_lt (Nat.lt_of_lt_of_le A46.lt gz48)
        have R := CHr.keep K48 (allS sf_b46 all0) C.1
        have sf_b46 := R.safe A46.lt sf_b46
        have C := C.trans R
        have hk := Nat.le_trans hk K48.1
        have V_z_c7 := V_z_c7.keep K48 (ninS ne_z_7_b46 nin0)
        have A46 := A46.keep K48
        have g_t48 := gn48
        have O := O.keep K48 (allS g_b46 all0)
        have w49 : ∀ t, Steps p.tables e below (T48.setTop (mkF m 77 (own_F11 i j k1 q (i &&& (7 : Int32)) b46 z_7 ((j &&& (2147483647 : Int32)) - (j &&& (2147483647 : Int32)) / (Int32.ofNat cs_7.length) * (Int32.ofNat cs_7.length))) [])) t → Steps p.tables e below (s₁.setTop (entryFrame m #[(.int i), (.int j), (.int k1), (.long q)] maxLocals)) t := fun t k => by
          refine w47 t ?_
          refine st48.trans ?_
          show Steps p.tables e below (T48.setTop (mkF m 75 (own_F10 i j k1 q (i &&& (7 : Int32)) z_7 ((j &&& (2147483647 : Int32)) - (j &&& (2147483647 : Int32)) / (Int32.ofNat cs_7.length) * (Int32.ofNat cs_7.length))) [(.ref b46)])) _
          refine XS.astore X48.here hx rfl (hb hby at_75) rfl rfl (l' := (own_F11 i j k1 q (i &&& (7 : Int32)) b46 z_7 ((j &&& (2147483647 : Int32)) - (j &&& (2147483647 : Int32)) / (Int32.ofNat cs_7.length) * (Int32.ofNat cs_7.length)))) rfl ?_
          show Steps p.tables e below (T48.setTop (mkF m 77 (own_F11 i j k1 q (i &&& (7 : Int32)) b46 z_7 ((j &&& (2147483647 : Int32)) - (j &&& (2147483647 : Int32)) / (Int32.ofNat cs_7.length) * (Int32.ofNat cs_7.length))) [])) _
          exact k
        rcases own_4w cs45 with hw0 | hw1 | hw2 | ⟨hw3, hw4, hw5⟩
        · have wz := w49
          obtain ⟨_, _, ⟨T50, L50, k50, n50⟩, -, X50, sn50, gr50, ⟨Lc50, hQ50, l50, y50, z50, R50⟩, st50⟩ := callSS X48 hx (y := (⟨"com/example/rolling_ledger/rollingledger/model/CaptureKindOfWarcTypePinLaw", "expect", "(Ljava/lang/String;)Lcom/example/rolling_ledger/rollingledger/model/CaptureKind;"⟩ : MethodName)) hown (mvT hZ (hw _ (List.mem_of_getElem? (i := 34) rfl))) (mvT hZ (hw _ (List.mem_of_getElem? (i := 35) rfl))) (mvT hZ (hw _ (List.mem_of_getElem? (i := 2) rfl))) (mvT hZ (hw _ (List.mem_of_getElem? (i := 36) rfl))) (by decide) (backOfSH (W := 0) (rm8_0 l Z a0 hw [] b46 t48 kb48 cs45 zc s_RESPONSE T48.heap n0 O S_s_RESPONSE Ex48 Fv48 Fc48 Av48 hp45 (Nat.le_trans h9_b46.2 (by decide)) hw0 SC hzc) hZ (hw _ (List.mem_of_getElem? (i := 36) rfl)) (hw _ (List.mem_of_getElem? (i := 2) rfl)) (by decide) (by decide) hEL C.1) (g := (mkF m 79 (own_F11 i j k1 q (i &&& (7 : Int32)) b46 z_7 ((j &&& (2147483647 : Int32)) - (j &&& (2147483647 : Int32)) / (Int32.ofNat cs_7.length) * (Int32.ofNat cs_7.length))) [(.ref b46)])) rfl (by rw [hml]; rfl) (argsL := [(.ref b46)]) (rest := []) (lenOf pd__40Ljava_47lang_47String_59_41Lcom_47example_47rolling_ledger_47rollingledger_47model_47CaptureKind_59 rfl) rfl (by show 2 * 0 + _ ≤ _; exact Nat.le_of_eq rfl) (hb hby at_79) (fun _ _ => ⟨rfl, rfl, (by decide : 3 + 2 ≤ _), (by decide : 22 + 36 ≤ _)⟩)
          dsimp only [Pt.U, Pt.locs, Pt.cells, Pt.slots] at X50 l50 y50 z50 st50 hQ50 sn50 gr50 R50
          subst l50 y50 z50
          obtain ⟨X50, hS, hZ, hown⟩ := rebS hS (by exact hk) X50 sn50 gr50 hZ hown
          obtain ⟨rfl, N50q, K50⟩ := hQ50
          have N50 := Fr.app N48 N50q
          have R := R50
          have sf_b46 := R.safe Ex48.lt sf_b46
          have C := C.trans R
          have hk : T50.heap.size ≤ T50.heap.size := Nat.le_refl _
          have V_z_c7 := V_z_c7.keep K50 nin0
          have Ex48 := Ex48.keep K50
          have Fc48 := Fc48.keep K50 nin0
          have Fv48 := Fv48.keep K50 nin0
          have Av48 := Av48.keep K50 nin0
          have O := O.keep K50 all0
          obtain ⟨_, _, ⟨T51, L51, k51, n51⟩, -, X51, ⟨Lc51, hQ51, l51, y51, z51⟩, st51⟩ := Jvm.LawKit.callS X50 hx (y := (⟨"com/example/rolling_ledger/rollingledger/model/CaptureKind", "ofWarcType", "(Ljava/lang/String;)Ljava/util/Optional;"⟩ : MethodName)) hown (mvT hZ (hw _ (List.mem_of_getElem? (i := 53) rfl))) (mvT hZ (hw _ (List.mem_of_getElem? (i := 54) rfl))) (mvT hZ (hw _ (List.mem_of_getElem? (i := 51) rfl))) (mvT hZ (hw _ (List.mem_of_getElem? (i := 55) rfl))) (by decide) (backOf (W := 0) (rm11_0 l Z a0 hw [] b46 kv u0 b0 kb0 u1 b1 kb1 u2 b2 kb2 t48 kb48 cs45 zc s_VALUES s_RESPONSE s_REVISIT s_RESOURCE s_EMPTY T50.heap n0 O S_s_VALUES S_s_RESPONSE S_s_REVISIT S_s_RESOURCE S_s_EMPTY Ex48 Fv48 Fc48 Av48 hp45 (Nat.le_trans h9_b46.2 (by decide)) hw0 SC hzc (by assumption) (by assumption) (by assumption) (by assumption) (by assumption) (by assumption) (by assumption) (by assumption) (by assumption) (by assumption) (by assumption) (by assumption) (by assumption) (by assumption) (by assumption) (by assumption) (by assumption) (by assumption) (by assumption) (by assumption) (by assumption) (by assumption)) hZ (hw _ (List.mem_of_getElem? (i := 55) rfl)) (hw _ (List.mem_of_getElem? (i := 51) rfl)) (by decide) (by decide)) (g := (mkF m 86 (own_F11 i j k1 q (i &&& (7 : Int32)) b46 s_RESPONSE ((j &&& (2147483647 : Int32)) - (j &&& (2147483647 : Int32)) / (Int32.ofNat cs_7.length) * (Int32.ofNat cs_7.length))) [(.ref b46)])) rfl (by rw [hml]; rfl) (argsL := [(.ref b46)]) (rest := []) (lenOf pd__40Ljava_47lang_47String_59_41Ljava_47util_47Optional_59 rfl) rfl (by show 2 * 0 + _ ≤ _; exact Nat.le_of_eq rfl) (hb hby at_86) (fun _ _ => ⟨rfl, rfl, (by decide : 5 + 2 ≤ _), (by decide : 58 + 4 ≤ _)⟩)
          dsimp only [Pt.U, Pt.locs, Pt.cells, Pt.slots] at X51 l51 y51 z51 st51 hQ51
          subst l51 y51 z51
          obtain ⟨z_51, rfl, N51q, K51, E_z_c51, F_o_z_c51⟩ := hQ51
          have N51 := Fr.app N50 N51q
          have R := CHr.keep K51 all0 C.1
          have sf_b46 := R.safe Ex48.lt sf_b46
          have C := C.trans R
          have hk := Nat.le_trans hk K51.1
          have V_z_c7 := V_z_c7.keep K51 nin0
          have Ex48 := Ex48.keep K51
          have Fc48 := Fc48.keep K51 nin0
          have Fv48 := Fv48.keep K51 nin0
          have Av48 := Av48.keep K51 nin0
          have O := O.keep K51 all0
          obtain ⟨cq52, kq52, q52a, q52b, q52c⟩ := isOf hZ rfl E_z_c51
          obtain ⟨_, _, ⟨T52, L52, k52, n52⟩, -, X52, ⟨Lc52, hQ52, l52, y52, z52⟩, st52⟩ := X51.virtualBack hx (y := (⟨"java/util/Optional", "isPresent", "()Z"⟩ : MethodName)) (z := (⟨"java/util/Optional", "isPresent", "()Z"⟩ : MethodName)) hown (mvT hZ (hw _ (List.mem_of_getElem? (i := 93) rfl))) (mvT hZ (hw _ (List.mem_of_getElem? (i := 94) rfl))) (notFace_of_selects (args := #[]) (mvT hZ (hw _ (List.mem_of_getElem? (i := 96) rfl)))) (mvT hZ (hw _ (List.mem_of_getElem? (i := 96) rfl))) (mvT hZ (hw _ (List.mem_of_getElem? (i := 95) rfl))) (by decide) (backOf (W := 0) (rm16_y l Z a0 hw [] z_51 s_RESPONSE T51.heap n0 O F_o_z_c51) hZ (hw _ (List.mem_of_getElem? (i := 97) rfl)) (hw _ (List.mem_of_getElem? (i := 78) rfl)) (by decide) (by decide)) q52a q52c (g := (mkF m 119 (own_F7 i j k1 q (i &&& (7 : Int32)) b46 s_RESPONSE z_51) [(.ref z_51)])) rfl (by rw [hml]; rfl) (Steps.refl _) (argsL := []) (rest := []) (lenOf pd__40_41Z rfl) rfl (by show 2 * 0 + _ ≤ _; exact Nat.le_of_eq rfl) (hb hby at_119) (fun _ _ => ⟨rfl, rfl, (by decide : 7 + 0 ≤ _), (by decide : 62 + 0 ≤ _)⟩)
          dsimp only [Pt.U, Pt.locs, Pt.cells, Pt.slots] at X52 l52 y52 z52 st52 hQ52
          subst l52 y52 z52
          obtain ⟨rfl, N52q, eh52⟩ := hQ52
          have N52 := Fr.app N51 N52q
          obtain ⟨cq53, kq53, q53a, q53b, q53c⟩ := isOf hZ eh52 E_z_c51
          obtain ⟨_, _, ⟨T53, L53, k53, n53⟩, -, X53, ⟨Lc53, hQ53, l53, y53, z53⟩, st53⟩ := X52.virtualBack hx (y := (⟨"java/util/Optional", "get", "()Ljava/lang/Object;"⟩ : MethodName)) (z := (⟨"java/util/Optional", "get", "()Ljava/lang/Object;"⟩ : MethodName)) hown (mvT hZ (hw _ (List.mem_of_getElem? (i := 98) rfl))) (mvT hZ (hw _ (List.mem_of_getElem? (i := 99) rfl))) (notFace_of_selects (args := #[]) (mvT hZ (hw _ (List.mem_of_getElem? (i := 101) rfl)))) (mvT hZ (hw _ (List.mem_of_getElem? (i := 101) rfl))) (mvT hZ (hw _ (List.mem_of_getElem? (i := 100) rfl))) (by decide) (backOf (W := 0) (rm17 l Z a0 hw [] z_51 s_RESPONSE T51.heap n0 O F_o_z_c51) hZ (hw _ (List.mem_of_getElem? (i := 102) rfl)) (hw _ (List.mem_of_getElem? (i := 78) rfl)) (by decide) (by decide)) q53a q53c (g := (mkF m 127 (own_F7 i j k1 q (i &&& (7 : Int32)) b46 s_RESPONSE z_51) [(.ref z_51)])) rfl (by rw [hml]; rfl) (Steps.refl _) (argsL := []) (rest := []) (lenOf pd__40_41Ljava_47lang_47Object_59 rfl) rfl (by show 2 * 0 + _ ≤ _; exact Nat.le_of_eq rfl) (hb hby at_127) (fun _ _ => ⟨rfl, eh52, (by decide : 7 + 0 ≤ _), (by decide : 62 + 0 ≤ _)⟩)
          dsimp only [Pt.U, Pt.locs, Pt.cells, Pt.slots] at X53 l53 y53 z53 st53 hQ53
          subst l53 y53 z53
          obtain ⟨rfl, N53q, eh53⟩ := hQ53
          have N53 := Fr.app N52 N53q
          have w54 : ∀ t, Steps p.tables e below (T53.setTop (mkF m 140 (own_F7 i j k1 q (i &&& (7 : Int32)) b46 s_RESPONSE z_51) [(.int (1 : Int32))])) t → Steps p.tables e below (s₁.setTop (entryFrame m #[(.int i), (.int j), (.int k1), (.long q)] maxLocals)) t := fun t k => by
            refine w49 t ?_
            refine XS.aload X48.here hx rfl (hb hby at_77) rfl rfl ?_
            show Steps p.tables e below (T48.setTop (mkF m 79 (own_F11 i j k1 q (i &&& (7 : Int32)) b46 z_7 ((j &&& (2147483647 : Int32)) - (j &&& (2147483647 : Int32)) / (Int32.ofNat cs_7.length) * (Int32.ofNat cs_7.length))) [(.ref b46)])) _
            refine st50.trans ?_
            show Steps p.tables e below (T50.setTop (mkF m 82 (own_F11 i j k1 q (i &&& (7 : Int32)) b46 z_7 ((j &&& (2147483647 : Int32)) - (j &&& (2147483647 : Int32)) / (Int32.ofNat cs_7.length) * (Int32.ofNat cs_7.length))) [(.ref s_RESPONSE)])) _
            refine XS.astore X50.here hx rfl (hb hby at_82) rfl rfl (l' := (own_F11 i j k1 q (i &&& (7 : Int32)) b46 s_RESPONSE ((j &&& (2147483647 : Int32)) - (j &&& (2147483647 : Int32)) / (Int32.ofNat cs_7.length) * (Int32.ofNat cs_7.length)))) rfl ?_
            show Steps p.tables e below (T50.setTop (mkF m 84 (own_F11 i j k1 q (i &&& (7 : Int32)) b46 s_RESPONSE ((j &&& (2147483647 : Int32)) - (j &&& (2147483647 : Int32)) / (Int32.ofNat cs_7.length) * (Int32.ofNat cs_7.length))) [])) _
            refine XS.aload X50.here hx rfl (hb hby at_84) rfl rfl ?_
            show Steps p.tables e below (T50.setTop (mkF m 86 (own_F11 i j k1 q (i &&& (7 : Int32)) b46 s_RESPONSE ((j &&& (2147483647 : Int32)) - (j &&& (2147483647 : Int32)) / (Int32.ofNat cs_7.length) * (Int32.ofNat cs_7.length))) [(.ref b46)])) _
            refine st51 _ ?_
            show Steps p.tables e below (T51.setTop (mkF m 89 (own_F11 i j k1 q (i &&& (7 : Int32)) b46 s_RESPONSE ((j &&& (2147483647 : Int32)) - (j &&& (2147483647 : Int32)) / (Int32.ofNat cs_7.length) * (Int32.ofNat cs_7.length))) [(.ref z_51)])) _
            refine XS.astore X51.here hx rfl (hb hby at_89) rfl rfl (l' := (own_F7 i j k1 q (i &&& (7 : Int32)) b46 s_RESPONSE z_51)) rfl ?_
            show Steps p.tables e below (T51.setTop (mkF m 91 (own_F7 i j k1 q (i &&& (7 : Int32)) b46 s_RESPONSE z_51) [])) _
            refine XS.aload X51.here hx rfl (hb hby at_91) rfl rfl ?_
            show Steps p.tables e below (T51.setTop (mkF m 93 (own_F7 i j k1 q (i &&& (7 : Int32)) b46 s_RESPONSE z_51) [(.ref z_51)])) _
            refine XS.ifnonnullYes X51.here hx rfl (pc0 := 93) (pc' := 98) rfl (hb hby at_93) rfl (by decide) (by decide) ?_
            show Steps p.tables e below (T51.setTop (mkF m 98 (own_F7 i j k1 q (i &&& (7 : Int32)) b46 s_RESPONSE z_51) [])) _
            refine XS.aload X51.here hx rfl (hb hby at_98) rfl rfl ?_
            show Steps p.tables e below (T51.setTop (mkF m 100 (own_F7 i j k1 q (i &&& (7 : Int32)) b46 s_RESPONSE z_51) [(.ref s_RESPONSE)])) _
            refine XS.ifnonnullYes X51.here hx rfl (pc0 := 100) (pc' := 117) rfl (hb hby at_100) rfl (by decide) (by decide) ?_
            show Steps p.tables e below (T51.setTop (mkF m 117 (own_F7 i j k1 q (i &&& (7 : Int32)) b46 s_RESPONSE z_51) [])) _
            refine XS.aload X51.here hx rfl (hb hby at_117) rfl rfl ?_
            show Steps p.tables e below (T51.setTop (mkF m 119 (own_F7 i j k1 q (i &&& (7 : Int32)) b46 s_RESPONSE z_51) [(.ref z_51)])) _
            refine st52.trans ?_
            show Steps p.tables e below (T52.setTop (mkF m 122 (own_F7 i j k1 q (i &&& (7 : Int32)) b46 s_RESPONSE z_51) [(.int (1 : Int32))])) _
            refine XS.ifNo X52.here hx rfl (hb hby at_122) rfl ((if0 _ _).trans (feq ((by decide) : ¬ ((1 : Int32) = (0 : Int32)))).1) ?_
            show Steps p.tables e below (T52.setTop (mkF m 125 (own_F7 i j k1 q (i &&& (7 : Int32)) b46 s_RESPONSE z_51) [])) _
            refine XS.aload X52.here hx rfl (hb hby at_125) rfl rfl ?_
            show Steps p.tables e below (T52.setTop (mkF m 127 (own_F7 i j k1 q (i &&& (7 : Int32)) b46 s_RESPONSE z_51) [(.ref z_51)])) _
            refine st53.trans ?_
            show Steps p.tables e below (T53.setTop (mkF m 130 (own_F7 i j k1 q (i &&& (7 : Int32)) b46 s_RESPONSE z_51) [(.ref s_RESPONSE)])) _
            refine XS.aload X53.here hx rfl (hb hby at_130) rfl rfl ?_
            show Steps p.tables e below (T53.setTop (mkF m 132 (own_F7 i j k1 q (i &&& (7 : Int32)) b46 s_RESPONSE z_51) [(.ref s_RESPONSE), (.ref s_RESPONSE)])) _
            refine Jvm.RoadKit.acmp (g := (mkF m 132 (own_F7 i j k1 q (i &&& (7 : Int32)) b46 s_RESPONSE z_51) [(.ref s_RESPONSE), (.ref s_RESPONSE)])) X53 hx rfl rfl rfl (pc0 := 132) (pc' := 135) (same := true) rfl (hb hby at_132) rfl (decide_eq_true rfl) (by decide) (by decide) ?_
            show Steps p.tables e below (T53.setTop (mkF m 135 (own_F7 i j k1 q (i &&& (7 : Int32)) b46 s_RESPONSE z_51) [])) _
            refine XS.iconst X53.here hx rfl (hb hby at_135) ?_
            show Steps p.tables e below (T53.setTop (mkF m 136 (own_F7 i j k1 q (i &&& (7 : Int32)) b46 s_RESPONSE z_51) [(.int (1 : Int32))])) _
            refine XS.goto X53.here hx rfl (pc0 := 136) (pc' := 140) rfl (hb hby at_136) (by decide) (by decide) ?_
            show Steps p.tables e below (T53.setTop (mkF m 140 (own_F7 i j k1 q (i &&& (7 : Int32)) b46 s_RESPONSE z_51) [(.int (1 : Int32))])) _
            exact k
          obtain ⟨fs, hr, hrun, hended, hE⟩ := Stand.leaveW (s := s) (vm₁ := T50.vm) X53 hS (by rw [eh53]; exact hk) (v := some (.int (1 : Int32))) (fun h => by rw [Bd.returns] at h; cases h)
          refine ⟨_, _, w54 _ ?_, hrun, hended, _, _, rfl, ?_, ?_, own_mono hE (by decide) (by decide)⟩
          · exact retN X53 hx (t := .boolean) Bd.returns (by simp) (hb hby at_140) hr
          · show Q0 Z i j k1 q kv u0 b0 kb0 u1 b1 kb1 u2 b2 kb2 zc s_VALUES s_RESPONSE s_REVISIT s_RESOURCE s_EMPTY h0 n0 _ T53.heap _
            rw [eh53]
            exact ⟨rfl, N53⟩
          · rw [hh]; show CHr Z consts_1 s.vm h0 T53.vm T53.heap; rw [eh53]; exact C.trans (CHv.at X53 hZ hEL C.1)
        · have wz := w49
          obtain ⟨_, _, ⟨T55, L55, k55, n55⟩, -, X55, sn55, gr55, ⟨Lc55, hQ55, l55, y55, z55, R55⟩, st55⟩ := callSS X48 hx (y := (⟨"com/example/rolling_ledger/rollingledger/model/CaptureKindOfWarcTypePinLaw", "expect", "(Ljava/lang/String;)Lcom/example/rolling_ledger/rollingledger/model/CaptureKind;"⟩ : MethodName)) hown (mvT hZ (hw _ (List.mem_of_getElem? (i := 34) rfl))) (mvT hZ (hw _ (List.mem_of_getElem? (i := 35) rfl))) (mvT hZ (hw _ (List.mem_of_getElem? (i := 2) rfl))) (mvT hZ (hw _ (List.mem_of_getElem? (i := 36) rfl))) (by decide) (backOfSH (W := 0) (rm8_1 l Z a0 hw [] b46 t48 kb48 cs45 zc s_REVISIT T48.heap n0 O S_s_REVISIT Ex48 Fv48 Fc48 Av48 hp45 (Nat.le_trans h9_b46.2 (by decide)) hw1 SC hzc) hZ (hw _ (List.mem_of_getElem? (i := 36) rfl)) (hw _ (List.mem_of_getElem? (i := 2) rfl)) (by decide) (by decide) hEL C.1) (g := (mkF m 79 (own_F11 i j k1 q (i &&& (7 : Int32)) b46 z_7 ((j &&& (2147483647 : Int32)) - (j &&& (2147483647 : Int32)) / (Int32.ofNat cs_7.length) * (Int32.ofNat cs_7.length))) [(.ref b46)])) rfl (by rw [hml]; rfl) (argsL := [(.ref b46)]) (rest := []) (lenOf pd__40Ljava_47lang_47String_59_41Lcom_47example_47rolling_ledger_47rollingledger_47model_47CaptureKind_59 rfl) rfl (by show 2 * 0 + _ ≤ _; exact Nat.le_of_eq rfl) (hb hby at_79) (fun _ _ => ⟨rfl, rfl, (by decide : 3 + 4 ≤ _), (by decide : 22 + 68 ≤ _)⟩)
          dsimp only [Pt.U, Pt.locs, Pt.cells, Pt.slots] at X55 l55 y55 z55 st55 hQ55 sn55 gr55 R55
          subst l55 y55 z55
          obtain ⟨X55, hS, hZ, hown⟩ := rebS hS (by exact hk) X55 sn55 gr55 hZ hown
          obtain ⟨rfl, N55q, K55⟩ := hQ55
          have N55 := Fr.app N48 N55q
          have R := R55
          have sf_b46 := R.safe Ex48.lt sf_b46
          have C := C.trans R
          have hk : T55.heap.size ≤ T55.heap.size := Nat.le_refl _
          have V_z_c7 := V_z_c7.keep K55 nin0
          have Ex48 := Ex48.keep K55
          have Fc48 := Fc48.keep K55 nin0
          have Fv48 := Fv48.keep K55 nin0
          have Av48 := Av48.keep K55 nin0
          have O := O.keep K55 all0
          obtain ⟨_, _, ⟨T56, L56, k56, n56⟩, -, X56, ⟨Lc56, hQ56, l56, y56, z56⟩, st56⟩ := Jvm.LawKit.callS X55 hx (y := (⟨"com/example/rolling_ledger/rollingledger/model/CaptureKind", "ofWarcType", "(Ljava/lang/String;)Ljava/util/Optional;"⟩ : MethodName)) hown (mvT hZ (hw _ (List.mem_of_getElem? (i := 53) rfl))) (mvT hZ (hw _ (List.mem_of_getElem? (i := 54) rfl))) (mvT hZ (hw _ (List.mem_of_getElem? (i := 51) rfl))) (mvT hZ (hw _ (List.mem_of_getElem? (i := 55) rfl))) (by decide) (backOf (W := 0) (rm11_1 l Z a0 hw [] b46 kv u0 b0 kb0 u1 b1 kb1 u2 b2 kb2 t48 kb48 cs45 zc s_VALUES s_RESPONSE s_REVISIT s_RESOURCE s_EMPTY T55.heap n0 O S_s_VALUES S_s_RESPONSE S_s_REVISIT S_s_RESOURCE S_s_EMPTY Ex48 Fv48 Fc48 Av48 hp45 (Nat.le_trans h9_b46.2 (by decide)) hw1 SC hzc (by assumption) (by assumption) (by assumption) (by assumption) (by assumption) (by assumption) (by assumption) (by assumption) (by assumption) (by assumption) (by assumption) (by assumption) (by assumption) (by assumption) (by assumption) (by assumption) (by assumption) (by assumption) (by assumption) (by assumption) (by assumption) (by assumption)) hZ (hw _ (List.mem_of_getElem? (i := 55) rfl)) (hw _ (List.mem_of_getElem? (i := 51) rfl)) (by decide) (by decide)) (g := (mkF m 86 (own_F11 i j k1 q (i &&& (7 : Int32)) b46 s_REVISIT ((j &&& (2147483647 : Int32)) - (j &&& (2147483647 : Int32)) / (Int32.ofNat cs_7.length) * (Int32.ofNat cs_7.length))) [(.ref b46)])) rfl (by rw [hml]; rfl) (argsL := [(.ref b46)]) (rest := []) (lenOf pd__40Ljava_47lang_47String_59_41Ljava_47util_47Optional_59 rfl) rfl (by show 2 * 0 + _ ≤ _; exact Nat.le_of_eq rfl) (hb hby at_86) (fun _ _ => ⟨rfl, rfl, (by decide : 7 + 2 ≤ _), (by decide : 90 + 4 ≤ _)⟩)
          dsimp only [Pt.U, Pt.locs, Pt.cells, Pt.slots] at X56 l56 y56 z56 st56 hQ56
          subst l56 y56 z56
          obtain ⟨z_56, rfl, N56q, K56, E_z_c56, F_o_z_c56⟩ := hQ56
          have N56 := Fr.app N55 N56q
          have R := CHr.keep K56 all0 C.1
          have sf_b46 := R.safe Ex48.lt sf_b46
          have C := C.trans R
          have hk := Nat.le_trans hk K56.1
          have V_z_c7 := V_z_c7.keep K56 nin0
          have Ex48 := Ex48.keep K56
          have Fc48 := Fc48.keep K56 nin0
          have Fv48 := Fv48.keep K56 nin0
          have Av48 := Av48.keep K56 nin0
          have O := O.keep K56 all0
          obtain ⟨cq57, kq57, q57a, q57b, q57c⟩ := isOf hZ rfl E_z_c56
          obtain ⟨_, _, ⟨T57, L57, k57, n57⟩, -, X57, ⟨Lc57, hQ57, l57, y57, z57⟩, st57⟩ := X56.virtualBack hx (y := (⟨"java/util/Optional", "isPresent", "()Z"⟩ : MethodName)) (z := (⟨"java/util/Optional", "isPresent", "()Z"⟩ : MethodName)) hown (mvT hZ (hw _ (List.mem_of_getElem? (i := 93) rfl))) (mvT hZ (hw _ (List.mem_of_getElem? (i := 94) rfl))) (notFace_of_selects (args := #[]) (mvT hZ (hw _ (List.mem_of_getElem? (i := 96) rfl)))) (mvT hZ (hw _ (List.mem_of_getElem? (i := 96) rfl))) (mvT hZ (hw _ (List.mem_of_getElem? (i := 95) rfl))) (by decide) (backOf (W := 0) (rm16_y l Z a0 hw [] z_56 s_REVISIT T56.heap n0 O F_o_z_c56) hZ (hw _ (List.mem_of_getElem? (i := 97) rfl)) (hw _ (List.mem_of_getElem? (i := 78) rfl)) (by decide) (by decide)) q57a q57c (g := (mkF m 119 (own_F7 i j k1 q (i &&& (7 : Int32)) b46 s_REVISIT z_56) [(.ref z_56)])) rfl (by rw [hml]; rfl) (Steps.refl _) (argsL := []) (rest := []) (lenOf pd__40_41Z rfl) rfl (by show 2 * 0 + _ ≤ _; exact Nat.le_of_eq rfl) (hb hby at_119) (fun _ _ => ⟨rfl, rfl, (by decide : 9 + 0 ≤ _), (by decide : 94 + 0 ≤ _)⟩)
          dsimp only [Pt.U, Pt.locs, Pt.cells, Pt.slots] at X57 l57 y57 z57 st57 hQ57
          subst l57 y57 z57
          obtain ⟨rfl, N57q, eh57⟩ := hQ57
          have N57 := Fr.app N56 N57q
          obtain ⟨cq58, kq58, q58a, q58b, q58c⟩ := isOf hZ eh57 E_z_c56
          obtain ⟨_, _, ⟨T58, L58, k58, n58⟩, -, X58, ⟨Lc58, hQ58, l58, y58, z58⟩, st58⟩ := X57.virtualBack hx (y := (⟨"java/util/Optional", "get", "()Ljava/lang/Object;"⟩ : MethodName)) (z := (⟨"java/util/Optional", "get", "()Ljava/lang/Object;"⟩ : MethodName)) hown (mvT hZ (hw _ (List.mem_of_getElem? (i := 98) rfl))) (mvT hZ (hw _ (List.mem_of_getElem? (i := 99) rfl))) (notFace_of_selects (args := #[]) (mvT hZ (hw _ (List.mem_of_getElem? (i := 101) rfl)))) (mvT hZ (hw _ (List.mem_of_getElem? (i := 101) rfl))) (mvT hZ (hw _ (List.mem_of_getElem? (i := 100) rfl))) (by decide) (backOf (W := 0) (rm17 l Z a0 hw [] z_56 s_REVISIT T56.heap n0 O F_o_z_c56) hZ (hw _ (List.mem_of_getElem? (i := 102) rfl)) (hw _ (List.mem_of_getElem? (i := 78) rfl)) (by decide) (by decide)) q58a q58c (g := (mkF m 127 (own_F7 i j k1 q (i &&& (7 : Int32)) b46 s_REVISIT z_56) [(.ref z_56)])) rfl (by rw [hml]; rfl) (Steps.refl _) (argsL := []) (rest := []) (lenOf pd__40_41Ljava_47lang_47Object_59 rfl) rfl (by show 2 * 0 + _ ≤ _; exact Nat.le_of_eq rfl) (hb hby at_127) (fun _ _ => ⟨rfl, eh57, (by decide : 9 + 0 ≤ _), (by decide : 94 + 0 ≤ _)⟩)
          dsimp only [Pt.U, Pt.locs, Pt.cells, Pt.slots] at X58 l58 y58 z58 st58 hQ58
          subst l58 y58 z58
          obtain ⟨rfl, N58q, eh58⟩ := hQ58
          have N58 := Fr.app N57 N58q
          have w59 : ∀ t, Steps p.tables e below (T58.setTop (mkF m 140 (own_F7 i j k1 q (i &&& (7 : Int32)) b46 s_REVISIT z_56) [(.int (1 : Int32))])) t → Steps p.tables e below (s₁.setTop (entryFrame m #[(.int i), (.int j), (.int k1), (.long q)] maxLocals)) t := fun t k => by
            refine w49 t ?_
            refine XS.aload X48.here hx rfl (hb hby at_77) rfl rfl ?_
            show Steps p.tables e below (T48.setTop (mkF m 79 (own_F11 i j k1 q (i &&& (7 : Int32)) b46 z_7 ((j &&& (2147483647 : Int32)) - (j &&& (2147483647 : Int32)) / (Int32.ofNat cs_7.length) * (Int32.ofNat cs_7.length))) [(.ref b46)])) _
            refine st55.trans ?_
            show Steps p.tables e below (T55.setTop (mkF m 82 (own_F11 i j k1 q (i &&& (7 : Int32)) b46 z_7 ((j &&& (2147483647 : Int32)) - (j &&& (2147483647 : Int32)) / (Int32.ofNat cs_7.length) * (Int32.ofNat cs_7.length))) [(.ref s_REVISIT)])) _
            refine XS.astore X55.here hx rfl (hb hby at_82) rfl rfl (l' := (own_F11 i j k1 q (i &&& (7 : Int32)) b46 s_REVISIT ((j &&& (2147483647 : Int32)) - (j &&& (2147483647 : Int32)) / (Int32.ofNat cs_7.length) * (Int32.ofNat cs_7.length)))) rfl ?_
            show Steps p.tables e below (T55.setTop (mkF m 84 (own_F11 i j k1 q (i &&& (7 : Int32)) b46 s_REVISIT ((j &&& (2147483647 : Int32)) - (j &&& (2147483647 : Int32)) / (Int32.ofNat cs_7.length) * (Int32.ofNat cs_7.length))) [])) _
            refine XS.aload X55.here hx rfl (hb hby at_84) rfl rfl ?_
            show Steps p.tables e below (T55.setTop (mkF m 86 (own_F11 i j k1 q (i &&& (7 : Int32)) b46 s_REVISIT ((j &&& (2147483647 : Int32)) - (j &&& (2147483647 : Int32)) / (Int32.ofNat cs_7.length) * (Int32.ofNat cs_7.length))) [(.ref b46)])) _
            refine st56 _ ?_
            show Steps p.tables e below (T56.setTop (mkF m 89 (own_F11 i j k1 q (i &&& (7 : Int32)) b46 s_REVISIT ((j &&& (2147483647 : Int32)) - (j &&& (2147483647 : Int32)) / (Int32.ofNat cs_7.length) * (Int32.ofNat cs_7.length))) [(.ref z_56)])) _
            refine XS.astore X56.here hx rfl (hb hby at_89) rfl rfl (l' := (own_F7 i j k1 q (i &&& (7 : Int32)) b46 s_REVISIT z_56)) rfl ?_
            show Steps p.tables e below (T56.setTop (mkF m 91 (own_F7 i j k1 q (i &&& (7 : Int32)) b46 s_REVISIT z_56) [])) _
            refine XS.aload X56.here hx rfl (hb hby at_91) rfl rfl ?_
            show Steps p.tables e below (T56.setTop (mkF m 93 (own_F7 i j k1 q (i &&& (7 : Int32)) b46 s_REVISIT z_56) [(.ref z_56)])) _
            refine XS.ifnonnullYes X56.here hx rfl (pc0 := 93) (pc' := 98) rfl (hb hby at_93) rfl (by decide) (by decide) ?_
            show Steps p.tables e below (T56.setTop (mkF m 98 (own_F7 i j k1 q (i &&& (7 : Int32)) b46 s_REVISIT z_56) [])) _
            refine XS.aload X56.here hx rfl (hb hby at_98) rfl rfl ?_
            show Steps p.tables e below (T56.setTop (mkF m 100 (own_F7 i j k1 q (i &&& (7 : Int32)) b46 s_REVISIT z_56) [(.ref s_REVISIT)])) _
            refine XS.ifnonnullYes X56.here hx rfl (pc0 := 100) (pc' := 117) rfl (hb hby at_100) rfl (by decide) (by decide) ?_
            show Steps p.tables e below (T56.setTop (mkF m 117 (own_F7 i j k1 q (i &&& (7 : Int32)) b46 s_REVISIT z_56) [])) _
            refine XS.aload X56.here hx rfl (hb hby at_117) rfl rfl ?_
            show Steps p.tables e below (T56.setTop (mkF m 119 (own_F7 i j k1 q (i &&& (7 : Int32)) b46 s_REVISIT z_56) [(.ref z_56)])) _
            refine st57.trans ?_
            show Steps p.tables e below (T57.setTop (mkF m 122 (own_F7 i j k1 q (i &&& (7 : Int32)) b46 s_REVISIT z_56) [(.int (1 : Int32))])) _
            refine XS.ifNo X57.here hx rfl (hb hby at_122) rfl ((if0 _ _).trans (feq ((by decide) : ¬ ((1 : Int32) = (0 : Int32)))).1) ?_
            show Steps p.tables e below (T57.setTop (mkF m 125 (own_F7 i j k1 q (i &&& (7 : Int32)) b46 s_REVISIT z_56) [])) _
            refine XS.aload X57.here hx rfl (hb hby at_125) rfl rfl ?_
            show Steps p.tables e below (T57.setTop (mkF m 127 (own_F7 i j k1 q (i &&& (7 : Int32)) b46 s_REVISIT z_56) [(.ref z_56)])) _
            refine st58.trans ?_
            show Steps p.tables e below (T58.setTop (mkF m 130 (own_F7 i j k1 q (i &&& (7 : Int32)) b46 s_REVISIT z_56) [(.ref s_REVISIT)])) _
            refine XS.aload X58.here hx rfl (hb hby at_130) rfl rfl ?_
            show Steps p.tables e below (T58.setTop (mkF m 132 (own_F7 i j k1 q (i &&& (7 : Int32)) b46 s_REVISIT z_56) [(.ref s_REVISIT), (.ref s_REVISIT)])) _
            refine Jvm.RoadKit.acmp (g := (mkF m 132 (own_F7 i j k1 q (i &&& (7 : Int32)) b46 s_REVISIT z_56) [(.ref s_REVISIT), (.ref s_REVISIT)])) X58 hx rfl rfl rfl (pc0 := 132) (pc' := 135) (same := true) rfl (hb hby at_132) rfl (decide_eq_true rfl) (by decide) (by decide) ?_
            show Steps p.tables e below (T58.setTop (mkF m 135 (own_F7 i j k1 q (i &&& (7 : Int32)) b46 s_REVISIT z_56) [])) _
            refine XS.iconst X58.here hx rfl (hb hby at_135) ?_
            show Steps p.tables e below (T58.setTop (mkF m 136 (own_F7 i j k1 q (i &&& (7 : Int32)) b46 s_REVISIT z_56) [(.int (1 : Int32))])) _
            refine XS.goto X58.here hx rfl (pc0 := 136) (pc' := 140) rfl (hb hby at_136) (by decide) (by decide) ?_
            show Steps p.tables e below (T58.setTop (mkF m 140 (own_F7 i j k1 q (i &&& (7 : Int32)) b46 s_REVISIT z_56) [(.int (1 : Int32))])) _
            exact k
          obtain ⟨fs, hr, hrun, hended, hE⟩ := Stand.leaveW (s := s) (vm₁ := T55.vm) X58 hS (by rw [eh58]; exact hk) (v := some (.int (1 : Int32))) (fun h => by rw [Bd.returns] at h; cases h)
          refine ⟨_, _, w59 _ ?_, hrun, hended, _, _, rfl, ?_, ?_, own_mono hE (by decide) (by decide)⟩
          · exact retN X58 hx (t := .boolean) Bd.returns (by simp) (hb hby at_140) hr
          · show Q0 Z i j k1 q kv u0 b0 kb0 u1 b1 kb1 u2 b2 kb2 zc s_VALUES s_RESPONSE s_REVISIT s_RESOURCE s_EMPTY h0 n0 _ T58.heap _
            rw [eh58]
            exact ⟨rfl, N58⟩
          · rw [hh]; show CHr Z consts_1 s.vm h0 T58.vm T58.heap; rw [eh58]; exact C.trans (CHv.at X58 hZ hEL C.1)
        · have wz := w49
          obtain ⟨_, _, ⟨T60, L60, k60, n60⟩, -, X60, sn60, gr60, ⟨Lc60, hQ60, l60, y60, z60, R60⟩, st60⟩ := callSS X48 hx (y := (⟨"com/example/rolling_ledger/rollingledger/model/CaptureKindOfWarcTypePinLaw", "expect", "(Ljava/lang/String;)Lcom/example/rolling_ledger/rollingledger/model/CaptureKind;"⟩ : MethodName)) hown (mvT hZ (hw _ (List.mem_of_getElem? (i := 34) rfl))) (mvT hZ (hw _ (List.mem_of_getElem? (i := 35) rfl))) (mvT hZ (hw _ (List.mem_of_getElem? (i := 2) rfl))) (mvT hZ (hw _ (List.mem_of_getElem? (i := 36) rfl))) (by decide) (backOfSH (W := 0) (rm8_2 l Z a0 hw [] b46 t48 kb48 cs45 zc s_RESOURCE T48.heap n0 O S_s_RESOURCE Ex48 Fv48 Fc48 Av48 hp45 (Nat.le_trans h9_b46.2 (by decide)) hw2 SC hzc) hZ (hw _ (List.mem_of_getElem? (i := 36) rfl)) (hw _ (List.mem_of_getElem? (i := 2) rfl)) (by decide) (by decide) hEL C.1) (g := (mkF m 79 (own_F11 i j k1 q (i &&& (7 : Int32)) b46 z_7 ((j &&& (2147483647 : Int32)) - (j &&& (2147483647 : Int32)) / (Int32.ofNat cs_7.length) * (Int32.ofNat cs_7.length))) [(.ref b46)])) rfl (by rw [hml]; rfl) (argsL := [(.ref b46)]) (rest := []) (lenOf pd__40Ljava_47lang_47String_59_41Lcom_47example_47rolling_ledger_47rollingledger_47model_47CaptureKind_59 rfl) rfl (by show 2 * 0 + _ ≤ _; exact Nat.le_of_eq rfl) (hb hby at_79) (fun _ _ => ⟨rfl, rfl, (by decide : 3 + 6 ≤ _), (by decide : 22 + 104 ≤ _)⟩)
          dsimp only [Pt.U, Pt.locs, Pt.cells, Pt.slots] at X60 l60 y60 z60 st60 hQ60 sn60 gr60 R60
          subst l60 y60 z60
          obtain ⟨X60, hS, hZ, hown⟩ := rebS hS (by exact hk) X60 sn60 gr60 hZ hown
          obtain ⟨rfl, N60q, K60⟩ := hQ60
          have N60 := Fr.app N48 N60q
          have R := R60
          have sf_b46 := R.safe Ex48.lt sf_b46
          have C := C.trans R
          have hk : T60.heap.size ≤ T60.heap.size := Nat.le_refl _
          have V_z_c7 := V_z_c7.keep K60 nin0
          have Ex48 := Ex48.keep K60
          have Fc48 := Fc48.keep K60 nin0
          have Fv48 := Fv48.keep K60 nin0
          have Av48 := Av48.keep K60 nin0
          have O := O.keep K60 all0
          obtain ⟨_, _, ⟨T61, L61, k61, n61⟩, -, X61, ⟨Lc61, hQ61, l61, y61, z61⟩, st61⟩ := Jvm.LawKit.callS X60 hx (y := (⟨"com/example/rolling_ledger/rollingledger/model/CaptureKind", "ofWarcType", "(Ljava/lang/String;)Ljava/util/Optional;"⟩ : MethodName)) hown (mvT hZ (hw _ (List.mem_of_getElem? (i := 53) rfl))) (mvT hZ (hw _ (List.mem_of_getElem? (i := 54) rfl))) (mvT hZ (hw _ (List.mem_of_getElem? (i := 51) rfl))) (mvT hZ (hw _ (List.mem_of_getElem? (i := 55) rfl))) (by decide) (backOf (W := 0) (rm11_2 l Z a0 hw [] b46 kv u0 b0 kb0 u1 b1 kb1 u2 b2 kb2 t48 kb48 cs45 zc s_VALUES s_RESPONSE s_REVISIT s_RESOURCE s_EMPTY T60.heap n0 O S_s_VALUES S_s_RESPONSE S_s_REVISIT S_s_RESOURCE S_s_EMPTY Ex48 Fv48 Fc48 Av48 hp45 (Nat.le_trans h9_b46.2 (by decide)) hw2 SC hzc (by assumption) (by assumption) (by assumption) (by assumption) (by assumption) (by assumption) (by assumption) (by assumption) (by assumption) (by assumption) (by assumption) (by assumption) (by assumption) (by assumption) (by assumption) (by assumption) (by assumption) (by assumption) (by assumption) (by assumption) (by assumption) (by assumption)) hZ (hw _ (List.mem_of_getElem? (i := 55) rfl)) (hw _ (List.mem_of_getElem? (i := 51) rfl)) (by decide) (by decide)) (g := (mkF m 86 (own_F11 i j k1 q (i &&& (7 : Int32)) b46 s_RESOURCE ((j &&& (2147483647 : Int32)) - (j &&& (2147483647 : Int32)) / (Int32.ofNat cs_7.length) * (Int32.ofNat cs_7.length))) [(.ref b46)])) rfl (by rw [hml]; rfl) (argsL := [(.ref b46)]) (rest := []) (lenOf pd__40Ljava_47lang_47String_59_41Ljava_47util_47Optional_59 rfl) rfl (by show 2 * 0 + _ ≤ _; exact Nat.le_of_eq rfl) (hb hby at_86) (fun _ _ => ⟨rfl, rfl, (by decide : 9 + 2 ≤ _), (by decide : 126 + 4 ≤ _)⟩)
          dsimp only [Pt.U, Pt.locs, Pt.cells, Pt.slots] at X61 l61 y61 z61 st61 hQ61
          subst l61 y61 z61
          obtain ⟨z_61, rfl, N61q, K61, E_z_c61, F_o_z_c61⟩ := hQ61
          have N61 := Fr.app N60 N61q
          have R := CHr.keep K61 all0 C.1
          have sf_b46 := R.safe Ex48.lt sf_b46
          have C := C.trans R
          have hk := Nat.le_trans hk K61.1
          have V_z_c7 := V_z_c7.keep K61 nin0
          have Ex48 := Ex48.keep K61
          have Fc48 := Fc48.keep K61 nin0
          have Fv48 := Fv48.keep K61 nin0
          have Av48 := Av48.keep K61 nin0
          have O := O.keep K61 all0
          obtain ⟨cq62, kq62, q62a, q62b, q62c⟩ := isOf hZ rfl E_z_c61
          obtain ⟨_, _, ⟨T62, L62, k62, n62⟩, -, X62, ⟨Lc62, hQ62, l62, y62, z62⟩, st62⟩ := X61.virtualBack hx (y := (⟨"java/util/Optional", "isPresent", "()Z"⟩ : MethodName)) (z := (⟨"java/util/Optional", "isPresent", "()Z"⟩ : MethodName)) hown (mvT hZ (hw _ (List.mem_of_getElem? (i := 93) rfl))) (mvT hZ (hw _ (List.mem_of_getElem? (i := 94) rfl))) (notFace_of_selects (args := #[]) (mvT hZ (hw _ (List.mem_of_getElem? (i := 96) rfl)))) (mvT hZ (hw _ (List.mem_of_getElem? (i := 96) rfl))) (mvT hZ (hw _ (List.mem_of_getElem? (i := 95) rfl))) (by decide) (backOf (W := 0) (rm16_y l Z a0 hw [] z_61 s_RESOURCE T61.heap n0 O F_o_z_c61) hZ (hw _ (List.mem_of_getElem? (i := 97) rfl)) (hw _ (List.mem_of_getElem? (i := 78) rfl)) (by decide) (by decide)) q62a q62c (g := (mkF m 119 (own_F7 i j k1 q (i &&& (7 : Int32)) b46 s_RESOURCE z_61) [(.ref z_61)])) rfl (by rw [hml]; rfl) (Steps.refl _) (argsL := []) (rest := []) (lenOf pd__40_41Z rfl) rfl (by show 2 * 0 + _ ≤ _; exact Nat.le_of_eq rfl) (hb hby at_119) (fun _ _ => ⟨rfl, rfl, (by decide : 11 + 0 ≤ _), (by decide : 130 + 0 ≤ _)⟩)
          dsimp only [Pt.U, Pt.locs, Pt.cells, Pt.slots] at X62 l62 y62 z62 st62 hQ62
          subst l62 y62 z62
          obtain ⟨rfl, N62q, eh62⟩ := hQ62
          have N62 := Fr.app N61 N62q
          obtain ⟨cq63, kq63, q63a, q63b, q63c⟩ := isOf hZ eh62 E_z_c61
          obtain ⟨_, _, ⟨T63, L63, k63, n63⟩, -, X63, ⟨Lc63, hQ63, l63, y63, z63⟩, st63⟩ := X62.virtualBack hx (y := (⟨"java/util/Optional", "get", "()Ljava/lang/Object;"⟩ : MethodName)) (z := (⟨"java/util/Optional", "get", "()Ljava/lang/Object;"⟩ : MethodName)) hown (mvT hZ (hw _ (List.mem_of_getElem? (i := 98) rfl))) (mvT hZ (hw _ (List.mem_of_getElem? (i := 99) rfl))) (notFace_of_selects (args := #[]) (mvT hZ (hw _ (List.mem_of_getElem? (i := 101) rfl)))) (mvT hZ (hw _ (List.mem_of_getElem? (i := 101) rfl))) (mvT hZ (hw _ (List.mem_of_getElem? (i := 100) rfl))) (by decide) (backOf (W := 0) (rm17 l Z a0 hw [] z_61 s_RESOURCE T61.heap n0 O F_o_z_c61) hZ (hw _ (List.mem_of_getElem? (i := 102) rfl)) (hw _ (List.mem_of_getElem? (i := 78) rfl)) (by decide) (by decide)) q63a q63c (g := (mkF m 127 (own_F7 i j k1 q (i &&& (7 : Int32)) b46 s_RESOURCE z_61) [(.ref z_61)])) rfl (by rw [hml]; rfl) (Steps.refl _) (argsL := []) (rest := []) (lenOf pd__40_41Ljava_47lang_47Object_59 rfl) rfl (by show 2 * 0 + _ ≤ _; exact Nat.le_of_eq rfl) (hb hby at_127) (fun _ _ => ⟨rfl, eh62, (by decide : 11 + 0 ≤ _), (by decide : 130 + 0 ≤ _)⟩)
          dsimp only [Pt.U, Pt.locs, Pt.cells, Pt.slots] at X63 l63 y63 z63 st63 hQ63
          subst l63 y63 z63
          obtain ⟨rfl, N63q, eh63⟩ := hQ63
          have N63 := Fr.app N62 N63q
          have w64 : ∀ t, Steps p.tables e below (T63.setTop (mkF m 140 (own_F7 i j k1 q (i &&& (7 : Int32)) b46 s_RESOURCE z_61) [(.int (1 : Int32))])) t → Steps p.tables e below (s₁.setTop (entryFrame m #[(.int i), (.int j), (.int k1), (.long q)] maxLocals)) t := fun t k => by
            refine w49 t ?_
            refine XS.aload X48.here hx rfl (hb hby at_77) rfl rfl ?_
            show Steps p.tables e below (T48.setTop (mkF m 79 (own_F11 i j k1 q (i &&& (7 : Int32)) b46 z_7 ((j &&& (2147483647 : Int32)) - (j &&& (2147483647 : Int32)) / (Int32.ofNat cs_7.length) * (Int32.ofNat cs_7.length))) [(.ref b46)])) _
            refine st60.trans ?_
            show Steps p.tables e below (T60.setTop (mkF m 82 (own_F11 i j k1 q (i &&& (7 : Int32)) b46 z_7 ((j &&& (2147483647 : Int32)) - (j &&& (2147483647 : Int32)) / (Int32.ofNat cs_7.length) * (Int32.ofNat cs_7.length))) [(.ref s_RESOURCE)])) _
            refine XS.astore X60.here hx rfl (hb hby at_82) rfl rfl (l' := (own_F11 i j k1 q (i &&& (7 : Int32)) b46 s_RESOURCE ((j &&& (2147483647 : Int32)) - (j &&& (2147483647 : Int32)) / (Int32.ofNat cs_7.length) * (Int32.ofNat cs_7.length)))) rfl ?_
            show Steps p.tables e below (T60.setTop (mkF m 84 (own_F11 i j k1 q (i &&& (7 : Int32)) b46 s_RESOURCE ((j &&& (2147483647 : Int32)) - (j &&& (2147483647 : Int32)) / (Int32.ofNat cs_7.length) * (Int32.ofNat cs_7.length))) [])) _
            refine XS.aload X60.here hx rfl (hb hby at_84) rfl rfl ?_
            show Steps p.tables e below (T60.setTop (mkF m 86 (own_F11 i j k1 q (i &&& (7 : Int32)) b46 s_RESOURCE ((j &&& (2147483647 : Int32)) - (j &&& (2147483647 : Int32)) / (Int32.ofNat cs_7.length) * (Int32.ofNat cs_7.length))) [(.ref b46)])) _
            refine st61 _ ?_
            show Steps p.tables e below (T61.setTop (mkF m 89 (own_F11 i j k1 q (i &&& (7 : Int32)) b46 s_RESOURCE ((j &&& (2147483647 : Int32)) - (j &&& (2147483647 : Int32)) / (Int32.ofNat cs_7.length) * (Int32.ofNat cs_7.length))) [(.ref z_61)])) _
            refine XS.astore X61.here hx rfl (hb hby at_89) rfl rfl (l' := (own_F7 i j k1 q (i &&& (7 : Int32)) b46 s_RESOURCE z_61)) rfl ?_
            show Steps p.tables e below (T61.setTop (mkF m 91 (own_F7 i j k1 q (i &&& (7 : Int32)) b46 s_RESOURCE z_61) [])) _
            refine XS.aload X61.here hx rfl (hb hby at_91) rfl rfl ?_
            show Steps p.tables e below (T61.setTop (mkF m 93 (own_F7 i j k1 q (i &&& (7 : Int32)) b46 s_RESOURCE z_61) [(.ref z_61)])) _
            refine XS.ifnonnullYes X61.here hx rfl (pc0 := 93) (pc' := 98) rfl (hb hby at_93) rfl (by decide) (by decide) ?_
            show Steps p.tables e below (T61.setTop (mkF m 98 (own_F7 i j k1 q (i &&& (7 : Int32)) b46 s_RESOURCE z_61) [])) _
            refine XS.aload X61.here hx rfl (hb hby at_98) rfl rfl ?_
            show Steps p.tables e below (T61.setTop (mkF m 100 (own_F7 i j k1 q (i &&& (7 : Int32)) b46 s_RESOURCE z_61) [(.ref s_RESOURCE)])) _
            refine XS.ifnonnullYes X61.here hx rfl (pc0 := 100) (pc' := 117) rfl (hb hby at_100) rfl (by decide) (by decide) ?_
            show Steps p.tables e below (T61.setTop (mkF m 117 (own_F7 i j k1 q (i &&& (7 : Int32)) b46 s_RESOURCE z_61) [])) _
            refine XS.aload X61.here hx rfl (hb hby at_117) rfl rfl ?_
            show Steps p.tables e below (T61.setTop (mkF m 119 (own_F7 i j k1 q (i &&& (7 : Int32)) b46 s_RESOURCE z_61) [(.ref z_61)])) _
            refine st62.trans ?_
            show Steps p.tables e below (T62.setTop (mkF m 122 (own_F7 i j k1 q (i &&& (7 : Int32)) b46 s_RESOURCE z_61) [(.int (1 : Int32))])) _
            refine XS.ifNo X62.here hx rfl (hb hby at_122) rfl ((if0 _ _).trans (feq ((by decide) : ¬ ((1 : Int32) = (0 : Int32)))).1) ?_
            show Steps p.tables e below (T62.setTop (mkF m 125 (own_F7 i j k1 q (i &&& (7 : Int32)) b46 s_RESOURCE z_61) [])) _
            refine XS.aload X62.here hx rfl (hb hby at_125) rfl rfl ?_
            show Steps p.tables e below (T62.setTop (mkF m 127 (own_F7 i j k1 q (i &&& (7 : Int32)) b46 s_RESOURCE z_61) [(.ref z_61)])) _
            refine st63.trans ?_
            show Steps p.tables e below (T63.setTop (mkF m 130 (own_F7 i j k1 q (i &&& (7 : Int32)) b46 s_RESOURCE z_61) [(.ref s_RESOURCE)])) _
            refine XS.aload X63.here hx rfl (hb hby at_130) rfl rfl ?_
            show Steps p.tables e below (T63.setTop (mkF m 132 (own_F7 i j k1 q (i &&& (7 : Int32)) b46 s_RESOURCE z_61) [(.ref s_RESOURCE), (.ref s_RESOURCE)])) _
            refine Jvm.RoadKit.acmp (g := (mkF m 132 (own_F7 i j k1 q (i &&& (7 : Int32)) b46 s_RESOURCE z_61) [(.ref s_RESOURCE), (.ref s_RESOURCE)])) X63 hx rfl rfl rfl (pc0 := 132) (pc' := 135) (same := true) rfl (hb hby at_132) rfl (decide_eq_true rfl) (by decide) (by decide) ?_
            show Steps p.tables e below (T63.setTop (mkF m 135 (own_F7 i j k1 q (i &&& (7 : Int32)) b46 s_RESOURCE z_61) [])) _
            refine XS.iconst X63.here hx rfl (hb hby at_135) ?_
            show Steps p.tables e below (T63.setTop (mkF m 136 (own_F7 i j k1 q (i &&& (7 : Int32)) b46 s_RESOURCE z_61) [(.int (1 : Int32))])) _
            refine XS.goto X63.here hx rfl (pc0 := 136) (pc' := 140) rfl (hb hby at_136) (by decide) (by decide) ?_
            show Steps p.tables e below (T63.setTop (mkF m 140 (own_F7 i j k1 q (i &&& (7 : Int32)) b46 s_RESOURCE z_61) [(.int (1 : Int32))])) _
            exact k
          obtain ⟨fs, hr, hrun, hended, hE⟩ := Stand.leaveW (s := s) (vm₁ := T60.vm) X63 hS (by rw [eh63]; exact hk) (v := some (.int (1 : Int32))) (fun h => by rw [Bd.returns] at h; cases h)
          refine ⟨_, _, w64 _ ?_, hrun, hended, _, _, rfl, ?_, ?_, own_mono hE (by decide) (by decide)⟩
          · exact retN X63 hx (t := .boolean) Bd.returns (by simp) (hb hby at_140) hr
          · show Q0 Z i j k1 q kv u0 b0 kb0 u1 b1 kb1 u2 b2 kb2 zc s_VALUES s_RESPONSE s_REVISIT s_RESOURCE s_EMPTY h0 n0 _ T63.heap _
            rw [eh63]
            exact ⟨rfl, N63⟩
          · rw [hh]; show CHr Z consts_1 s.vm h0 T63.vm T63.heap; rw [eh63]; exact C.trans (CHv.at X63 hZ hEL C.1)
        · have wz := w49
          obtain ⟨_, _, ⟨T65, L65, k65, n65⟩, -, X65, sn65, gr65, ⟨Lc65, hQ65, l65, y65, z65, R65⟩, st65⟩ := callSS X48 hx (y := (⟨"com/example/rolling_ledger/rollingledger/model/CaptureKindOfWarcTypePinLaw", "expect", "(Ljava/lang/String;)Lcom/example/rolling_ledger/rollingledger/model/CaptureKind;"⟩ : MethodName)) hown (mvT hZ (hw _ (List.mem_of_getElem? (i := 34) rfl))) (mvT hZ (hw _ (List.mem_of_getElem? (i := 35) rfl))) (mvT hZ (hw _ (List.mem_of_getElem? (i := 2) rfl))) (mvT hZ (hw _ (List.mem_of_getElem? (i := 36) rfl))) (by decide) (backOfSH (W := 0) (rm8_3 l Z a0 hw [] b46 t48 kb48 cs45 zc T48.heap n0 O Ex48 Fv48 Fc48 Av48 hp45 (Nat.le_trans h9_b46.2 (by decide)) hw3 hw4 hw5 SC hzc) hZ (hw _ (List.mem_of_getElem? (i := 36) rfl)) (hw _ (List.mem_of_getElem? (i := 2) rfl)) (by decide) (by decide) hEL C.1) (g := (mkF m 79 (own_F11 i j k1 q (i &&& (7 : Int32)) b46 z_7 ((j &&& (2147483647 : Int32)) - (j &&& (2147483647 : Int32)) / (Int32.ofNat cs_7.length) * (Int32.ofNat cs_7.length))) [(.ref b46)])) rfl (by rw [hml]; rfl) (argsL := [(.ref b46)]) (rest := []) (lenOf pd__40Ljava_47lang_47String_59_41Lcom_47example_47rolling_ledger_47rollingledger_47model_47CaptureKind_59 rfl) rfl (by show 2 * 0 + _ ≤ _; exact Nat.le_of_eq rfl) (hb hby at_79) (fun _ _ => ⟨rfl, rfl, (by decide : 3 + 6 ≤ _), (by decide : 22 + 104 ≤ _)⟩)
          dsimp only [Pt.U, Pt.locs, Pt.cells, Pt.slots] at X65 l65 y65 z65 st65 hQ65 sn65 gr65 R65
          subst l65 y65 z65
          obtain ⟨X65, hS, hZ, hown⟩ := rebS hS (by exact hk) X65 sn65 gr65 hZ hown
          obtain ⟨rfl, N65q, K65⟩ := hQ65
          have N65 := Fr.app N48 N65q
          have R := R65
          have sf_b46 := R.safe Ex48.lt sf_b46
          have C := C.trans R
          have hk : T65.heap.size ≤ T65.heap.size := Nat.le_refl _
          have V_z_c7 := V_z_c7.keep K65 nin0
          have Ex48 := Ex48.keep K65
          have Fc48 := Fc48.keep K65 nin0
          have Fv48 := Fv48.keep K65 nin0
          have Av48 := Av48.keep K65 nin0
          have O := O.keep K65 all0
          obtain ⟨_, _, ⟨T66, L66, k66, n66⟩, -, X66, ⟨Lc66, hQ66, l66, y66, z66⟩, st66⟩ := Jvm.LawKit.callS X65 hx (y := (⟨"com/example/rolling_ledger/rollingledger/model/CaptureKind", "ofWarcType", "(Ljava/lang/String;)Ljava/util/Optional;"⟩ : MethodName)) hown (mvT hZ (hw _ (List.mem_of_getElem? (i := 53) rfl))) (mvT hZ (hw _ (List.mem_of_getElem? (i := 54) rfl))) (mvT hZ (hw _ (List.mem_of_getElem? (i := 51) rfl))) (mvT hZ (hw _ (List.mem_of_getElem? (i := 55) rfl))) (by decide) (backOf (W := 0) (rm11_3 l Z a0 hw [] b46 kv u0 b0 kb0 u1 b1 kb1 u2 b2 kb2 t48 kb48 cs45 zc s_VALUES s_RESPONSE s_REVISIT s_RESOURCE s_EMPTY T65.heap n0 O S_s_VALUES S_s_RESPONSE S_s_REVISIT S_s_RESOURCE S_s_EMPTY Ex48 Fv48 Fc48 Av48 hp45 (Nat.le_trans h9_b46.2 (by decide)) hw3 hw4 hw5 SC hzc (by assumption) (by assumption) (by assumption) (by assumption) (by assumption) (by assumption) (by assumption) (by assumption) (by assumption) (by assumption) (by assumption) (by assumption) (by assumption) (by assumption) (by assumption) (by assumption) (by assumption) (by assumption) (by assumption) (by assumption) (by assumption) (by assumption)) hZ (hw _ (List.mem_of_getElem? (i := 55) rfl)) (hw _ (List.mem_of_getElem? (i := 51) rfl)) (by decide) (by decide)) (g := (mkF m 86 (own_F12 i j k1 q (i &&& (7 : Int32)) b46 ((j &&& (2147483647 : Int32)) - (j &&& (2147483647 : Int32)) / (Int32.ofNat cs_7.length) * (Int32.ofNat cs_7.length))) [(.ref b46)])) rfl (by rw [hml]; rfl) (argsL := [(.ref b46)]) (rest := []) (lenOf pd__40Ljava_47lang_47String_59_41Ljava_47util_47Optional_59 rfl) rfl (by show 2 * 0 + _ ≤ _; exact Nat.le_of_eq rfl) (hb hby at_86) (fun _ _ => ⟨rfl, rfl, (by decide : 9 + 1 ≤ _), (by decide : 126 + 3 ≤ _)⟩)
          dsimp only [Pt.U, Pt.locs, Pt.cells, Pt.slots] at X66 l66 y66 z66 st66 hQ66
          subst l66 y66 z66
          obtain ⟨z_66, rfl, N66q, K66, E_z_c66, F_o_z_c66⟩ := hQ66
          have N66 := Fr.app N65 N66q
          have R := CHr.keep K66 all0 C.1
          have sf_b46 := R.safe Ex48.lt sf_b46
          have C := C.trans R
          have hk := Nat.le_trans hk K66.1
          have V_z_c7 := V_z_c7.keep K66 nin0
          have Ex48 := Ex48.keep K66
          have Fc48 := Fc48.keep K66 nin0
          have Fv48 := Fv48.keep K66 nin0
          have Av48 := Av48.keep K66 nin0
          have O := O.keep K66 all0
          obtain ⟨cq67, kq67, q67a, q67b, q67c⟩ := isOf hZ rfl E_z_c66
          obtain ⟨_, _, ⟨T67, L67, k67, n67⟩, -, X67, ⟨Lc67, hQ67, l67, y67, z67⟩, st67⟩ := X66.virtualBack hx (y := (⟨"java/util/Optional", "isPresent", "()Z"⟩ : MethodName)) (z := (⟨"java/util/Optional", "isPresent", "()Z"⟩ : MethodName)) hown (mvT hZ (hw _ (List.mem_of_getElem? (i := 93) rfl))) (mvT hZ (hw _ (List.mem_of_getElem? (i := 94) rfl))) (notFace_of_selects (args := #[]) (mvT hZ (hw _ (List.mem_of_getElem? (i := 96) rfl)))) (mvT hZ (hw _ (List.mem_of_getElem? (i := 96) rfl))) (mvT hZ (hw _ (List.mem_of_getElem? (i := 95) rfl))) (by decide) (backOf (W := 0) (rm16_n l Z a0 hw [] z_66 T66.heap n0 O F_o_z_c66) hZ (hw _ (List.mem_of_getElem? (i := 97) rfl)) (hw _ (List.mem_of_getElem? (i := 78) rfl)) (by decide) (by decide)) q67a q67c (g := (mkF m 105 (own_F9 i j k1 q (i &&& (7 : Int32)) b46 z_66) [(.ref z_66)])) rfl (by rw [hml]; rfl) (Steps.refl _) (argsL := []) (rest := []) (lenOf pd__40_41Z rfl) rfl (by show 2 * 0 + _ ≤ _; exact Nat.le_of_eq rfl) (hb hby at_105) (fun _ _ => ⟨rfl, rfl, (by decide : 10 + 0 ≤ _), (by decide : 129 + 0 ≤ _)⟩)
          dsimp only [Pt.U, Pt.locs, Pt.cells, Pt.slots] at X67 l67 y67 z67 st67 hQ67
          subst l67 y67 z67
          obtain ⟨rfl, N67q, eh67⟩ := hQ67
          have N67 := Fr.app N66 N67q
          have w68 : ∀ t, Steps p.tables e below (T67.setTop (mkF m 116 (own_F9 i j k1 q (i &&& (7 : Int32)) b46 z_66) [(.int (1 : Int32))])) t → Steps p.tables e below (s₁.setTop (entryFrame m #[(.int i), (.int j), (.int k1), (.long q)] maxLocals)) t := fun t k => by
            refine w49 t ?_
            refine XS.aload X48.here hx rfl (hb hby at_77) rfl rfl ?_
            show Steps p.tables e below (T48.setTop (mkF m 79 (own_F11 i j k1 q (i &&& (7 : Int32)) b46 z_7 ((j &&& (2147483647 : Int32)) - (j &&& (2147483647 : Int32)) / (Int32.ofNat cs_7.length) * (Int32.ofNat cs_7.length))) [(.ref b46)])) _
            refine st65.trans ?_
            show Steps p.tables e below (T65.setTop (mkF m 82 (own_F11 i j k1 q (i &&& (7 : Int32)) b46 z_7 ((j &&& (2147483647 : Int32)) - (j &&& (2147483647 : Int32)) / (Int32.ofNat cs_7.length) * (Int32.ofNat cs_7.length))) [.null])) _
            refine XS.astore X65.here hx rfl (hb hby at_82) rfl rfl (l' := (own_F12 i j k1 q (i &&& (7 : Int32)) b46 ((j &&& (2147483647 : Int32)) - (j &&& (2147483647 : Int32)) / (Int32.ofNat cs_7.length) * (Int32.ofNat cs_7.length)))) rfl ?_
            show Steps p.tables e below (T65.setTop (mkF m 84 (own_F12 i j k1 q (i &&& (7 : Int32)) b46 ((j &&& (2147483647 : Int32)) - (j &&& (2147483647 : Int32)) / (Int32.ofNat cs_7.length) * (Int32.ofNat cs_7.length))) [])) _
            refine XS.aload X65.here hx rfl (hb hby at_84) rfl rfl ?_
            show Steps p.tables e below (T65.setTop (mkF m 86 (own_F12 i j k1 q (i &&& (7 : Int32)) b46 ((j &&& (2147483647 : Int32)) - (j &&& (2147483647 : Int32)) / (Int32.ofNat cs_7.length) * (Int32.ofNat cs_7.length))) [(.ref b46)])) _
            refine st66 _ ?_
            show Steps p.tables e below (T66.setTop (mkF m 89 (own_F12 i j k1 q (i &&& (7 : Int32)) b46 ((j &&& (2147483647 : Int32)) - (j &&& (2147483647 : Int32)) / (Int32.ofNat cs_7.length) * (Int32.ofNat cs_7.length))) [(.ref z_66)])) _
            refine XS.astore X66.here hx rfl (hb hby at_89) rfl rfl (l' := (own_F9 i j k1 q (i &&& (7 : Int32)) b46 z_66)) rfl ?_
            show Steps p.tables e below (T66.setTop (mkF m 91 (own_F9 i j k1 q (i &&& (7 : Int32)) b46 z_66) [])) _
            refine XS.aload X66.here hx rfl (hb hby at_91) rfl rfl ?_
            show Steps p.tables e below (T66.setTop (mkF m 93 (own_F9 i j k1 q (i &&& (7 : Int32)) b46 z_66) [(.ref z_66)])) _
            refine XS.ifnonnullYes X66.here hx rfl (pc0 := 93) (pc' := 98) rfl (hb hby at_93) rfl (by decide) (by decide) ?_
            show Steps p.tables e below (T66.setTop (mkF m 98 (own_F9 i j k1 q (i &&& (7 : Int32)) b46 z_66) [])) _
            refine XS.aload X66.here hx rfl (hb hby at_98) rfl rfl ?_
            show Steps p.tables e below (T66.setTop (mkF m 100 (own_F9 i j k1 q (i &&& (7 : Int32)) b46 z_66) [.null])) _
            refine XS.ifnonnullNo X66.here hx rfl (hb hby at_100) rfl ?_
            show Steps p.tables e below (T66.setTop (mkF m 103 (own_F9 i j k1 q (i &&& (7 : Int32)) b46 z_66) [])) _
            refine XS.aload X66.here hx rfl (hb hby at_103) rfl rfl ?_
            show Steps p.tables e below (T66.setTop (mkF m 105 (own_F9 i j k1 q (i &&& (7 : Int32)) b46 z_66) [(.ref z_66)])) _
            refine st67.trans ?_
            show Steps p.tables e below (T67.setTop (mkF m 108 (own_F9 i j k1 q (i &&& (7 : Int32)) b46 z_66) [(.int (0 : Int32))])) _
            refine XS.ifNo X67.here hx rfl (hb hby at_108) rfl ((if0 _ _).trans (teq (rfl : (0 : Int32) = (0 : Int32))).2) ?_
            show Steps p.tables e below (T67.setTop (mkF m 111 (own_F9 i j k1 q (i &&& (7 : Int32)) b46 z_66) [])) _
            refine XS.iconst X67.here hx rfl (hb hby at_111) ?_
            show Steps p.tables e below (T67.setTop (mkF m 112 (own_F9 i j k1 q (i &&& (7 : Int32)) b46 z_66) [(.int (1 : Int32))])) _
            refine XS.goto X67.here hx rfl (pc0 := 112) (pc' := 116) rfl (hb hby at_112) (by decide) (by decide) ?_
            show Steps p.tables e below (T67.setTop (mkF m 116 (own_F9 i j k1 q (i &&& (7 : Int32)) b46 z_66) [(.int (1 : Int32))])) _
            exact k
          obtain ⟨fs, hr, hrun, hended, hE⟩ := Stand.leaveW (s := s) (vm₁ := T65.vm) X67 hS (by rw [eh67]; exact hk) (v := some (.int (1 : Int32))) (fun h => by rw [Bd.returns] at h; cases h)
          refine ⟨_, _, w68 _ ?_, hrun, hended, _, _, rfl, ?_, ?_, own_mono hE (by decide) (by decide)⟩
          · exact retN X67 hx (t := .boolean) Bd.returns (by simp) (hb hby at_116) hr
          · show Q0 Z i j k1 q kv u0 b0 kb0 u1 b1 kb1 u2 b2 kb2 zc s_VALUES s_RESPONSE s_REVISIT s_RESOURCE s_EMPTY h0 n0 _ T67.heap _
            rw [eh67]
            exact ⟨rfl, N67⟩
          · rw [hh]; show CHr Z consts_1 s.vm h0 T67.vm T67.heap; rw [eh67]; exact C.trans (CHv.at X67 hZ hEL C.1)
      · have w69 : ∀ t, Steps p.tables e below (T7.setTop (mkF m 66 (own_F5 i j k1 q (i &&& (7 : Int32)) z_7) [])) t → Steps p.tables e below (s₁.setTop (entryFrame m #[(.int i), (.int j), (.int k1), (.long q)] maxLocals)) t := fun t k => by
          refine w41 t ?_
          refine XS.ifYes X7.here hx rfl (pc0 := 39) (pc' := 66) rfl (hb hby at_39) rfl ((if0 _ _).trans (flt hc39_42).2.2.2) (by decide) (by decide) ?_
          show Steps p.tables e below (T7.setTop (mkF m 66 (own_F5 i j k1 q (i &&& (7 : Int32)) z_7) [])) _
          exact k
        have hnil := own_nil hl_7 hc39_42
        subst hnil
        obtain ⟨T70, h70, X70, e70, E70, A70, D70, -, st70⟩ := newO X7 hx hZ hown (hw _ (List.mem_of_getElem? (i := 5) rfl)) (hw _ (List.mem_of_getElem? (i := 6) rfl)) (hw _ (List.mem_of_getElem? (i := 7) rfl)) rfl (g := (mkF m 66 (own_F5 i j k1 q (i &&& (7 : Int32)) z_7) [])) rfl (hb hby at_66) (by decide) (by decide)
        obtain ⟨b70, gq70⟩ : ∃ z, z = Array.size T7.heap := ⟨_, rfl⟩
        rw [← gq70] at A70 D70 st70
        have ne_z_7_b70 : z_7 ≠ b70 := Nat.ne_of_lt (Nat.lt_of_lt_of_le V_z_c7.lt (Nat.le_of_eq gq70.symm))
        have g_b70 : n0 ≤ b70 := Nat.le_trans (O.1 ▸ O.2.1) (Nat.le_of_eq gq70.symm)
        have sf_b70 := own_safeN C.1 E70 (Nat.le_of_eq gq70.symm)
        have R := CHr.ext E70 C.1
        have C := C.trans R
        have hk := Nat.le_trans hk E70.1
        have V_z_c7 := V_z_c7.ext E70
        have O := O.ext E70
        have F_coder_b70 : Fld Z h70 b70 "java/lang/String" "coder" "B" (.int (0 : Int32)) := D70 (Or.inr (hw _ (List.mem_of_getElem? (i := 31) rfl))) (ty := .byte) (by decide)
        have F_value_b70 : Fld Z h70 b70 "java/lang/String" "value" "[B" .null := D70 (Or.inr (hw _ (List.mem_of_getElem? (i := 33) rfl))) (ty := (.array .byte)) (by decide)
        obtain ⟨_, _, ⟨T71, L71, k71, n71⟩, -, X71, sn71, gr71, ⟨Lc71, hQ71, l71, y71, z71, R71⟩, st71⟩ := X70.specialBackS hx (y := (⟨"java/lang/String", "<init>", "([C)V"⟩ : MethodName)) rfl hown (mvT hZ (hw _ (List.mem_of_getElem? (i := 8) rfl))) (mvT hZ (hw _ (List.mem_of_getElem? (i := 9) rfl))) (mvT hZ (hw _ (List.mem_of_getElem? (i := 10) rfl))) (by decide) (backOfSH (W := 1) (rm2_e l Z a0 hw [] b70 z_7 kz_7 h70 n0 O A70 F_value_b70 F_coder_b70 V_z_c7 g_b70) hZ (hw _ (List.mem_of_getElem? (i := 10) rfl)) (hw _ (List.mem_of_getElem? (i := 7) rfl)) (by decide) (by decide) hEL C.1) (g := (mkF m 72 (own_F5 i j k1 q (i &&& (7 : Int32)) z_7) [(.ref z_7), (.ref b70), (.ref b70)])) rfl (by rw [hml]; rfl) (Steps.refl _) (a := b70) (argsL := [(.ref z_7)]) (rest := [(.ref b70)]) (lenOf pd__40_91C_41V rfl) rfl (by show 2 * 0 + _ ≤ _; exact Nat.le_of_eq rfl) (hb hby at_72) (fun _ _ => ⟨rfl, e70, (by decide : 2 + 4 ≤ _), (by decide : 13 + 8 ≤ _)⟩)
        dsimp only [Pt.U, Pt.locs, Pt.cells, Pt.slots] at X71 l71 y71 z71 st71 hQ71 sn71 gr71 R71
        subst l71 y71 z71
        obtain ⟨X71, hS, hZ, hown⟩ := rebS hS (by rw [e70]; exact hk) X71 sn71 gr71 hZ hown
        obtain ⟨t1_71, kb_71, rfl, N71q, K71, F_v_a_c71, F_c_a_c71, V_t_c71⟩ := hQ71
        have N71 := Fr.app N7 N71q
        have R := R71
        have sf_b70 := R.safe A70.lt sf_b70
        have C := C.trans R
        have hk : T71.heap.size ≤ T71.heap.size := Nat.le_refl _
        have V_z_c7 := V_z_c7.keep K71 (ninS ne_z_7_b70 nin0)
        have A70 := A70.keep K71
        have O := O.keep K71 (allS g_b70 all0)
        obtain ⟨_, _, ⟨T72, L72, k72, n72⟩, -, X72, sn72, gr72, ⟨Lc72, hQ72, l72, y72, z72, R72⟩, st72⟩ := callSS X71 hx (y := (⟨"com/example/rolling_ledger/rollingledger/model/CaptureKindOfWarcTypePinLaw", "expect", "(Ljava/lang/String;)Lcom/example/rolling_ledger/rollingledger/model/CaptureKind;"⟩ : MethodName)) hown (mvT hZ (hw _ (List.mem_of_getElem? (i := 34) rfl))) (mvT hZ (hw _ (List.mem_of_getElem? (i := 35) rfl))) (mvT hZ (hw _ (List.mem_of_getElem? (i := 2) rfl))) (mvT hZ (hw _ (List.mem_of_getElem? (i := 36) rfl))) (by decide) (backOfSH (W := 0) (rm8_3 l Z a0 hw [] b70 t1_71 kb_71 ([] : List Int32) zc T71.heap n0 O A70 F_v_a_c71 F_c_a_c71 V_t_c71 own_hp0 (Nat.zero_le _) (by decide) (by decide) (by decide) SC hzc) hZ (hw _ (List.mem_of_getElem? (i := 36) rfl)) (hw _ (List.mem_of_getElem? (i := 2) rfl)) (by decide) (by decide) hEL C.1) (g := (mkF m 79 (own_F6 i j k1 q (i &&& (7 : Int32)) b70 z_7) [(.ref b70)])) rfl (by rw [hml]; rfl) (argsL := [(.ref b70)]) (rest := []) (lenOf pd__40Ljava_47lang_47String_59_41Lcom_47example_47rolling_ledger_47rollingledger_47model_47CaptureKind_59 rfl) rfl (by show 2 * 0 + _ ≤ _; exact Nat.le_of_eq rfl) (hb hby at_79) (fun _ _ => ⟨rfl, rfl, (by decide : 6 + 6 ≤ _), (by decide : 21 + 104 ≤ _)⟩)
        dsimp only [Pt.U, Pt.locs, Pt.cells, Pt.slots] at X72 l72 y72 z72 st72 hQ72 sn72 gr72 R72
        subst l72 y72 z72
        obtain ⟨X72, hS, hZ, hown⟩ := rebS hS (by exact hk) X72 sn72 gr72 hZ hown
        obtain ⟨rfl, N72q, K72⟩ := hQ72
        have N72 := Fr.app N71 N72q
        have R := R72
        have sf_b70 := R.safe A70.lt sf_b70
        have C := C.trans R
        have hk : T72.heap.size ≤ T72.heap.size := Nat.le_refl _
        have V_z_c7 := V_z_c7.keep K72 nin0
        have A70 := A70.keep K72
        have F_v_a_c71 := F_v_a_c71.keep K72 nin0
        have F_c_a_c71 := F_c_a_c71.keep K72 nin0
        have V_t_c71 := V_t_c71.keep K72 nin0
        have O := O.keep K72 all0
        obtain ⟨_, _, ⟨T73, L73, k73, n73⟩, -, X73, ⟨Lc73, hQ73, l73, y73, z73⟩, st73⟩ := Jvm.LawKit.callS X72 hx (y := (⟨"com/example/rolling_ledger/rollingledger/model/CaptureKind", "ofWarcType", "(Ljava/lang/String;)Ljava/util/Optional;"⟩ : MethodName)) hown (mvT hZ (hw _ (List.mem_of_getElem? (i := 53) rfl))) (mvT hZ (hw _ (List.mem_of_getElem? (i := 54) rfl))) (mvT hZ (hw _ (List.mem_of_getElem? (i := 51) rfl))) (mvT hZ (hw _ (List.mem_of_getElem? (i := 55) rfl))) (by decide) (backOf (W := 0) (rm11_3 l Z a0 hw [] b70 kv u0 b0 kb0 u1 b1 kb1 u2 b2 kb2 t1_71 kb_71 ([] : List Int32) zc s_VALUES s_RESPONSE s_REVISIT s_RESOURCE s_EMPTY T72.heap n0 O S_s_VALUES S_s_RESPONSE S_s_REVISIT S_s_RESOURCE S_s_EMPTY A70 F_v_a_c71 F_c_a_c71 V_t_c71 own_hp0 (Nat.zero_le _) (by decide) (by decide) (by decide) SC hzc (by assumption) (by assumption) (by assumption) (by assumption) (by assumption) (by assumption) (by assumption) (by assumption) (by assumption) (by assumption) (by assumption) (by assumption) (by assumption) (by assumption) (by assumption) (by assumption) (by assumption) (by assumption) (by assumption) (by assumption) (by assumption) (by assumption)) hZ (hw _ (List.mem_of_getElem? (i := 55) rfl)) (hw _ (List.mem_of_getElem? (i := 51) rfl)) (by decide) (by decide)) (g := (mkF m 86 (own_F8 i j k1 q (i &&& (7 : Int32)) b70) [(.ref b70)])) rfl (by rw [hml]; rfl) (argsL := [(.ref b70)]) (rest := []) (lenOf pd__40Ljava_47lang_47String_59_41Ljava_47util_47Optional_59 rfl) rfl (by show 2 * 0 + _ ≤ _; exact Nat.le_of_eq rfl) (hb hby at_86) (fun _ _ => ⟨rfl, rfl, (by decide : 12 + 1 ≤ _), (by decide : 125 + 3 ≤ _)⟩)
        dsimp only [Pt.U, Pt.locs, Pt.cells, Pt.slots] at X73 l73 y73 z73 st73 hQ73
        subst l73 y73 z73
        obtain ⟨z_73, rfl, N73q, K73, E_z_c73, F_o_z_c73⟩ := hQ73
        have N73 := Fr.app N72 N73q
        have R := CHr.keep K73 all0 C.1
        have sf_b70 := R.safe A70.lt sf_b70
        have C := C.trans R
        have hk := Nat.le_trans hk K73.1
        have V_z_c7 := V_z_c7.keep K73 nin0
        have A70 := A70.keep K73
        have F_v_a_c71 := F_v_a_c71.keep K73 nin0
        have F_c_a_c71 := F_c_a_c71.keep K73 nin0
        have V_t_c71 := V_t_c71.keep K73 nin0
        have O := O.keep K73 all0
        obtain ⟨cq74, kq74, q74a, q74b, q74c⟩ := isOf hZ rfl E_z_c73
        obtain ⟨_, _, ⟨T74, L74, k74, n74⟩, -, X74, ⟨Lc74, hQ74, l74, y74, z74⟩, st74⟩ := X73.virtualBack hx (y := (⟨"java/util/Optional", "isPresent", "()Z"⟩ : MethodName)) (z := (⟨"java/util/Optional", "isPresent", "()Z"⟩ : MethodName)) hown (mvT hZ (hw _ (List.mem_of_getElem? (i := 93) rfl))) (mvT hZ (hw _ (List.mem_of_getElem? (i := 94) rfl))) (notFace_of_selects (args := #[]) (mvT hZ (hw _ (List.mem_of_getElem? (i := 96) rfl)))) (mvT hZ (hw _ (List.mem_of_getElem? (i := 96) rfl))) (mvT hZ (hw _ (List.mem_of_getElem? (i := 95) rfl))) (by decide) (backOf (W := 0) (rm16_n l Z a0 hw [] z_73 T73.heap n0 O F_o_z_c73) hZ (hw _ (List.mem_of_getElem? (i := 97) rfl)) (hw _ (List.mem_of_getElem? (i := 78) rfl)) (by decide) (by decide)) q74a q74c (g := (mkF m 105 (own_F9 i j k1 q (i &&& (7 : Int32)) b70 z_73) [(.ref z_73)])) rfl (by rw [hml]; rfl) (Steps.refl _) (argsL := []) (rest := []) (lenOf pd__40_41Z rfl) rfl (by show 2 * 0 + _ ≤ _; exact Nat.le_of_eq rfl) (hb hby at_105) (fun _ _ => ⟨rfl, rfl, (by decide : 13 + 0 ≤ _), (by decide : 128 + 0 ≤ _)⟩)
        dsimp only [Pt.U, Pt.locs, Pt.cells, Pt.slots] at X74 l74 y74 z74 st74 hQ74
        subst l74 y74 z74
        obtain ⟨rfl, N74q, eh74⟩ := hQ74
        have N74 := Fr.app N73 N74q
        have w75 : ∀ t, Steps p.tables e below (T74.setTop (mkF m 116 (own_F9 i j k1 q (i &&& (7 : Int32)) b70 z_73) [(.int (1 : Int32))])) t → Steps p.tables e below (s₁.setTop (entryFrame m #[(.int i), (.int j), (.int k1), (.long q)] maxLocals)) t := fun t k => by
          refine w69 t ?_
          refine st70 _ ?_
          show Steps p.tables e below (T70.setTop (mkF m 69 (own_F5 i j k1 q (i &&& (7 : Int32)) z_7) [(.ref b70)])) _
          refine XS.dup X70.here hx rfl (hb hby at_69) rfl rfl ?_
          show Steps p.tables e below (T70.setTop (mkF m 70 (own_F5 i j k1 q (i &&& (7 : Int32)) z_7) [(.ref b70), (.ref b70)])) _
          refine XS.aload X70.here hx rfl (hb hby at_70) rfl rfl ?_
          show Steps p.tables e below (T70.setTop (mkF m 72 (own_F5 i j k1 q (i &&& (7 : Int32)) z_7) [(.ref z_7), (.ref b70), (.ref b70)])) _
          refine st71.trans ?_
          show Steps p.tables e below (T71.setTop (mkF m 75 (own_F5 i j k1 q (i &&& (7 : Int32)) z_7) [(.ref b70)])) _
          refine XS.astore X71.here hx rfl (hb hby at_75) rfl rfl (l' := (own_F6 i j k1 q (i &&& (7 : Int32)) b70 z_7)) rfl ?_
          show Steps p.tables e below (T71.setTop (mkF m 77 (own_F6 i j k1 q (i &&& (7 : Int32)) b70 z_7) [])) _
          refine XS.aload X71.here hx rfl (hb hby at_77) rfl rfl ?_
          show Steps p.tables e below (T71.setTop (mkF m 79 (own_F6 i j k1 q (i &&& (7 : Int32)) b70 z_7) [(.ref b70)])) _
          refine st72.trans ?_
          show Steps p.tables e below (T72.setTop (mkF m 82 (own_F6 i j k1 q (i &&& (7 : Int32)) b70 z_7) [.null])) _
          refine XS.astore X72.here hx rfl (hb hby at_82) rfl rfl (l' := (own_F8 i j k1 q (i &&& (7 : Int32)) b70)) rfl ?_
          show Steps p.tables e below (T72.setTop (mkF m 84 (own_F8 i j k1 q (i &&& (7 : Int32)) b70) [])) _
          refine XS.aload X72.here hx rfl (hb hby at_84) rfl rfl ?_
          show Steps p.tables e below (T72.setTop (mkF m 86 (own_F8 i j k1 q (i &&& (7 : Int32)) b70) [(.ref b70)])) _
          refine st73 _ ?_
          show Steps p.tables e below (T73.setTop (mkF m 89 (own_F8 i j k1 q (i &&& (7 : Int32)) b70) [(.ref z_73)])) _
          refine XS.astore X73.here hx rfl (hb hby at_89) rfl rfl (l' := (own_F9 i j k1 q (i &&& (7 : Int32)) b70 z_73)) rfl ?_
          show Steps p.tables e below (T73.setTop (mkF m 91 (own_F9 i j k1 q (i &&& (7 : Int32)) b70 z_73) [])) _
          refine XS.aload X73.here hx rfl (hb hby at_91) rfl rfl ?_
          show Steps p.tables e below (T73.setTop (mkF m 93 (own_F9 i j k1 q (i &&& (7 : Int32)) b70 z_73) [(.ref z_73)])) _
          refine XS.ifnonnullYes X73.here hx rfl (pc0 := 93) (pc' := 98) rfl (hb hby at_93) rfl (by decide) (by decide) ?_
          show Steps p.tables e below (T73.setTop (mkF m 98 (own_F9 i j k1 q (i &&& (7 : Int32)) b70 z_73) [])) _
          refine XS.aload X73.here hx rfl (hb hby at_98) rfl rfl ?_
          show Steps p.tables e below (T73.setTop (mkF m 100 (own_F9 i j k1 q (i &&& (7 : Int32)) b70 z_73) [.null])) _
          refine XS.ifnonnullNo X73.here hx rfl (hb hby at_100) rfl ?_
          show Steps p.tables e below (T73.setTop (mkF m 103 (own_F9 i j k1 q (i &&& (7 : Int32)) b70 z_73) [])) _
          refine XS.aload X73.here hx rfl (hb hby at_103) rfl rfl ?_
          show Steps p.tables e below (T73.setTop (mkF m 105 (own_F9 i j k1 q (i &&& (7 : Int32)) b70 z_73) [(.ref z_73)])) _
          refine st74.trans ?_
          show Steps p.tables e below (T74.setTop (mkF m 108 (own_F9 i j k1 q (i &&& (7 : Int32)) b70 z_73) [(.int (0 : Int32))])) _
          refine XS.ifNo X74.here hx rfl (hb hby at_108) rfl ((if0 _ _).trans (teq (rfl : (0 : Int32) = (0 : Int32))).2) ?_
          show Steps p.tables e below (T74.setTop (mkF m 111 (own_F9 i j k1 q (i &&& (7 : Int32)) b70 z_73) [])) _
          refine XS.iconst X74.here hx rfl (hb hby at_111) ?_
          show Steps p.tables e below (T74.setTop (mkF m 112 (own_F9 i j k1 q (i &&& (7 : Int32)) b70 z_73) [(.int (1 : Int32))])) _
          refine XS.goto X74.here hx rfl (pc0 := 112) (pc' := 116) rfl (hb hby at_112) (by decide) (by decide) ?_
          show Steps p.tables e below (T74.setTop (mkF m 116 (own_F9 i j k1 q (i &&& (7 : Int32)) b70 z_73) [(.int (1 : Int32))])) _
          exact k
        obtain ⟨fs, hr, hrun, hended, hE⟩ := Stand.leaveW (s := s) (vm₁ := T72.vm) X74 hS (by rw [eh74]; exact hk) (v := some (.int (1 : Int32))) (fun h => by rw [Bd.returns] at h; cases h)
        refine ⟨_, _, w75 _ ?_, hrun, hended, _, _, rfl, ?_, ?_, own_mono hE (by decide) (by decide)⟩
        · exact retN X74 hx (t := .boolean) Bd.returns (by simp) (hb hby at_116) hr
        · show Q0 Z i j k1 q kv u0 b0 kb0 u1 b1 kb1 u2 b2 kb2 zc s_VALUES s_RESPONSE s_REVISIT s_RESOURCE s_EMPTY h0 n0 _ T74.heap _
          rw [eh74]
          exact ⟨rfl, N74⟩
        · rw [hh]; show CHr Z consts_1 s.vm h0 T74.vm T74.heap; rw [eh74]; exact C.trans (CHv.at X74 hZ hEL C.1)
set_option maxRecDepth 65536 in
set_option maxHeartbeats 40000000 in
theorem comes_1 {Post : Tables → Env → Array Value → State → Outcome → State → Prop} (hpost : ∀ tb e args s v u, (limb_1_1.after args s (.returned v) u = true ∧ limb_1_2.after args s (.returned v) u = true ∧ True) → ReturnedEndW s (.returned v) u (Jvm.fieldLocs frame_1_writes args s ++ Jvm.arrayLocs frame_1_arrays args s ++ Jvm.staticLocs frame_1_statics s) 32 4288 → Post tb e args s (.returned v) u) :
    ArmFor flags0 classFile x code maxLocals ret World_1 tables_1 room_1 Calls_1 rest_1 Pre_1 Post := by
  intro l hfl _ _ p e ha hc hk s m args below hf hA hF happ hP
  obtain ⟨hcalls, hrest, hpre⟩ := hP
  obtain ⟨-, -, -, hnamed, -, -, -, hat⟩ := (Spec.applies_iff hf).mp happ
  obtain ⟨hg, hn⟩ := and_e (Cond.before_iff.mp (show (Jvm.Cond.and given_1 narrow_1).before args s = true from hpre))
  obtain ⟨g1, g2⟩ := and_e hg
  obtain ⟨g3, g4⟩ := and_e g2
  obtain ⟨g5, g6⟩ := and_e g4
  obtain ⟨g7, g8⟩ := and_e g6
  obtain ⟨g9, g10⟩ := and_e hn
  obtain ⟨g11, g12⟩ := and_e g10
  obtain ⟨g13, g14⟩ := and_e g12
  obtain ⟨g15, g16⟩ := and_e g14
  obtain ⟨g17, g18⟩ := and_e g16
  obtain ⟨g19, g20⟩ := and_e g18
  obtain ⟨g21, g22⟩ := and_e g20
  obtain ⟨g23, g24⟩ := and_e g22
  obtain ⟨g25, g26⟩ := and_e g24
  obtain ⟨g27, g28⟩ := and_e g26
  obtain ⟨g29, g30⟩ := and_e g28
  obtain ⟨g31, g32⟩ := and_e g30
  obtain ⟨g33, g34⟩ := and_e g32
  obtain ⟨g35, g36⟩ := and_e g34
  obtain ⟨g37, g38⟩ := and_e g36
  obtain ⟨g39, g40⟩ := and_e g38
  obtain ⟨g41, g42⟩ := and_e g40
  obtain ⟨g43, g44⟩ := and_e g42
  obtain ⟨g45, g46⟩ := and_e g44
  obtain ⟨g47, g48⟩ := and_e g46
  obtain ⟨g49, g50⟩ := and_e g48
  obtain ⟨g51, g52⟩ := and_e g50
  obtain ⟨g53, g54⟩ := and_e g52
  obtain ⟨g55, g56⟩ := and_e g54
  obtain ⟨g57, g58⟩ := and_e g56
  obtain ⟨g59, g60⟩ := and_e g58
  obtain ⟨g61, g62⟩ := and_e g60
  obtain ⟨g63, g64⟩ := and_e g62
  obtain ⟨g65, g66⟩ := and_e g64
  obtain ⟨g67, g68⟩ := and_e g66
  obtain ⟨g69, g70⟩ := and_e g68
  obtain ⟨g71, g72⟩ := and_e g70
  obtain ⟨g73, g74⟩ := and_e g72
  obtain ⟨g75, g76⟩ := and_e g74
  obtain ⟨g77, g78⟩ := and_e g76
  obtain ⟨g79, g80⟩ := and_e g78
  obtain ⟨g81, g82⟩ := and_e g80
  obtain ⟨g83, g84⟩ := and_e g82
  obtain ⟨g85, g86⟩ := and_e g84
  obtain ⟨g87, g88⟩ := and_e g86
  obtain ⟨g89, g90⟩ := and_e g88
  obtain ⟨g91, g92⟩ := and_e g90
  obtain ⟨g93, g94⟩ := and_e g92
  obtain ⟨w0, w1, w2, w3, rfl⟩ : ∃ w0 w1 w2 w3 : Value, args = #[w0, w1, w2, w3] := by
    have hs : args.size = 4 := by simpa [Cond.value, given_1] using g1
    obtain ⟨L⟩ := args
    match L, hs with
    | [w0, w1, w2, w3], _ => exact ⟨w0, w1, w2, w3, rfl⟩
  have hw := fun d (hd : d ∈ tables_1) => atoms_spec (ws := Jvm.Cond.code x code maxLocals ret :: tables_1) hat d (List.mem_cons_of_mem _ hd)
  have hfit : Fit s := fun {y c} hc i hi => by
    obtain ⟨ha, rfl⟩ := Array.getElem?_eq_some_iff.mp hc
    have q := List.all_eq_true.mp ((Array.all_eq_true_iff_forall_mem.mp hF) _ (Array.getElem_mem ha)) i (List.mem_range.mpr hi)
    simpa [Array.getElem?_eq_getElem hi] using q
  obtain ⟨hsets, hown0⟩ := atoms_of _ (rest_1_c_eq ▸ (show rest_1_c.before _ s = true from hrest))
  have hr0 := Cond.before_iff.mp hown0
  obtain ⟨i0, ei0⟩ := is_v g3
  obtain rfl : w0 = (.int i0) := Option.some.inj ei0
  obtain ⟨i1, ei1⟩ := is_v g5
  obtain rfl : w1 = (.int i1) := Option.some.inj ei1
  obtain ⟨i2, ei2⟩ := is_v g7
  obtain rfl : w2 = (.int i2) := Option.some.inj ei2
  obtain ⟨i3, ei3⟩ := isL_v g8
  obtain rfl : w3 = (.long i3) := Option.some.inj ei3
  obtain ⟨zc, evc⟩ := is_v (Cond.before_iff.mp (hsets _ (List.mem_of_getElem? (i := 1) rfl)))
  have SC : Sta s s.heap "java/lang/String" "COMPACT_STRINGS" "Z" (.int zc) := Sta.start evc (Or.inl (hsets _ (List.mem_of_getElem? (i := 0) rfl)))
  have hzc : ¬ zc = 0 := gotF (Cond.eq_ints evc (Term.int_eval 0)) (not_v (Cond.before_iff.mp (hsets _ (List.mem_of_getElem? (i := 2) rfl))))
  obtain ⟨s_EMPTY, ev_E⟩ := exa_v (Cond.before_iff.mp (hsets _ (List.mem_of_getElem? (i := 11) rfl)))
  have o_E_s_EMPTY := Exa.start ev_E (Cond.before_iff.mp (hsets _ (List.mem_of_getElem? (i := 11) rfl)))
  have S_s_EMPTY : Sta s s.heap "java/util/Optional" "EMPTY" "Ljava/util/Optional;" (.ref s_EMPTY) := Sta.start ev_E (Or.inl (hsets _ (List.mem_of_getElem? (i := 10) rfl)))
  have o_F_o_s_EMPTY : Fld s s.heap s_EMPTY "java/util/Optional" "value" "Ljava/lang/Object;" .null := Fld.start (own_fld ev_E null_at (Cond.before_iff.mp (hsets _ (List.mem_of_getElem? (i := 12) rfl))))
  obtain ⟨s_RESPONSE, ev_s_RESPONSE⟩ := exa_v g9
  have S_s_RESPONSE : Sta s s.heap "com/example/rolling_ledger/rollingledger/model/CaptureKind" "RESPONSE" "Lcom/example/rolling_ledger/rollingledger/model/CaptureKind;" (.ref s_RESPONSE) := Sta.start ev_s_RESPONSE (Or.inr ⟨(hw _ (List.mem_of_getElem? (i := 51) rfl)), (hw _ (List.mem_of_getElem? (i := 52) rfl))⟩)
  have o_E_s_RESPONSE : Exa s s.heap s_RESPONSE "com/example/rolling_ledger/rollingledger/model/CaptureKind" := Exa.start ev_s_RESPONSE g9
  obtain ⟨s_VALUES, ev_s_VALUES⟩ := arr_v g11
  have S_s_VALUES : Sta s s.heap "com/example/rolling_ledger/rollingledger/model/CaptureKind" "$VALUES" "[Lcom/example/rolling_ledger/rollingledger/model/CaptureKind;" (.ref s_VALUES) := Sta.start ev_s_VALUES (Or.inr ⟨(hw _ (List.mem_of_getElem? (i := 51) rfl)), (hw _ (List.mem_of_getElem? (i := 60) rfl))⟩)
  obtain ⟨cl_s_VALUES, A_s_VALUES⟩ := Arr.start ev_s_VALUES g11
  have o_E_s_VALUES : Exa s s.heap s_VALUES "[Lcom/example/rolling_ledger/rollingledger/model/CaptureKind;" := Exa.start ev_s_VALUES g13
  obtain ⟨u_s_VALUES, t_s_VALUES⟩ := Jvm.Free.IntBox.length_fwd (Cond.before_iff.mpr g15) ev_s_VALUES A_s_VALUES.1 A_s_VALUES.2.1 A_s_VALUES.2.2
  obtain ⟨s_REVISIT, ev_s_REVISIT⟩ := exa_v g19
  have S_s_REVISIT : Sta s s.heap "com/example/rolling_ledger/rollingledger/model/CaptureKind" "REVISIT" "Lcom/example/rolling_ledger/rollingledger/model/CaptureKind;" (.ref s_REVISIT) := Sta.start ev_s_REVISIT (Or.inr ⟨(hw _ (List.mem_of_getElem? (i := 51) rfl)), (hw _ (List.mem_of_getElem? (i := 68) rfl))⟩)
  have o_E_s_REVISIT : Exa s s.heap s_REVISIT "com/example/rolling_ledger/rollingledger/model/CaptureKind" := Exa.start ev_s_REVISIT g19
  obtain ⟨s_RESOURCE, ev_s_RESOURCE⟩ := exa_v g23
  have S_s_RESOURCE : Sta s s.heap "com/example/rolling_ledger/rollingledger/model/CaptureKind" "RESOURCE" "Lcom/example/rolling_ledger/rollingledger/model/CaptureKind;" (.ref s_RESOURCE) := Sta.start ev_s_RESOURCE (Or.inr ⟨(hw _ (List.mem_of_getElem? (i := 51) rfl)), (hw _ (List.mem_of_getElem? (i := 69) rfl))⟩)
  have o_E_s_RESOURCE : Exa s s.heap s_RESOURCE "com/example/rolling_ledger/rollingledger/model/CaptureKind" := Exa.start ev_s_RESOURCE g23
  obtain ⟨u0, ev_u0⟩ := exa_v g27
  have o_F_warcType_s_RESPONSE : Fld s s.heap s_RESPONSE "com/example/rolling_ledger/rollingledger/model/CaptureKind" "warcType" "Ljava/lang/String;" (.ref u0) := Fld.start ((fld_at ev_s_RESPONSE).symm.trans ev_u0)
  have o_E_u0 : Exa s s.heap u0 "java/lang/String" := Exa.start ev_u0 g27
  have o_F_coder_u0 : Fld s s.heap u0 "java/lang/String" "coder" "B" (.int (0 : Int32)) := Fld.start ((fld_at ev_u0).symm.trans (own_eqv (Term.int_eval (0)) g29))
  obtain ⟨b0, ev_b0⟩ := arr_v g31
  have o_F_value_u0 : Fld s s.heap u0 "java/lang/String" "value" "[B" (.ref b0) := Fld.start ((fld_at ev_u0).symm.trans ev_b0)
  obtain ⟨cl_b0, A_b0⟩ := Arr.start ev_b0 g31
  obtain ⟨u_b0, t_b0⟩ := Jvm.Free.IntBox.length_fwd (Cond.before_iff.mpr g33) ev_b0 A_b0.1 A_b0.2.1 A_b0.2.2
  obtain ⟨u1, ev_u1⟩ := exa_v g35
  have o_F_warcType_s_REVISIT : Fld s s.heap s_REVISIT "com/example/rolling_ledger/rollingledger/model/CaptureKind" "warcType" "Ljava/lang/String;" (.ref u1) := Fld.start ((fld_at ev_s_REVISIT).symm.trans ev_u1)
  have o_E_u1 : Exa s s.heap u1 "java/lang/String" := Exa.start ev_u1 g35
  have o_F_coder_u1 : Fld s s.heap u1 "java/lang/String" "coder" "B" (.int (0 : Int32)) := Fld.start ((fld_at ev_u1).symm.trans (own_eqv (Term.int_eval (0)) g37))
  obtain ⟨b1, ev_b1⟩ := arr_v g39
  have o_F_value_u1 : Fld s s.heap u1 "java/lang/String" "value" "[B" (.ref b1) := Fld.start ((fld_at ev_u1).symm.trans ev_b1)
  obtain ⟨cl_b1, A_b1⟩ := Arr.start ev_b1 g39
  obtain ⟨u_b1, t_b1⟩ := Jvm.Free.IntBox.length_fwd (Cond.before_iff.mpr g41) ev_b1 A_b1.1 A_b1.2.1 A_b1.2.2
  obtain ⟨u2, ev_u2⟩ := exa_v g43
  have o_F_warcType_s_RESOURCE : Fld s s.heap s_RESOURCE "com/example/rolling_ledger/rollingledger/model/CaptureKind" "warcType" "Ljava/lang/String;" (.ref u2) := Fld.start ((fld_at ev_s_RESOURCE).symm.trans ev_u2)
  have o_E_u2 : Exa s s.heap u2 "java/lang/String" := Exa.start ev_u2 g43
  have o_F_coder_u2 : Fld s s.heap u2 "java/lang/String" "coder" "B" (.int (0 : Int32)) := Fld.start ((fld_at ev_u2).symm.trans (own_eqv (Term.int_eval (0)) g45))
  obtain ⟨b2, ev_b2⟩ := arr_v g47
  have o_F_value_u2 : Fld s s.heap u2 "java/lang/String" "value" "[B" (.ref b2) := Fld.start ((fld_at ev_u2).symm.trans ev_b2)
  obtain ⟨cl_b2, A_b2⟩ := Arr.start ev_b2 g47
  obtain ⟨u_b2, t_b2⟩ := Jvm.Free.IntBox.length_fwd (Cond.before_iff.mpr g49) ev_b2 A_b2.1 A_b2.2.1 A_b2.2.2
  have el_s_VALUES_0 : cl_s_VALUES.slots[0]? = some (.ref s_RESPONSE) := (elem_in (own_eqv ev_s_RESPONSE g17) ev_s_VALUES (Term.int_eval (0)) A_s_VALUES.1).2
  have el_s_VALUES_1 : cl_s_VALUES.slots[1]? = some (.ref s_REVISIT) := (elem_in (own_eqv ev_s_REVISIT g21) ev_s_VALUES (Term.int_eval (1)) A_s_VALUES.1).2
  have el_s_VALUES_2 : cl_s_VALUES.slots[2]? = some (.ref s_RESOURCE) := (elem_in (own_eqv ev_s_RESOURCE g25) ev_s_VALUES (Term.int_eval (2)) A_s_VALUES.1).2
  obtain ⟨kv, hk_s_VALUES⟩ : ∃ k, k = cl_s_VALUES.cls := ⟨_, rfl⟩
  have o_V_s_VALUES : Arv s s.heap s_VALUES kv (Jvm.ClassFile.FieldType.object "com/example/rolling_ledger/rollingledger/model/CaptureKind") (3 : Int32) [(.ref s_RESPONSE), (.ref s_REVISIT), (.ref s_RESOURCE)] .null := by rw [hk_s_VALUES]; exact Arv.start hfit A_s_VALUES u_s_VALUES t_s_VALUES (by decide) rfl ⟨el_s_VALUES_0, el_s_VALUES_1, el_s_VALUES_2, trivial⟩
  have el_b0_0 : cl_b0.slots[0]? = some (.int (114 : Int32)) := (elem_in (own_eqv (Term.int_eval (114)) g51) ev_b0 (Term.int_eval (0)) A_b0.1).2
  have el_b0_1 : cl_b0.slots[1]? = some (.int (101 : Int32)) := (elem_in (own_eqv (Term.int_eval (101)) g53) ev_b0 (Term.int_eval (1)) A_b0.1).2
  have el_b0_2 : cl_b0.slots[2]? = some (.int (115 : Int32)) := (elem_in (own_eqv (Term.int_eval (115)) g55) ev_b0 (Term.int_eval (2)) A_b0.1).2
  have el_b0_3 : cl_b0.slots[3]? = some (.int (112 : Int32)) := (elem_in (own_eqv (Term.int_eval (112)) g57) ev_b0 (Term.int_eval (3)) A_b0.1).2
  have el_b0_4 : cl_b0.slots[4]? = some (.int (111 : Int32)) := (elem_in (own_eqv (Term.int_eval (111)) g59) ev_b0 (Term.int_eval (4)) A_b0.1).2
  have el_b0_5 : cl_b0.slots[5]? = some (.int (110 : Int32)) := (elem_in (own_eqv (Term.int_eval (110)) g61) ev_b0 (Term.int_eval (5)) A_b0.1).2
  have el_b0_6 : cl_b0.slots[6]? = some (.int (115 : Int32)) := (elem_in (own_eqv (Term.int_eval (115)) g63) ev_b0 (Term.int_eval (6)) A_b0.1).2
  have el_b0_7 : cl_b0.slots[7]? = some (.int (101 : Int32)) := (elem_in (own_eqv (Term.int_eval (101)) g65) ev_b0 (Term.int_eval (7)) A_b0.1).2
  obtain ⟨kb0, hk_b0⟩ : ∃ k, k = cl_b0.cls := ⟨_, rfl⟩
  have o_V_b0 : Arv s s.heap b0 kb0 Jvm.ClassFile.FieldType.byte (8 : Int32) [(.int (114 : Int32)), (.int (101 : Int32)), (.int (115 : Int32)), (.int (112 : Int32)), (.int (111 : Int32)), (.int (110 : Int32)), (.int (115 : Int32)), (.int (101 : Int32))] (.int (0 : Int32)) := by rw [hk_b0]; exact Arv.start hfit A_b0 u_b0 t_b0 (by decide) rfl ⟨el_b0_0, el_b0_1, el_b0_2, el_b0_3, el_b0_4, el_b0_5, el_b0_6, el_b0_7, trivial⟩
  have el_b1_0 : cl_b1.slots[0]? = some (.int (114 : Int32)) := (elem_in (own_eqv (Term.int_eval (114)) g67) ev_b1 (Term.int_eval (0)) A_b1.1).2
  have el_b1_1 : cl_b1.slots[1]? = some (.int (101 : Int32)) := (elem_in (own_eqv (Term.int_eval (101)) g69) ev_b1 (Term.int_eval (1)) A_b1.1).2
  have el_b1_2 : cl_b1.slots[2]? = some (.int (118 : Int32)) := (elem_in (own_eqv (Term.int_eval (118)) g71) ev_b1 (Term.int_eval (2)) A_b1.1).2
  have el_b1_3 : cl_b1.slots[3]? = some (.int (105 : Int32)) := (elem_in (own_eqv (Term.int_eval (105)) g73) ev_b1 (Term.int_eval (3)) A_b1.1).2
  have el_b1_4 : cl_b1.slots[4]? = some (.int (115 : Int32)) := (elem_in (own_eqv (Term.int_eval (115)) g75) ev_b1 (Term.int_eval (4)) A_b1.1).2
  have el_b1_5 : cl_b1.slots[5]? = some (.int (105 : Int32)) := (elem_in (own_eqv (Term.int_eval (105)) g77) ev_b1 (Term.int_eval (5)) A_b1.1).2
  have el_b1_6 : cl_b1.slots[6]? = some (.int (116 : Int32)) := (elem_in (own_eqv (Term.int_eval (116)) g79) ev_b1 (Term.int_eval (6)) A_b1.1).2
  obtain ⟨kb1, hk_b1⟩ : ∃ k, k = cl_b1.cls := ⟨_, rfl⟩
  have o_V_b1 : Arv s s.heap b1 kb1 Jvm.ClassFile.FieldType.byte (7 : Int32) [(.int (114 : Int32)), (.int (101 : Int32)), (.int (118 : Int32)), (.int (105 : Int32)), (.int (115 : Int32)), (.int (105 : Int32)), (.int (116 : Int32))] (.int (0 : Int32)) := by rw [hk_b1]; exact Arv.start hfit A_b1 u_b1 t_b1 (by decide) rfl ⟨el_b1_0, el_b1_1, el_b1_2, el_b1_3, el_b1_4, el_b1_5, el_b1_6, trivial⟩
  have el_b2_0 : cl_b2.slots[0]? = some (.int (114 : Int32)) := (elem_in (own_eqv (Term.int_eval (114)) g81) ev_b2 (Term.int_eval (0)) A_b2.1).2
  have el_b2_1 : cl_b2.slots[1]? = some (.int (101 : Int32)) := (elem_in (own_eqv (Term.int_eval (101)) g83) ev_b2 (Term.int_eval (1)) A_b2.1).2
  have el_b2_2 : cl_b2.slots[2]? = some (.int (115 : Int32)) := (elem_in (own_eqv (Term.int_eval (115)) g85) ev_b2 (Term.int_eval (2)) A_b2.1).2
  have el_b2_3 : cl_b2.slots[3]? = some (.int (111 : Int32)) := (elem_in (own_eqv (Term.int_eval (111)) g87) ev_b2 (Term.int_eval (3)) A_b2.1).2
  have el_b2_4 : cl_b2.slots[4]? = some (.int (117 : Int32)) := (elem_in (own_eqv (Term.int_eval (117)) g89) ev_b2 (Term.int_eval (4)) A_b2.1).2
  have el_b2_5 : cl_b2.slots[5]? = some (.int (114 : Int32)) := (elem_in (own_eqv (Term.int_eval (114)) g91) ev_b2 (Term.int_eval (5)) A_b2.1).2
  have el_b2_6 : cl_b2.slots[6]? = some (.int (99 : Int32)) := (elem_in (own_eqv (Term.int_eval (99)) g93) ev_b2 (Term.int_eval (6)) A_b2.1).2
  have el_b2_7 : cl_b2.slots[7]? = some (.int (101 : Int32)) := (elem_in (own_eqv (Term.int_eval (101)) g94) ev_b2 (Term.int_eval (7)) A_b2.1).2
  obtain ⟨kb2, hk_b2⟩ : ∃ k, k = cl_b2.cls := ⟨_, rfl⟩
  have o_V_b2 : Arv s s.heap b2 kb2 Jvm.ClassFile.FieldType.byte (8 : Int32) [(.int (114 : Int32)), (.int (101 : Int32)), (.int (115 : Int32)), (.int (111 : Int32)), (.int (117 : Int32)), (.int (114 : Int32)), (.int (99 : Int32)), (.int (101 : Int32))] (.int (0 : Int32)) := by rw [hk_b2]; exact Arv.start hfit A_b2 u_b2 t_b2 (by decide) rfl ⟨el_b2_0, el_b2_1, el_b2_2, el_b2_3, el_b2_4, el_b2_5, el_b2_6, el_b2_7, trivial⟩
  have H0 : CHv s consts_1 s.vm s.heap := CHv.start (own_EW hw) hcalls.1 (hsets _ (List.mem_of_getElem? (i := 2) rfl)) (hw _ (List.mem_of_getElem? (i := 23) rfl)) (hw _ (List.mem_of_getElem? (i := 6) rfl))
  obtain ⟨n, o, h1, h2, h3, _, L, rfl, ⟨rfl, N⟩, -, hq⟩ := rm0 l s _ hw tables_1 i0 i1 i2 i3 kv u0 b0 kb0 u1 b1 kb1 u2 b2 kb2 zc s_VALUES s_RESPONSE s_REVISIT s_RESOURCE s_EMPTY s.heap s.heap.size (Old.start s) S_s_VALUES S_s_RESPONSE S_s_REVISIT S_s_RESOURCE S_s_EMPTY o_E_s_VALUES o_V_s_VALUES o_E_s_EMPTY o_F_o_s_EMPTY o_E_s_RESPONSE o_F_warcType_s_RESPONSE o_E_u0 o_F_coder_u0 o_F_value_u0 o_V_b0 o_E_s_REVISIT o_F_warcType_s_REVISIT o_E_u1 o_F_coder_u1 o_F_value_u1 o_V_b1 o_E_s_RESOURCE o_F_warcType_s_RESOURCE o_E_u2 o_F_coder_u2 o_F_value_u2 o_V_b2 SC hzc p e ha hc hk s m _ below hf ((Spec.applies_iff_loose hf).mp happ).1 ⟨rfl, State.Warmed39.refl s, rfl, H0⟩ trivial
  refine ⟨n, _, h1, h2, h3, hpost _ _ _ _ _ _ ⟨Cond.after_iff.mpr rfl, Cond.after_iff.mpr (eq_i res_at (Term.int_eval (1)) rfl), trivial⟩ ⟨hq.1, hq.2.1, hq.2.2.1, (hq.2.2.2.sift fun y hy => Or.inr (N y hy)).mono (by decide) (by decide)⟩⟩
theorem main_1_1 : Claimed_1_1 := comes_1 fun _ _ _ _ _ _ h hF => ⟨h.1, hF⟩
theorem main_1_2 : Claimed_1_2 := comes_1 fun _ _ _ _ _ _ h hF => ⟨h.2.1, hF⟩
end Jvm.Pilot.@@N@@
namespace Jvm.Pilot.@@N@@
open Jvm Jvm.ClassFile Sem Op Lib Jvm.Free Jvm.Stand Jvm.Pilot.@@N@@.Jvm.D
/-! MADE BY PROGRAM (witnessworld.py) out of the Statement's table words and the real class files: 24 classes; the members and pool entries that the words name. The judged class is class 1, her method 1. -/
namespace start1
open Jvm.ClassFile
def u (s : String) : CpInfo := .utf8 (stringToUtf16 s)
/-- a pool by its gaps: so many unusable entries, then the entry; so many at the end -/
def gap : Nat → List CpInfo → List CpInfo
  | 0, r => r
  | n + 1, r => .unusable :: gap n r
def poolList (es : List (Nat × CpInfo)) (last : Nat) : List CpInfo := es.foldr (fun e r => gap e.1 (e.2 :: r)) (gap last [])
def pool (es : List (Nat × CpInfo)) (last : Nat) : Array CpInfo := ⟨poolList es last⟩
def fileOf (pool : Array CpInfo) (this : Nat) (attrs : Array Attribute := #[]) (ms : Array MethodInfo := #[]) (fl : Nat := 33) (sup : Nat := 0) (ifs : Array Nat := #[]) (fds : Array FieldInfo := #[]) : ClassFile where
  minorVersion := 0
  majorVersion := 65
  constantPool := pool
  accessFlags := fl
  thisClass := this
  superClass := sup
  interfaces := ifs
  fields := fds
  methods := ms
  attributes := attrs
def plain (name : String) (sup : Option ClassId) : Class where
  name := name
  kind := .ordinary
  loader := none
  accessFlags := 33
  super := sup
  interfaces := #[]
  cf := none
  fields := #[]
  methods := #[]
  instanceTypes := #[]
  staticTypes := #[]
  resolved := #[]
  callSites := []
  init := .initialized
  statics := none
  mirror := none

def pool0 : Array CpInfo := pool [(5, u "<init>"), (0, u "()V"), (1, .class_ 10), (1, u "java/lang/Object"), (85, u "clone"), (0, u "()Ljava/lang/Object;")] 26

def k0c0 : Code := { maxStack := 0, maxLocals := 1, code := object_method_1_code, exceptionTable := #[], attributes := #[] }
def k0m0 : Method := { name := "<init>", desc := "()V", sig := { parameters := [], returnType := none }, accessFlags := 1, code := some k0c0 }
def k0m1 : Method := { name := "clone", desc := "()Ljava/lang/Object;", sig := { parameters := [], returnType := some (.object "java/lang/Object") }, accessFlags := 260, code := none }
/-- java/lang/Object -/
def k0 : Class := { plain "java/lang/Object" none with
  accessFlags := 33
  interfaces := #[]
  cf := some (fileOf pool0 8 #[] #[{ accessFlags := 1, nameIndex := 5, descriptorIndex := 6, attributes := #[] }, { accessFlags := 260, nameIndex := 96, descriptorIndex := 97, attributes := #[] }] 33 0 #[] #[])
  fields := #[]
  methods := #[k0m0, k0m1]
  instanceTypes := #[]
  staticTypes := #[]
  resolved := Array.replicate 124 none
  statics := none }

def pool1 : Array CpInfo := pool [(2, .class_ 4), (1, u "java/lang/Object"), (0, u "<init>"), (0, u "()V"), (0, .methodref 8 9), (0, .class_ 10), (0, .nameAndType 11 12), (0, u "com/example/rolling_ledger/rollingledger/model/CaptureKindOfWarcTypePinLaw"), (0, u "base"), (0, u "(IJI)[C"), (0, .integer 2147483647), (0, .class_ 15), (0, u "java/lang/String"), (0, .methodref 14 17), (0, .nameAndType 5 18), (0, u "([C)V"), (0, .methodref 8 20), (0, .nameAndType 21 22), (0, u "expect"), (0, u "(Ljava/lang/String;)Lcom/example/rolling_ledger/rollingledger/model/CaptureKind;"), (0, .methodref 24 25), (0, .class_ 26), (0, .nameAndType 27 28), (0, u "com/example/rolling_ledger/rollingledger/model/CaptureKind"), (0, u "ofWarcType"), (0, u "(Ljava/lang/String;)Ljava/util/Optional;"), (0, .methodref 30 31), (0, .class_ 32), (0, .nameAndType 33 34), (0, u "java/util/Optional"), (0, u "isPresent"), (0, u "()Z"), (0, .methodref 30 36), (0, .nameAndType 37 38), (0, u "get"), (0, u "()Ljava/lang/Object;"), (0, .string 40), (0, u "response"), (0, .methodref 14 42), (0, .nameAndType 43 44), (0, u "equals"), (0, u "(Ljava/lang/Object;)Z"), (0, .fieldref 24 46), (0, .nameAndType 47 48), (0, u "RESPONSE"), (0, u "Lcom/example/rolling_ledger/rollingledger/model/CaptureKind;"), (0, .string 50), (0, u "revisit"), (0, .fieldref 24 52), (0, .nameAndType 53 48), (0, u "REVISIT"), (0, .string 55), (0, u "resource"), (0, .fieldref 24 57), (0, .nameAndType 58 48), (0, u "RESOURCE"), (0, .long 255), (3, u "law"), (0, u "(IIIJ)Z")] 5

def k1m0 : Method := { name := "<init>", desc := "()V", sig := { parameters := [], returnType := none }, accessFlags := 1, code := none }
def k1c1 : Code := { maxStack := 4, maxLocals := 9, code := code, exceptionTable := #[], attributes := #[] }
def k1m1 : Method := { name := "law", desc := "(IIIJ)Z", sig := { parameters := [.int, .int, .int, .long], returnType := some .boolean }, accessFlags := 9, code := some k1c1 }
def k1c2 : Code := { maxStack := 2, maxLocals := 1, code := method_3_code, exceptionTable := #[], attributes := #[] }
def k1m2 : Method := { name := "expect", desc := "(Ljava/lang/String;)Lcom/example/rolling_ledger/rollingledger/model/CaptureKind;", sig := { parameters := [(.object "java/lang/String")], returnType := some (.object "com/example/rolling_ledger/rollingledger/model/CaptureKind") }, accessFlags := 10, code := some k1c2 }
def k1c3 : Code := { maxStack := 7, maxLocals := 4, code := method_4_code, exceptionTable := #[], attributes := #[] }
def k1m3 : Method := { name := "base", desc := "(IJI)[C", sig := { parameters := [.int, .long, .int], returnType := some (.array .char) }, accessFlags := 10, code := some k1c3 }
/-- com/example/rolling_ledger/rollingledger/model/CaptureKindOfWarcTypePinLaw -/
def k1 : Class := { plain "com/example/rolling_ledger/rollingledger/model/CaptureKindOfWarcTypePinLaw" (some 0) with
  accessFlags := 49
  interfaces := #[]
  cf := some (fileOf pool1 8 #[] #[{ accessFlags := 1, nameIndex := 5, descriptorIndex := 6, attributes := #[] }, { accessFlags := 9, nameIndex := 63, descriptorIndex := 64, attributes := #[] }, { accessFlags := 10, nameIndex := 21, descriptorIndex := 22, attributes := #[] }, { accessFlags := 10, nameIndex := 11, descriptorIndex := 12, attributes := #[] }] 49 2 #[] #[])
  fields := #[]
  methods := #[k1m0, k1m1, k1m2, k1m3]
  instanceTypes := #[]
  staticTypes := #[]
  resolved := Array.replicate 70 none
  statics := none }

def pool2 : Array CpInfo := pool [(1, .class_ 2), (0, u "java/io/Serializable"), (0, .class_ 4), (0, u "java/lang/Object")] 2

/-- java/io/Serializable -/
def k2 : Class := { plain "java/io/Serializable" (some 0) with
  accessFlags := 1537
  interfaces := #[]
  cf := some (fileOf pool2 1 #[] #[] 1537 3 #[] #[])
  fields := #[]
  methods := #[]
  instanceTypes := #[]
  staticTypes := #[]
  resolved := Array.replicate 7 none
  statics := none }

def pool3 : Array CpInfo := pool [(1, .class_ 2), (0, u "java/lang/Comparable"), (0, .class_ 4), (0, u "java/lang/Object")] 7

/-- java/lang/Comparable -/
def k3 : Class := { plain "java/lang/Comparable" (some 0) with
  accessFlags := 1537
  interfaces := #[]
  cf := some (fileOf pool3 1 #[] #[] 1537 3 #[] #[])
  fields := #[]
  methods := #[]
  instanceTypes := #[]
  staticTypes := #[]
  resolved := Array.replicate 12 none
  statics := none }

def pool4 : Array CpInfo := pool [(2, .class_ 4), (1, u "java/lang/CharSequence"), (42, .class_ 48), (0, u "java/lang/CharSequence$1CodePointIterator"), (10, .class_ 60), (0, u "java/lang/CharSequence$1CharIterator"), (5, .class_ 67), (0, u "java/lang/Object")] 63

/-- java/lang/CharSequence -/
def k4 : Class := { plain "java/lang/CharSequence" (some 0) with
  accessFlags := 1537
  interfaces := #[]
  cf := some (fileOf pool4 2 #[.nestMembers #[47, 59]] #[] 1537 66 #[] #[])
  fields := #[]
  methods := #[]
  instanceTypes := #[]
  staticTypes := #[]
  resolved := Array.replicate 131 none
  statics := none }

def pool5 : Array CpInfo := pool [(1, .class_ 2), (0, u "java/lang/constant/Constable"), (0, .class_ 4), (0, u "java/lang/Object")] 6

/-- java/lang/constant/Constable -/
def k5 : Class := { plain "java/lang/constant/Constable" (some 0) with
  accessFlags := 1537
  interfaces := #[]
  cf := some (fileOf pool5 1 #[] #[] 1537 3 #[] #[])
  fields := #[]
  methods := #[]
  instanceTypes := #[]
  staticTypes := #[]
  resolved := Array.replicate 11 none
  statics := none }

def pool6 : Array CpInfo := pool [(1, .class_ 2), (0, u "java/lang/constant/ConstantDesc"), (0, .class_ 4), (0, u "java/lang/Object")] 32

/-- java/lang/constant/ConstantDesc -/
def k6 : Class := { plain "java/lang/constant/ConstantDesc" (some 0) with
  accessFlags := 1537
  interfaces := #[]
  cf := some (fileOf pool6 1 #[] #[] 1537 3 #[] #[])
  fields := #[]
  methods := #[]
  instanceTypes := #[]
  staticTypes := #[]
  resolved := Array.replicate 37 none
  statics := none }

def pool7 : Array CpInfo := pool [(1, .methodref 2 3), (0, .class_ 4), (0, .nameAndType 5 6), (0, u "java/lang/Object"), (0, u "<init>"), (0, u "()V"), (0, .string 8), (0, u ""), (0, .fieldref 10 11), (0, .class_ 12), (0, .nameAndType 13 14), (0, u "java/lang/String"), (0, u "value"), (0, u "[B"), (0, .fieldref 10 16), (0, .nameAndType 17 18), (0, u "coder"), (0, u "B"), (2, u "hash"), (0, u "I"), (2, u "hashIsZero"), (0, u "Z"), (0, .methodref 10 28), (0, .nameAndType 5 29), (0, u "([CIILjava/lang/Void;)V"), (8, .fieldref 10 39), (0, .nameAndType 40 26), (0, u "COMPACT_STRINGS"), (1, .class_ 44), (1, u "java/lang/StringUTF16"), (0, u "compress"), (1, .methodref 42 48), (0, .nameAndType 49 50), (0, u "coderFromArrayLen"), (0, u "([BI)B"), (56, .class_ 109), (1, u "java/lang/StringLatin1"), (67, .methodref 42 178), (0, .nameAndType 45 179), (0, u "([CII)[B"), (361, .methodref 107 542), (0, .nameAndType 543 544), (0, u "equals"), (0, u "([B[B)Z"), (28, u "(Ljava/lang/Object;)Z"), (1, .class_ 576), (0, u "java/lang/CharSequence"), (22, u "CASE_INSENSITIVE_ORDER"), (0, u "Ljava/util/Comparator;"), (409, u "([C)V"), (90, u "serialPersistentFields"), (0, u "[Ljava/io/ObjectStreamField;"), (0, .class_ 1104), (0, u "java/lang/String$CaseInsensitiveComparator"), (1, .class_ 1107), (0, u "java/io/Serializable"), (0, .class_ 1109), (0, u "java/lang/Comparable"), (0, .class_ 1111), (0, u "java/lang/constant/Constable"), (0, .class_ 1113), (0, u "java/lang/constant/ConstantDesc"), (2, u "serialVersionUID"), (0, u "J"), (3, u "REPL"), (0, u "C"), (2, u "LATIN1"), (1, u "UTF16")] 323

def k7m0 : Method := { name := "<init>", desc := "()V", sig := { parameters := [], returnType := none }, accessFlags := 1, code := none }
def k7c1 : Code := { maxStack := 5, maxLocals := 2, code := jdk_42_method_3_code, exceptionTable := #[], attributes := #[] }
def k7m1 : Method := { name := "<init>", desc := "([C)V", sig := { parameters := [(.array .char)], returnType := none }, accessFlags := 1, code := some k7c1 }
def k7c2 : Code := { maxStack := 2, maxLocals := 3, code := jdk_42_method_66_code, exceptionTable := #[], attributes := #[] }
def k7m2 : Method := { name := "equals", desc := "(Ljava/lang/Object;)Z", sig := { parameters := [(.object "java/lang/Object")], returnType := some .boolean }, accessFlags := 1, code := some k7c2 }
def k7c3 : Code := { maxStack := 4, maxLocals := 6, code := jdk_42_method_149_code, exceptionTable := #[], attributes := #[] }
def k7m3 : Method := { name := "<init>", desc := "([CIILjava/lang/Void;)V", sig := { parameters := [(.array .char), .int, .int, (.object "java/lang/Void")], returnType := none }, accessFlags := 2, code := some k7c3 }
/-- java/lang/String -/
def k7 : Class := { plain "java/lang/String" (some 0) with
  accessFlags := 49
  interfaces := #[2, 3, 4, 5, 6]
  cf := some (fileOf pool7 10 #[.nestMembers #[1103]] #[{ accessFlags := 1, nameIndex := 5, descriptorIndex := 6, attributes := #[] }, { accessFlags := 1, nameIndex := 5, descriptorIndex := 1010, attributes := #[] }, { accessFlags := 1, nameIndex := 543, descriptorIndex := 573, attributes := #[] }, { accessFlags := 2, nameIndex := 5, descriptorIndex := 29, attributes := #[] }] 49 2 #[1106, 1108, 575, 1110, 1112] #[{ accessFlags := 18, nameIndex := 13, descriptorIndex := 14, attributes := #[] }, { accessFlags := 18, nameIndex := 17, descriptorIndex := 18, attributes := #[] }, { accessFlags := 2, nameIndex := 21, descriptorIndex := 22, attributes := #[] }, { accessFlags := 2, nameIndex := 25, descriptorIndex := 26, attributes := #[] }, { accessFlags := 26, nameIndex := 1116, descriptorIndex := 1117, attributes := #[] }, { accessFlags := 24, nameIndex := 40, descriptorIndex := 26, attributes := #[] }, { accessFlags := 26, nameIndex := 1101, descriptorIndex := 1102, attributes := #[] }, { accessFlags := 26, nameIndex := 1121, descriptorIndex := 1122, attributes := #[] }, { accessFlags := 25, nameIndex := 599, descriptorIndex := 600, attributes := #[] }, { accessFlags := 24, nameIndex := 1125, descriptorIndex := 18, attributes := #[] }, { accessFlags := 24, nameIndex := 1127, descriptorIndex := 18, attributes := #[] }])
  fields := #[{ name := "value", type := (.array .byte), accessFlags := 18, slot := 0, constantValue := 0 }, { name := "coder", type := .byte, accessFlags := 18, slot := 1, constantValue := 0 }, { name := "hash", type := .int, accessFlags := 2, slot := 2, constantValue := 0 }, { name := "hashIsZero", type := .boolean, accessFlags := 2, slot := 3, constantValue := 0 }, { name := "serialVersionUID", type := .long, accessFlags := 26, slot := 0, constantValue := 0 }, { name := "COMPACT_STRINGS", type := .boolean, accessFlags := 24, slot := 1, constantValue := 0 }, { name := "serialPersistentFields", type := (.array (.object "java/io/ObjectStreamField")), accessFlags := 26, slot := 2, constantValue := 0 }, { name := "REPL", type := .char, accessFlags := 26, slot := 3, constantValue := 0 }, { name := "CASE_INSENSITIVE_ORDER", type := (.object "java/util/Comparator"), accessFlags := 25, slot := 4, constantValue := 0 }, { name := "LATIN1", type := .byte, accessFlags := 24, slot := 5, constantValue := 0 }, { name := "UTF16", type := .byte, accessFlags := 24, slot := 6, constantValue := 0 }]
  methods := #[k7m0, k7m1, k7m2, k7m3]
  instanceTypes := #[(.array .byte), .byte, .int, .boolean]
  staticTypes := #[.long, .boolean, (.array (.object "java/io/ObjectStreamField")), .char, (.object "java/util/Comparator"), .byte, .byte]
  resolved := Array.replicate 1451 none
  statics := some 0 }

def pool8 : Array CpInfo := pool [(6, .class_ 8), (1, u "java/lang/Object"), (0, u "<init>"), (0, u "()V"), (1, .class_ 14), (1, u "java/lang/StringUTF16"), (31, u "$assertionsDisabled"), (0, u "Z"), (13, u "HI_BYTE_SHIFT"), (0, u "I"), (2, u "LO_BYTE_SHIFT"), (49, .methodref 12 116), (0, .nameAndType 117 118), (0, u "compress"), (0, u "([CI[BII)I"), (3, u "([CII)[B"), (138, u "coderFromArrayLen"), (0, u "([BI)B"), (106, .class_ 371), (1, u "java/lang/StringUTF16$LinesSpliterator"), (58, u "MAX_LENGTH"), (196, .class_ 628), (0, u "java/lang/StringUTF16$CodePointsSpliterator"), (0, .class_ 630), (0, u "java/lang/StringUTF16$CharsSpliterator")] 4

def k8m0 : Method := { name := "<init>", desc := "()V", sig := { parameters := [], returnType := none }, accessFlags := 0, code := none }
def k8c1 : Code := { maxStack := 2, maxLocals := 2, code := jdk_52_method_15_code, exceptionTable := #[], attributes := #[] }
def k8m1 : Method := { name := "coderFromArrayLen", desc := "([BI)B", sig := { parameters := [(.array .byte), .int], returnType := some .byte }, accessFlags := 8, code := some k8c1 }
def k8c2 : Code := { maxStack := 5, maxLocals := 6, code := jdk_52_method_16_code, exceptionTable := #[], attributes := #[] }
def k8m2 : Method := { name := "compress", desc := "([CII)[B", sig := { parameters := [(.array .char), .int, .int], returnType := some (.array .byte) }, accessFlags := 9, code := some k8c2 }
def k8c3 : Code := { maxStack := 3, maxLocals := 7, code := jdk_52_method_21_code, exceptionTable := #[], attributes := #[] }
def k8m3 : Method := { name := "compress", desc := "([CI[BII)I", sig := { parameters := [(.array .char), .int, (.array .byte), .int, .int], returnType := some .int }, accessFlags := 9, code := some k8c3 }
/-- java/lang/StringUTF16 -/
def k8 : Class := { plain "java/lang/StringUTF16" (some 0) with
  accessFlags := 48
  interfaces := #[]
  cf := some (fileOf pool8 12 #[.nestMembers #[627, 629, 369]] #[{ accessFlags := 0, nameIndex := 9, descriptorIndex := 10, attributes := #[] }, { accessFlags := 8, nameIndex := 261, descriptorIndex := 262, attributes := #[] }, { accessFlags := 9, nameIndex := 117, descriptorIndex := 122, attributes := #[] }, { accessFlags := 9, nameIndex := 117, descriptorIndex := 118, attributes := #[] }] 48 6 #[] #[{ accessFlags := 26, nameIndex := 61, descriptorIndex := 62, attributes := #[] }, { accessFlags := 26, nameIndex := 65, descriptorIndex := 62, attributes := #[] }, { accessFlags := 24, nameIndex := 430, descriptorIndex := 62, attributes := #[] }, { accessFlags := 4120, nameIndex := 46, descriptorIndex := 47, attributes := #[] }])
  fields := #[{ name := "HI_BYTE_SHIFT", type := .int, accessFlags := 26, slot := 0, constantValue := 0 }, { name := "LO_BYTE_SHIFT", type := .int, accessFlags := 26, slot := 1, constantValue := 0 }, { name := "MAX_LENGTH", type := .int, accessFlags := 24, slot := 2, constantValue := 0 }, { name := "$assertionsDisabled", type := .boolean, accessFlags := 4120, slot := 3, constantValue := 0 }]
  methods := #[k8m0, k8m1, k8m2, k8m3]
  instanceTypes := #[]
  staticTypes := #[.int, .int, .int, .boolean]
  resolved := Array.replicate 635 none
  statics := none }

def pool9 : Array CpInfo := pool [(4, .class_ 6), (1, u "java/lang/Object"), (0, u "<init>"), (0, u "()V"), (5, .class_ 16), (1, u "java/lang/StringLatin1"), (104, u "$assertionsDisabled"), (0, u "Z"), (98, .class_ 223), (1, u "java/lang/StringLatin1$LinesSpliterator"), (57, u "equals"), (0, u "([B[B)Z"), (107, .class_ 391), (0, u "java/lang/StringLatin1$CharsSpliterator")] 3

def k9m0 : Method := { name := "<init>", desc := "()V", sig := { parameters := [], returnType := none }, accessFlags := 0, code := none }
def k9c1 : Code := { maxStack := 3, maxLocals := 3, code := jdk_43_method_13_code, exceptionTable := #[], attributes := #[] }
def k9m1 : Method := { name := "equals", desc := "([B[B)Z", sig := { parameters := [(.array .byte), (.array .byte)], returnType := some .boolean }, accessFlags := 9, code := some k9c1 }
/-- java/lang/StringLatin1 -/
def k9 : Class := { plain "java/lang/StringLatin1" (some 0) with
  accessFlags := 48
  interfaces := #[]
  cf := some (fileOf pool9 14 #[.nestMembers #[390, 221]] #[{ accessFlags := 0, nameIndex := 7, descriptorIndex := 8, attributes := #[] }, { accessFlags := 9, nameIndex := 281, descriptorIndex := 282, attributes := #[] }] 48 4 #[] #[{ accessFlags := 4120, nameIndex := 121, descriptorIndex := 122, attributes := #[] }])
  fields := #[{ name := "$assertionsDisabled", type := .boolean, accessFlags := 4120, slot := 0, constantValue := 0 }]
  methods := #[k9m0, k9m1]
  instanceTypes := #[]
  staticTypes := #[.boolean]
  resolved := Array.replicate 395 none
  statics := none }

def pool10 : Array CpInfo := pool [(2, .class_ 4), (1, u "java/lang/Enum"), (0, u "name"), (0, u "Ljava/lang/String;"), (2, u "ordinal"), (0, u "I"), (1, .class_ 14), (1, u "java/lang/Object"), (4, u "hash"), (86, .class_ 108), (1, u "java/lang/Enum$EnumDesc"), (2, .class_ 112), (0, u "java/lang/constant/Constable"), (0, .class_ 114), (0, u "java/lang/Comparable"), (0, .class_ 116), (0, u "java/io/Serializable")] 87

/-- java/lang/Enum -/
def k10 : Class := { plain "java/lang/Enum" (some 0) with
  accessFlags := 1057
  interfaces := #[5, 3, 2]
  cf := some (fileOf pool10 2 #[.nestMembers #[106]] #[] 1057 12 #[111, 113, 115] #[{ accessFlags := 18, nameIndex := 5, descriptorIndex := 6, attributes := #[] }, { accessFlags := 18, nameIndex := 9, descriptorIndex := 10, attributes := #[] }, { accessFlags := 2, nameIndex := 19, descriptorIndex := 10, attributes := #[] }])
  fields := #[{ name := "name", type := (.object "java/lang/String"), accessFlags := 18, slot := 0, constantValue := 0 }, { name := "ordinal", type := .int, accessFlags := 18, slot := 1, constantValue := 0 }, { name := "hash", type := .int, accessFlags := 2, slot := 2, constantValue := 0 }]
  methods := #[]
  instanceTypes := #[(.object "java/lang/String"), .int, .int]
  staticTypes := #[]
  resolved := Array.replicate 204 none
  statics := none }

def pool11 : Array CpInfo := pool [(1, .class_ 2), (0, u "com/example/rolling_ledger/rollingledger/model/CaptureKind"), (2, u "RESPONSE"), (0, u "Lcom/example/rolling_ledger/rollingledger/model/CaptureKind;"), (2, u "REVISIT"), (2, u "RESOURCE"), (0, .fieldref 1 14), (0, .nameAndType 15 16), (0, u "$VALUES"), (0, u "[Lcom/example/rolling_ledger/rollingledger/model/CaptureKind;"), (0, .methodref 18 19), (0, .class_ 16), (0, .nameAndType 20 21), (0, u "clone"), (0, u "()Ljava/lang/Object;"), (1, .class_ 25), (1, u "java/lang/Enum"), (6, .fieldref 1 33), (0, .nameAndType 34 35), (0, u "warcType"), (0, u "Ljava/lang/String;"), (0, .methodref 1 37), (0, .nameAndType 38 39), (0, u "values"), (0, u "()[Lcom/example/rolling_ledger/rollingledger/model/CaptureKind;"), (0, .methodref 41 42), (0, .class_ 43), (0, .nameAndType 44 45), (0, u "java/lang/String"), (0, u "equals"), (0, u "(Ljava/lang/Object;)Z"), (0, .methodref 47 48), (0, .class_ 49), (0, .nameAndType 50 51), (0, u "java/util/Optional"), (0, u "of"), (0, u "(Ljava/lang/Object;)Ljava/util/Optional;"), (0, .methodref 47 53), (0, .nameAndType 54 55), (0, u "empty"), (0, u "()Ljava/util/Optional;"), (21, u "ofWarcType"), (0, u "(Ljava/lang/String;)Ljava/util/Optional;")] 9

def k11c0 : Code := { maxStack := 1, maxLocals := 0, code := prog_6_method_1_code, exceptionTable := #[], attributes := #[] }
def k11m0 : Method := { name := "values", desc := "()[Lcom/example/rolling_ledger/rollingledger/model/CaptureKind;", sig := { parameters := [], returnType := some (.array (.object "com/example/rolling_ledger/rollingledger/model/CaptureKind")) }, accessFlags := 9, code := some k11c0 }
def k11c1 : Code := { maxStack := 2, maxLocals := 5, code := prog_6_method_4_code, exceptionTable := #[], attributes := #[] }
def k11m1 : Method := { name := "ofWarcType", desc := "(Ljava/lang/String;)Ljava/util/Optional;", sig := { parameters := [(.object "java/lang/String")], returnType := some (.object "java/util/Optional") }, accessFlags := 9, code := some k11c1 }
/-- com/example/rolling_ledger/rollingledger/model/CaptureKind -/
def k11 : Class := { plain "com/example/rolling_ledger/rollingledger/model/CaptureKind" (some 10) with
  accessFlags := 16433
  interfaces := #[]
  cf := some (fileOf pool11 1 #[] #[{ accessFlags := 9, nameIndex := 38, descriptorIndex := 39, attributes := #[] }, { accessFlags := 9, nameIndex := 77, descriptorIndex := 78, attributes := #[] }] 16433 23 #[] #[{ accessFlags := 16409, nameIndex := 5, descriptorIndex := 6, attributes := #[] }, { accessFlags := 16409, nameIndex := 9, descriptorIndex := 6, attributes := #[] }, { accessFlags := 16409, nameIndex := 12, descriptorIndex := 6, attributes := #[] }, { accessFlags := 18, nameIndex := 34, descriptorIndex := 35, attributes := #[] }, { accessFlags := 4122, nameIndex := 15, descriptorIndex := 16, attributes := #[] }])
  fields := #[{ name := "RESPONSE", type := (.object "com/example/rolling_ledger/rollingledger/model/CaptureKind"), accessFlags := 16409, slot := 0, constantValue := 0 }, { name := "REVISIT", type := (.object "com/example/rolling_ledger/rollingledger/model/CaptureKind"), accessFlags := 16409, slot := 1, constantValue := 0 }, { name := "RESOURCE", type := (.object "com/example/rolling_ledger/rollingledger/model/CaptureKind"), accessFlags := 16409, slot := 2, constantValue := 0 }, { name := "warcType", type := (.object "java/lang/String"), accessFlags := 18, slot := 3, constantValue := 0 }, { name := "$VALUES", type := (.array (.object "com/example/rolling_ledger/rollingledger/model/CaptureKind")), accessFlags := 4122, slot := 3, constantValue := 0 }]
  methods := #[k11m0, k11m1]
  instanceTypes := #[(.object "java/lang/String"), .int, .int, (.object "java/lang/String")]
  staticTypes := #[(.object "com/example/rolling_ledger/rollingledger/model/CaptureKind"), (.object "com/example/rolling_ledger/rollingledger/model/CaptureKind"), (.object "com/example/rolling_ledger/rollingledger/model/CaptureKind"), (.array (.object "com/example/rolling_ledger/rollingledger/model/CaptureKind"))]
  resolved := Array.replicate 88 none
  statics := some 1 }

def pool12 : Array CpInfo := pool [(1, .class_ 2), (0, u "java/lang/Cloneable"), (0, .class_ 4), (0, u "java/lang/Object")] 2

/-- java/lang/Cloneable -/
def k12 : Class := { plain "java/lang/Cloneable" (some 0) with
  accessFlags := 1537
  interfaces := #[]
  cf := some (fileOf pool12 1 #[] #[] 1537 3 #[] #[])
  fields := #[]
  methods := #[]
  instanceTypes := #[]
  staticTypes := #[]
  resolved := Array.replicate 7 none
  statics := none }

def pool13 : Array CpInfo := pool [(1, .fieldref 2 3), (0, .class_ 4), (0, .nameAndType 5 6), (0, u "java/util/Optional"), (0, u "EMPTY"), (0, u "Ljava/util/Optional;"), (0, .methodref 8 9), (0, .class_ 10), (0, .nameAndType 11 12), (0, u "java/lang/Object"), (0, u "<init>"), (0, u "()V"), (0, .fieldref 2 14), (0, .nameAndType 15 16), (0, u "value"), (0, u "Ljava/lang/Object;"), (0, .methodref 18 19), (0, .class_ 20), (0, .nameAndType 21 22), (0, u "java/util/Objects"), (0, u "requireNonNull"), (0, u "(Ljava/lang/Object;)Ljava/lang/Object;"), (0, .methodref 2 24), (0, .nameAndType 11 25), (0, u "(Ljava/lang/Object;)V"), (20, u "()Z"), (8, u "empty"), (0, u "()Ljava/util/Optional;"), (8, u "(Ljava/lang/Object;)Ljava/util/Optional;"), (2, u "isPresent"), (4, u "get"), (0, u "()Ljava/lang/Object;"), (7, u "of")] 104

def k13c0 : Code := { maxStack := 1, maxLocals := 1, code := jdk_32_method_1_code, exceptionTable := #[], attributes := #[] }
def k13m0 : Method := { name := "empty", desc := "()Ljava/util/Optional;", sig := { parameters := [], returnType := some (.object "java/util/Optional") }, accessFlags := 9, code := some k13c0 }
def k13c1 : Code := { maxStack := 2, maxLocals := 2, code := jdk_32_method_2_code, exceptionTable := #[], attributes := #[] }
def k13m1 : Method := { name := "<init>", desc := "(Ljava/lang/Object;)V", sig := { parameters := [(.object "java/lang/Object")], returnType := none }, accessFlags := 2, code := some k13c1 }
def k13c2 : Code := { maxStack := 3, maxLocals := 1, code := jdk_32_method_3_code, exceptionTable := #[], attributes := #[] }
def k13m2 : Method := { name := "of", desc := "(Ljava/lang/Object;)Ljava/util/Optional;", sig := { parameters := [(.object "java/lang/Object")], returnType := some (.object "java/util/Optional") }, accessFlags := 9, code := some k13c2 }
def k13c3 : Code := { maxStack := 3, maxLocals := 1, code := jdk_32_method_5_code, exceptionTable := #[], attributes := #[] }
def k13m3 : Method := { name := "get", desc := "()Ljava/lang/Object;", sig := { parameters := [], returnType := some (.object "java/lang/Object") }, accessFlags := 1, code := some k13c3 }
def k13c4 : Code := { maxStack := 1, maxLocals := 1, code := jdk_32_method_6_code, exceptionTable := #[], attributes := #[] }
def k13m4 : Method := { name := "isPresent", desc := "()Z", sig := { parameters := [], returnType := some .boolean }, accessFlags := 1, code := some k13c4 }
/-- java/util/Optional -/
def k13 : Class := { plain "java/util/Optional" (some 0) with
  accessFlags := 49
  interfaces := #[]
  cf := some (fileOf pool13 2 #[] #[{ accessFlags := 9, nameIndex := 55, descriptorIndex := 56, attributes := #[] }, { accessFlags := 2, nameIndex := 11, descriptorIndex := 25, attributes := #[] }, { accessFlags := 9, nameIndex := 82, descriptorIndex := 65, attributes := #[] }, { accessFlags := 1, nameIndex := 73, descriptorIndex := 74, attributes := #[] }, { accessFlags := 1, nameIndex := 68, descriptorIndex := 46, attributes := #[] }] 49 8 #[] #[{ accessFlags := 26, nameIndex := 5, descriptorIndex := 6, attributes := #[] }, { accessFlags := 18, nameIndex := 15, descriptorIndex := 16, attributes := #[] }])
  fields := #[{ name := "EMPTY", type := (.object "java/util/Optional"), accessFlags := 26, slot := 0, constantValue := 0 }, { name := "value", type := (.object "java/lang/Object"), accessFlags := 18, slot := 0, constantValue := 0 }]
  methods := #[k13m0, k13m1, k13m2, k13m3, k13m4]
  instanceTypes := #[(.object "java/lang/Object")]
  staticTypes := #[(.object "java/util/Optional")]
  resolved := Array.replicate 187 none
  statics := some 2 }

def pool14 : Array CpInfo := pool [(2, .class_ 4), (1, u "java/lang/Object"), (0, u "<init>"), (0, u "()V"), (35, .class_ 44), (1, u "java/util/Objects"), (0, u "requireNonNull"), (0, u "(Ljava/lang/Object;)Ljava/lang/Object;")] 137

def k14m0 : Method := { name := "<init>", desc := "()V", sig := { parameters := [], returnType := none }, accessFlags := 2, code := none }
def k14c1 : Code := { maxStack := 2, maxLocals := 1, code := jdk_31_method_10_code, exceptionTable := #[], attributes := #[] }
def k14m1 : Method := { name := "requireNonNull", desc := "(Ljava/lang/Object;)Ljava/lang/Object;", sig := { parameters := [(.object "java/lang/Object")], returnType := some (.object "java/lang/Object") }, accessFlags := 9, code := some k14c1 }
/-- java/util/Objects -/
def k14 : Class := { plain "java/util/Objects" (some 0) with
  accessFlags := 49
  interfaces := #[]
  cf := some (fileOf pool14 42 #[] #[{ accessFlags := 2, nameIndex := 5, descriptorIndex := 6, attributes := #[] }, { accessFlags := 9, nameIndex := 45, descriptorIndex := 46, attributes := #[] }] 49 2 #[] #[])
  fields := #[]
  methods := #[k14m0, k14m1]
  instanceTypes := #[]
  staticTypes := #[]
  resolved := Array.replicate 184 none
  statics := none }

def pool15 : Array CpInfo := pool [(2, .class_ 4), (1, u "java/lang/Object"), (0, u "<init>"), (0, u "()V"), (17, .class_ 26), (1, u "jdk/internal/util/Preconditions"), (28, .class_ 56), (0, u "jdk/internal/util/Preconditions$4"), (57, .class_ 115), (0, u "jdk/internal/util/Preconditions$1"), (7, u "SIOOBE_FORMATTER"), (0, u "Ljava/util/function/BiFunction;"), (0, .class_ 126), (0, u "jdk/internal/util/Preconditions$2"), (3, u "AIOOBE_FORMATTER"), (0, .class_ 132), (0, u "jdk/internal/util/Preconditions$3"), (3, u "IOOBE_FORMATTER")] 57

def k15m0 : Method := { name := "<init>", desc := "()V", sig := { parameters := [], returnType := none }, accessFlags := 1, code := none }
/-- jdk/internal/util/Preconditions -/
def k15 : Class := { plain "jdk/internal/util/Preconditions" (some 0) with
  accessFlags := 33
  interfaces := #[]
  cf := some (fileOf pool15 24 #[.nestMembers #[55, 131, 125, 114]] #[{ accessFlags := 1, nameIndex := 5, descriptorIndex := 6, attributes := #[] }] 33 2 #[] #[{ accessFlags := 25, nameIndex := 123, descriptorIndex := 124, attributes := #[] }, { accessFlags := 25, nameIndex := 130, descriptorIndex := 124, attributes := #[] }, { accessFlags := 25, nameIndex := 136, descriptorIndex := 124, attributes := #[] }])
  fields := #[{ name := "SIOOBE_FORMATTER", type := (.object "java/util/function/BiFunction"), accessFlags := 25, slot := 0, constantValue := 0 }, { name := "AIOOBE_FORMATTER", type := (.object "java/util/function/BiFunction"), accessFlags := 25, slot := 1, constantValue := 0 }, { name := "IOOBE_FORMATTER", type := (.object "java/util/function/BiFunction"), accessFlags := 25, slot := 2, constantValue := 0 }]
  methods := #[k15m0]
  instanceTypes := #[]
  staticTypes := #[(.object "java/util/function/BiFunction"), (.object "java/util/function/BiFunction"), (.object "java/util/function/BiFunction")]
  resolved := Array.replicate 194 none
  statics := some 3 }

def pool16 : Array CpInfo := pool [(9, u "<init>"), (6, .class_ 18), (1, u "java/lang/Object"), (0, u "()V"), (1, .class_ 23), (1, u "jdk/internal/util/ArraysSupport"), (0, u "LOG2_ARRAY_LONG_INDEX_SCALE"), (0, u "I"), (2, u "U"), (0, u "Ljdk/internal/misc/Unsafe;"), (8, u "BIG_ENDIAN"), (0, u "Z"), (8, u "LOG2_BYTE_BIT_SIZE"), (4, u "LOG2_ARRAY_INT_INDEX_SCALE"), (54, u "JLA"), (0, u "Ljdk/internal/access/JavaLangAccess;"), (11, u "LOG2_ARRAY_BOOLEAN_INDEX_SCALE"), (9, u "LOG2_ARRAY_BYTE_INDEX_SCALE"), (5, u "LOG2_ARRAY_CHAR_INDEX_SCALE"), (5, u "LOG2_ARRAY_SHORT_INDEX_SCALE"), (18, u "LOG2_ARRAY_FLOAT_INDEX_SCALE"), (24, u "LOG2_ARRAY_DOUBLE_INDEX_SCALE"), (89, u "T_BOOLEAN"), (2, u "T_CHAR"), (1, u "T_FLOAT"), (1, u "T_DOUBLE"), (1, u "T_BYTE"), (1, u "T_SHORT"), (1, u "T_INT"), (1, u "T_LONG"), (1, u "SOFT_MAX_ARRAY_LENGTH")] 83

def k16m0 : Method := { name := "<init>", desc := "()V", sig := { parameters := [], returnType := none }, accessFlags := 2, code := none }
/-- jdk/internal/util/ArraysSupport -/
def k16 : Class := { plain "jdk/internal/util/ArraysSupport" (some 0) with
  accessFlags := 33
  interfaces := #[]
  cf := some (fileOf pool16 21 #[] #[{ accessFlags := 2, nameIndex := 9, descriptorIndex := 19, attributes := #[] }] 33 16 #[] #[{ accessFlags := 24, nameIndex := 28, descriptorIndex := 29, attributes := #[] }, { accessFlags := 26, nameIndex := 38, descriptorIndex := 39, attributes := #[] }, { accessFlags := 25, nameIndex := 121, descriptorIndex := 25, attributes := #[] }, { accessFlags := 25, nameIndex := 131, descriptorIndex := 25, attributes := #[] }, { accessFlags := 25, nameIndex := 137, descriptorIndex := 25, attributes := #[] }, { accessFlags := 25, nameIndex := 143, descriptorIndex := 25, attributes := #[] }, { accessFlags := 25, nameIndex := 53, descriptorIndex := 25, attributes := #[] }, { accessFlags := 25, nameIndex := 24, descriptorIndex := 25, attributes := #[] }, { accessFlags := 25, nameIndex := 162, descriptorIndex := 25, attributes := #[] }, { accessFlags := 25, nameIndex := 187, descriptorIndex := 25, attributes := #[] }, { accessFlags := 26, nameIndex := 48, descriptorIndex := 25, attributes := #[] }, { accessFlags := 25, nameIndex := 277, descriptorIndex := 25, attributes := #[] }, { accessFlags := 25, nameIndex := 280, descriptorIndex := 25, attributes := #[] }, { accessFlags := 25, nameIndex := 282, descriptorIndex := 25, attributes := #[] }, { accessFlags := 25, nameIndex := 284, descriptorIndex := 25, attributes := #[] }, { accessFlags := 25, nameIndex := 286, descriptorIndex := 25, attributes := #[] }, { accessFlags := 25, nameIndex := 288, descriptorIndex := 25, attributes := #[] }, { accessFlags := 25, nameIndex := 290, descriptorIndex := 25, attributes := #[] }, { accessFlags := 25, nameIndex := 292, descriptorIndex := 25, attributes := #[] }, { accessFlags := 26, nameIndex := 108, descriptorIndex := 109, attributes := #[] }, { accessFlags := 25, nameIndex := 294, descriptorIndex := 25, attributes := #[] }])
  fields := #[{ name := "U", type := (.object "jdk/internal/misc/Unsafe"), accessFlags := 24, slot := 0, constantValue := 0 }, { name := "BIG_ENDIAN", type := .boolean, accessFlags := 26, slot := 1, constantValue := 0 }, { name := "LOG2_ARRAY_BOOLEAN_INDEX_SCALE", type := .int, accessFlags := 25, slot := 2, constantValue := 0 }, { name := "LOG2_ARRAY_BYTE_INDEX_SCALE", type := .int, accessFlags := 25, slot := 3, constantValue := 0 }, { name := "LOG2_ARRAY_CHAR_INDEX_SCALE", type := .int, accessFlags := 25, slot := 4, constantValue := 0 }, { name := "LOG2_ARRAY_SHORT_INDEX_SCALE", type := .int, accessFlags := 25, slot := 5, constantValue := 0 }, { name := "LOG2_ARRAY_INT_INDEX_SCALE", type := .int, accessFlags := 25, slot := 6, constantValue := 0 }, { name := "LOG2_ARRAY_LONG_INDEX_SCALE", type := .int, accessFlags := 25, slot := 7, constantValue := 0 }, { name := "LOG2_ARRAY_FLOAT_INDEX_SCALE", type := .int, accessFlags := 25, slot := 8, constantValue := 0 }, { name := "LOG2_ARRAY_DOUBLE_INDEX_SCALE", type := .int, accessFlags := 25, slot := 9, constantValue := 0 }, { name := "LOG2_BYTE_BIT_SIZE", type := .int, accessFlags := 26, slot := 10, constantValue := 0 }, { name := "T_BOOLEAN", type := .int, accessFlags := 25, slot := 11, constantValue := 0 }, { name := "T_CHAR", type := .int, accessFlags := 25, slot := 12, constantValue := 0 }, { name := "T_FLOAT", type := .int, accessFlags := 25, slot := 13, constantValue := 0 }, { name := "T_DOUBLE", type := .int, accessFlags := 25, slot := 14, constantValue := 0 }, { name := "T_BYTE", type := .int, accessFlags := 25, slot := 15, constantValue := 0 }, { name := "T_SHORT", type := .int, accessFlags := 25, slot := 16, constantValue := 0 }, { name := "T_INT", type := .int, accessFlags := 25, slot := 17, constantValue := 0 }, { name := "T_LONG", type := .int, accessFlags := 25, slot := 18, constantValue := 0 }, { name := "JLA", type := (.object "jdk/internal/access/JavaLangAccess"), accessFlags := 26, slot := 19, constantValue := 0 }, { name := "SOFT_MAX_ARRAY_LENGTH", type := .int, accessFlags := 25, slot := 20, constantValue := 0 }]
  methods := #[k16m0]
  instanceTypes := #[]
  staticTypes := #[(.object "jdk/internal/misc/Unsafe"), .boolean, .int, .int, .int, .int, .int, .int, .int, .int, .int, .int, .int, .int, .int, .int, .int, .int, .int, (.object "jdk/internal/access/JavaLangAccess"), .int]
  resolved := Array.replicate 378 none
  statics := none }

/-- the primitive byte -/
def k17 : Class := { plain "byte" none with kind := .primitive 'B', accessFlags := 0x411 }
/-- [B -/
def k18 : Class := { plain "[B" (some 0) with kind := .array 17 .byte, interfaces := #[12, 2], accessFlags := 1041 }

/-- the primitive char -/
def k19 : Class := { plain "char" none with kind := .primitive 'C', accessFlags := 0x411 }
/-- [C -/
def k20 : Class := { plain "[C" (some 0) with kind := .array 19 .char, interfaces := #[12, 2], accessFlags := 1041 }

/-- the primitive int -/
def k21 : Class := { plain "int" none with kind := .primitive 'I', accessFlags := 0x411 }
/-- [I -/
def k22 : Class := { plain "[I" (some 0) with kind := .array 21 .int, interfaces := #[12, 2], accessFlags := 1041 }

/-- [Lcom/example/rolling_ledger/rollingledger/model/CaptureKind; -/
def k23 : Class := { plain "[Lcom/example/rolling_ledger/rollingledger/model/CaptureKind;" (some 0) with kind := .array 11 (.object "com/example/rolling_ledger/rollingledger/model/CaptureKind"), interfaces := #[12, 2], accessFlags := 1041 }

def heap : Heap := #[{ cls := 7, slots := #[.long 0, .int 1, .null, .int 0, .null, .int 0, .int 0], vm := .statics 7 },
  { cls := 11, slots := #[.ref 5, .ref 6, .ref 7, .ref 4], vm := .statics 11 },
  { cls := 13, slots := #[.ref 14], vm := .statics 13 },
  { cls := 15, slots := #[.null, .null, .null], vm := .statics 15 },
  { cls := 23, slots := #[.ref 5, .ref 6, .ref 7], vm := .none },
  { cls := 11, slots := #[.null, .int 0, .int 0, .ref 8], vm := .none },
  { cls := 11, slots := #[.null, .int 1, .int 0, .ref 9], vm := .none },
  { cls := 11, slots := #[.null, .int 2, .int 0, .ref 10], vm := .none },
  { cls := 7, slots := #[.ref 11, .int 0, .int 0, .int 0], vm := .none },
  { cls := 7, slots := #[.ref 12, .int 0, .int 0, .int 0], vm := .none },
  { cls := 7, slots := #[.ref 13, .int 0, .int 0, .int 0], vm := .none },
  { cls := 18, slots := #[.int 114, .int 101, .int 115, .int 112, .int 111, .int 110, .int 115, .int 101], vm := .none },
  { cls := 18, slots := #[.int 114, .int 101, .int 118, .int 105, .int 115, .int 105, .int 116], vm := .none },
  { cls := 18, slots := #[.int 114, .int 101, .int 115, .int 111, .int 117, .int 114, .int 99, .int 101], vm := .none },
  { cls := 13, slots := #[.null], vm := .none }]
def classes : Array Class := #[k0, k1, k2, k3, k4, k5, k6, k7, k8, k9, k10, k11, k12, k13, k14, k15, k16, k17, k18, k19, k20, k21, k22, k23]
def interned : List (Array UInt16 × Addr) := []
def slotsUsed : Nat := 66
def theMethod : MethodId := ⟨1, 1⟩
def args0 : Array Value := #[.int 0, .int 0, .int 0, .long 0]
def aboutOver (below : List Frame) : State where
  vm := { classes := classes, interned := interned.toArray }
  heap := heap
  slotsUsed := slotsUsed
  threads := #[{ frames := .invoking theMethod args0 :: below }]
def below0 : List Frame := [.native { method := ⟨0, 0⟩, args := #[] }]
def about1 : State := aboutOver below0
def p0 : Program := .bare "" "" ""
def e0 : Env := launch0.env 0 0 0
theorem w_frames : about1.frames = Frame.invoking theMethod args0 :: below0 := rfl
set_option maxRecDepth 65536 in
theorem w_args : argsFit about1.vm theMethod args0 = true := by decide +kernel
set_option maxRecDepth 65536 in
theorem w_heap : heapFits about1 = true := by decide +kernel
set_option maxRecDepth 65536 in
theorem w_runnable : about1.curStatus? = some .runnable := by decide +kernel
set_option maxRecDepth 65536 in
theorem w_alone : about1.alone = true := by decide +kernel
set_option maxRecDepth 65536 in
theorem w_named : about1.methodNamed? x = some theMethod := by decide +kernel
set_option maxRecDepth 65536 in
theorem w_hears : about1.hears theMethod below0 = true := by decide +kernel
set_option maxRecDepth 65536 in
theorem w_ripe : about1.ripe theMethod args0 below0 = true := by decide +kernel
theorem w_running : about1.status = .running := rfl
set_option maxRecDepth 65536 in
theorem w_room : about1.hasRoom e0.platform room_1 = true :=
  launch0.hasRoom_least _ room_1 (by decide +kernel) (by decide +kernel) (by decide +kernel) (by decide +kernel) (by decide +kernel) (by decide +kernel)
theorem allAtoms_all (ts : List Jvm.Cond) (a : Array Jvm.Value) (st : Jvm.State) : (allAtoms ts).before a st = ts.all (fun c => c.before a st) := by
  induction ts with
  | nil => rfl
  | cons c t ih =>
    show (Jvm.Cond.and c (allAtoms t)).before a st = _
    rw [Jvm.Cond.before_and, ih, List.all_cons]
def words1 : List Jvm.Cond := Jvm.Cond.code x code maxLocals ret :: tables_1
/-- a 'code' word, met by the world's own term for the bytes: nothing is compared byte by byte -/
theorem code_word {y : MethodName} {bytes : ByteArray} {mx : Nat} {rt : Option FieldType} {a : Array Value} {s : State} {m : MethodId} {meth : Method} {c : Code} (h1 : s.methodNamed? y = some m) (h2 : s.vm.method? m = some meth) (h3 : meth.code = some c) (h4 : c.code = bytes)
    (h5 : (c.maxLocals == mx && c.exceptionTable.isEmpty && decide (c.maxStack ≤ mostOperands) && decide (meth.sig.returnType = rt) && !meth.locks && decide (parseMethodDescriptor y.desc = some meth.sig)) = true) : (Jvm.Cond.code y bytes mx rt).before a s = true := by
  simp only [Bool.and_eq_true, beq_iff_eq, Bool.not_eq_true', decide_eq_true_eq] at h5
  obtain ⟨⟨⟨⟨⟨g1, g2⟩, g3⟩, g4⟩, g5⟩, g6⟩ := h5
  simp [Cond.before, Cond.holds, Cond.value, h1, h2, h3, h4, g1, g2, g3, g4, g5, g6]
def isCode : Jvm.Cond → Bool
  | .code _ _ _ _ => true
  | _ => false
theorem all_split {L : List Jvm.Cond} {P : Jvm.Cond → Bool} (h1 : L.all (fun c => isCode c || P c) = true) (h2 : ∀ c ∈ L.filter isCode, P c = true) : L.all P = true := by
  refine List.all_eq_true.mpr fun c hc => ?_
  have h := List.all_eq_true.mp h1 c hc
  rcases Bool.eq_false_or_eq_true (isCode c) with hi | hi
  · exact h2 c (List.mem_filter.mpr ⟨hc, hi⟩)
  · simpa [hi] using h
set_option maxRecDepth 65536 in
theorem w_c0 : (Jvm.Cond.code x code maxLocals ret).before args0 about1 = true := code_word (m := ⟨1, 1⟩) (meth := k1m1) (c := k1c1) (by decide +kernel) rfl rfl rfl (by decide +kernel)
set_option maxRecDepth 65536 in
theorem w_c1 : (Jvm.Cond.code ({ cls := "com/example/rolling_ledger/rollingledger/model/CaptureKindOfWarcTypePinLaw", name := "base", desc := "(IJI)[C" } : Jvm.MethodName) method_4_code (4 : Nat) (Option.some (Jvm.ClassFile.FieldType.array Jvm.ClassFile.FieldType.char))).before args0 about1 = true := code_word (m := ⟨1, 3⟩) (meth := k1m3) (c := k1c3) (by decide +kernel) rfl rfl rfl (by decide +kernel)
set_option maxRecDepth 65536 in
theorem w_c2 : (Jvm.Cond.code ({ cls := "java/lang/String", name := "<init>", desc := "([C)V" } : Jvm.MethodName) jdk_42_method_3_code (2 : Nat) (Option.none : Option Jvm.ClassFile.FieldType)).before args0 about1 = true := code_word (m := ⟨7, 1⟩) (meth := k7m1) (c := k7c1) (by decide +kernel) rfl rfl rfl (by decide +kernel)
set_option maxRecDepth 65536 in
theorem w_c3 : (Jvm.Cond.code ({ cls := "java/lang/String", name := "<init>", desc := "([CIILjava/lang/Void;)V" } : Jvm.MethodName) jdk_42_method_149_code (6 : Nat) (Option.none : Option Jvm.ClassFile.FieldType)).before args0 about1 = true := code_word (m := ⟨7, 3⟩) (meth := k7m3) (c := k7c3) (by decide +kernel) rfl rfl rfl (by decide +kernel)
set_option maxRecDepth 65536 in
theorem w_c4 : (Jvm.Cond.code ({ cls := "java/lang/Object", name := "<init>", desc := "()V" } : Jvm.MethodName) object_method_1_code (1 : Nat) (Option.none : Option Jvm.ClassFile.FieldType)).before args0 about1 = true := code_word (m := ⟨0, 0⟩) (meth := k0m0) (c := k0c0) (by decide +kernel) rfl rfl rfl (by decide +kernel)
set_option maxRecDepth 65536 in
theorem w_c5 : (Jvm.Cond.code ({ cls := "java/lang/StringUTF16", name := "compress", desc := "([CII)[B" } : Jvm.MethodName) jdk_52_method_16_code (6 : Nat) (Option.some (Jvm.ClassFile.FieldType.array Jvm.ClassFile.FieldType.byte))).before args0 about1 = true := code_word (m := ⟨8, 2⟩) (meth := k8m2) (c := k8c2) (by decide +kernel) rfl rfl rfl (by decide +kernel)
set_option maxRecDepth 65536 in
theorem w_c6 : (Jvm.Cond.code ({ cls := "java/lang/StringUTF16", name := "compress", desc := "([CI[BII)I" } : Jvm.MethodName) jdk_52_method_21_code (7 : Nat) (Option.some Jvm.ClassFile.FieldType.int)).before args0 about1 = true := code_word (m := ⟨8, 3⟩) (meth := k8m3) (c := k8c3) (by decide +kernel) rfl rfl rfl (by decide +kernel)
set_option maxRecDepth 65536 in
theorem w_c7 : (Jvm.Cond.code ({ cls := "java/lang/StringUTF16", name := "coderFromArrayLen", desc := "([BI)B" } : Jvm.MethodName) jdk_52_method_15_code (2 : Nat) (Option.some Jvm.ClassFile.FieldType.byte)).before args0 about1 = true := code_word (m := ⟨8, 1⟩) (meth := k8m1) (c := k8c1) (by decide +kernel) rfl rfl rfl (by decide +kernel)
set_option maxRecDepth 65536 in
theorem w_c8 : (Jvm.Cond.code ({ cls := "com/example/rolling_ledger/rollingledger/model/CaptureKindOfWarcTypePinLaw", name := "expect", desc := "(Ljava/lang/String;)Lcom/example/rolling_ledger/rollingledger/model/CaptureKind;" } : Jvm.MethodName) method_3_code (1 : Nat) (Option.some (Jvm.ClassFile.FieldType.object "com/example/rolling_ledger/rollingledger/model/CaptureKind"))).before args0 about1 = true := code_word (m := ⟨1, 2⟩) (meth := k1m2) (c := k1c2) (by decide +kernel) rfl rfl rfl (by decide +kernel)
set_option maxRecDepth 65536 in
theorem w_c9 : (Jvm.Cond.code ({ cls := "java/lang/String", name := "equals", desc := "(Ljava/lang/Object;)Z" } : Jvm.MethodName) jdk_42_method_66_code (3 : Nat) (Option.some Jvm.ClassFile.FieldType.boolean)).before args0 about1 = true := code_word (m := ⟨7, 2⟩) (meth := k7m2) (c := k7c2) (by decide +kernel) rfl rfl rfl (by decide +kernel)
set_option maxRecDepth 65536 in
theorem w_c10 : (Jvm.Cond.code ({ cls := "java/lang/StringLatin1", name := "equals", desc := "([B[B)Z" } : Jvm.MethodName) jdk_43_method_13_code (3 : Nat) (Option.some Jvm.ClassFile.FieldType.boolean)).before args0 about1 = true := code_word (m := ⟨9, 1⟩) (meth := k9m1) (c := k9c1) (by decide +kernel) rfl rfl rfl (by decide +kernel)
set_option maxRecDepth 65536 in
theorem w_c11 : (Jvm.Cond.code ({ cls := "com/example/rolling_ledger/rollingledger/model/CaptureKind", name := "ofWarcType", desc := "(Ljava/lang/String;)Ljava/util/Optional;" } : Jvm.MethodName) prog_6_method_4_code (5 : Nat) (Option.some (Jvm.ClassFile.FieldType.object "java/util/Optional"))).before args0 about1 = true := code_word (m := ⟨11, 1⟩) (meth := k11m1) (c := k11c1) (by decide +kernel) rfl rfl rfl (by decide +kernel)
set_option maxRecDepth 65536 in
theorem w_c12 : (Jvm.Cond.code ({ cls := "com/example/rolling_ledger/rollingledger/model/CaptureKind", name := "values", desc := "()[Lcom/example/rolling_ledger/rollingledger/model/CaptureKind;" } : Jvm.MethodName) prog_6_method_1_code (0 : Nat) (Option.some (Jvm.ClassFile.FieldType.array (Jvm.ClassFile.FieldType.object "com/example/rolling_ledger/rollingledger/model/CaptureKind")))).before args0 about1 = true := code_word (m := ⟨11, 0⟩) (meth := k11m0) (c := k11c0) (by decide +kernel) rfl rfl rfl (by decide +kernel)
set_option maxRecDepth 65536 in
theorem w_c13 : (Jvm.Cond.code ({ cls := "java/util/Optional", name := "of", desc := "(Ljava/lang/Object;)Ljava/util/Optional;" } : Jvm.MethodName) jdk_32_method_3_code (1 : Nat) (Option.some (Jvm.ClassFile.FieldType.object "java/util/Optional"))).before args0 about1 = true := code_word (m := ⟨13, 2⟩) (meth := k13m2) (c := k13c2) (by decide +kernel) rfl rfl rfl (by decide +kernel)
set_option maxRecDepth 65536 in
theorem w_c14 : (Jvm.Cond.code ({ cls := "java/util/Objects", name := "requireNonNull", desc := "(Ljava/lang/Object;)Ljava/lang/Object;" } : Jvm.MethodName) jdk_31_method_10_code (1 : Nat) (Option.some (Jvm.ClassFile.FieldType.object "java/lang/Object"))).before args0 about1 = true := code_word (m := ⟨14, 1⟩) (meth := k14m1) (c := k14c1) (by decide +kernel) rfl rfl rfl (by decide +kernel)
set_option maxRecDepth 65536 in
theorem w_c15 : (Jvm.Cond.code ({ cls := "java/util/Optional", name := "<init>", desc := "(Ljava/lang/Object;)V" } : Jvm.MethodName) jdk_32_method_2_code (2 : Nat) (Option.none : Option Jvm.ClassFile.FieldType)).before args0 about1 = true := code_word (m := ⟨13, 1⟩) (meth := k13m1) (c := k13c1) (by decide +kernel) rfl rfl rfl (by decide +kernel)
set_option maxRecDepth 65536 in
theorem w_c16 : (Jvm.Cond.code ({ cls := "java/util/Optional", name := "isPresent", desc := "()Z" } : Jvm.MethodName) jdk_32_method_6_code (1 : Nat) (Option.some Jvm.ClassFile.FieldType.boolean)).before args0 about1 = true := code_word (m := ⟨13, 4⟩) (meth := k13m4) (c := k13c4) (by decide +kernel) rfl rfl rfl (by decide +kernel)
set_option maxRecDepth 65536 in
theorem w_c17 : (Jvm.Cond.code ({ cls := "java/util/Optional", name := "get", desc := "()Ljava/lang/Object;" } : Jvm.MethodName) jdk_32_method_5_code (1 : Nat) (Option.some (Jvm.ClassFile.FieldType.object "java/lang/Object"))).before args0 about1 = true := code_word (m := ⟨13, 3⟩) (meth := k13m3) (c := k13c3) (by decide +kernel) rfl rfl rfl (by decide +kernel)
set_option maxRecDepth 65536 in
theorem w_c18 : (Jvm.Cond.code ({ cls := "java/util/Optional", name := "empty", desc := "()Ljava/util/Optional;" } : Jvm.MethodName) jdk_32_method_1_code (1 : Nat) (Option.some (Jvm.ClassFile.FieldType.object "java/util/Optional"))).before args0 about1 = true := code_word (m := ⟨13, 0⟩) (meth := k13m0) (c := k13c0) (by decide +kernel) rfl rfl rfl (by decide +kernel)
def codes1 : List Jvm.Cond := [Jvm.Cond.code x code maxLocals ret, Jvm.Cond.code ({ cls := "com/example/rolling_ledger/rollingledger/model/CaptureKindOfWarcTypePinLaw", name := "base", desc := "(IJI)[C" } : Jvm.MethodName) method_4_code (4 : Nat) (Option.some (Jvm.ClassFile.FieldType.array Jvm.ClassFile.FieldType.char)), Jvm.Cond.code ({ cls := "java/lang/String", name := "<init>", desc := "([C)V" } : Jvm.MethodName) jdk_42_method_3_code (2 : Nat) (Option.none : Option Jvm.ClassFile.FieldType), Jvm.Cond.code ({ cls := "java/lang/String", name := "<init>", desc := "([CIILjava/lang/Void;)V" } : Jvm.MethodName) jdk_42_method_149_code (6 : Nat) (Option.none : Option Jvm.ClassFile.FieldType), Jvm.Cond.code ({ cls := "java/lang/Object", name := "<init>", desc := "()V" } : Jvm.MethodName) object_method_1_code (1 : Nat) (Option.none : Option Jvm.ClassFile.FieldType), Jvm.Cond.code ({ cls := "java/lang/StringUTF16", name := "compress", desc := "([CII)[B" } : Jvm.MethodName) jdk_52_method_16_code (6 : Nat) (Option.some (Jvm.ClassFile.FieldType.array Jvm.ClassFile.FieldType.byte)), Jvm.Cond.code ({ cls := "java/lang/StringUTF16", name := "compress", desc := "([CI[BII)I" } : Jvm.MethodName) jdk_52_method_21_code (7 : Nat) (Option.some Jvm.ClassFile.FieldType.int), Jvm.Cond.code ({ cls := "java/lang/StringUTF16", name := "coderFromArrayLen", desc := "([BI)B" } : Jvm.MethodName) jdk_52_method_15_code (2 : Nat) (Option.some Jvm.ClassFile.FieldType.byte), Jvm.Cond.code ({ cls := "com/example/rolling_ledger/rollingledger/model/CaptureKindOfWarcTypePinLaw", name := "expect", desc := "(Ljava/lang/String;)Lcom/example/rolling_ledger/rollingledger/model/CaptureKind;" } : Jvm.MethodName) method_3_code (1 : Nat) (Option.some (Jvm.ClassFile.FieldType.object "com/example/rolling_ledger/rollingledger/model/CaptureKind")), Jvm.Cond.code ({ cls := "java/lang/String", name := "equals", desc := "(Ljava/lang/Object;)Z" } : Jvm.MethodName) jdk_42_method_66_code (3 : Nat) (Option.some Jvm.ClassFile.FieldType.boolean), Jvm.Cond.code ({ cls := "java/lang/StringLatin1", name := "equals", desc := "([B[B)Z" } : Jvm.MethodName) jdk_43_method_13_code (3 : Nat) (Option.some Jvm.ClassFile.FieldType.boolean), Jvm.Cond.code ({ cls := "com/example/rolling_ledger/rollingledger/model/CaptureKind", name := "ofWarcType", desc := "(Ljava/lang/String;)Ljava/util/Optional;" } : Jvm.MethodName) prog_6_method_4_code (5 : Nat) (Option.some (Jvm.ClassFile.FieldType.object "java/util/Optional")), Jvm.Cond.code ({ cls := "com/example/rolling_ledger/rollingledger/model/CaptureKind", name := "values", desc := "()[Lcom/example/rolling_ledger/rollingledger/model/CaptureKind;" } : Jvm.MethodName) prog_6_method_1_code (0 : Nat) (Option.some (Jvm.ClassFile.FieldType.array (Jvm.ClassFile.FieldType.object "com/example/rolling_ledger/rollingledger/model/CaptureKind"))), Jvm.Cond.code ({ cls := "java/util/Optional", name := "of", desc := "(Ljava/lang/Object;)Ljava/util/Optional;" } : Jvm.MethodName) jdk_32_method_3_code (1 : Nat) (Option.some (Jvm.ClassFile.FieldType.object "java/util/Optional")), Jvm.Cond.code ({ cls := "java/util/Objects", name := "requireNonNull", desc := "(Ljava/lang/Object;)Ljava/lang/Object;" } : Jvm.MethodName) jdk_31_method_10_code (1 : Nat) (Option.some (Jvm.ClassFile.FieldType.object "java/lang/Object")), Jvm.Cond.code ({ cls := "java/util/Optional", name := "<init>", desc := "(Ljava/lang/Object;)V" } : Jvm.MethodName) jdk_32_method_2_code (2 : Nat) (Option.none : Option Jvm.ClassFile.FieldType), Jvm.Cond.code ({ cls := "java/util/Optional", name := "isPresent", desc := "()Z" } : Jvm.MethodName) jdk_32_method_6_code (1 : Nat) (Option.some Jvm.ClassFile.FieldType.boolean), Jvm.Cond.code ({ cls := "java/util/Optional", name := "get", desc := "()Ljava/lang/Object;" } : Jvm.MethodName) jdk_32_method_5_code (1 : Nat) (Option.some (Jvm.ClassFile.FieldType.object "java/lang/Object")), Jvm.Cond.code ({ cls := "java/util/Optional", name := "empty", desc := "()Ljava/util/Optional;" } : Jvm.MethodName) jdk_32_method_1_code (1 : Nat) (Option.some (Jvm.ClassFile.FieldType.object "java/util/Optional"))]
set_option maxRecDepth 65536 in
theorem codes_eq : words1.filter isCode = codes1 := rfl
theorem w_codes : ∀ c ∈ words1.filter isCode, c.before args0 about1 = true := by
  rw [codes_eq]
  intro c hc
  simp only [codes1, List.mem_cons, List.not_mem_nil, or_false] at hc
  rcases hc with rfl | rfl | rfl | rfl | rfl | rfl | rfl | rfl | rfl | rfl | rfl | rfl | rfl | rfl | rfl | rfl | rfl | rfl | rfl
  · exact w_c0
  · exact w_c1
  · exact w_c2
  · exact w_c3
  · exact w_c4
  · exact w_c5
  · exact w_c6
  · exact w_c7
  · exact w_c8
  · exact w_c9
  · exact w_c10
  · exact w_c11
  · exact w_c12
  · exact w_c13
  · exact w_c14
  · exact w_c15
  · exact w_c16
  · exact w_c17
  · exact w_c18
set_option maxRecDepth 65536 in
theorem w_t1 : (words1.take 24).all (fun c => isCode c || c.before args0 about1) = true := by decide +kernel
set_option maxRecDepth 65536 in
theorem w_t2 : ((words1.drop 24).take 24).all (fun c => isCode c || c.before args0 about1) = true := by decide +kernel
set_option maxRecDepth 65536 in
theorem w_t3 : (((words1.drop 24).drop 24).take 24).all (fun c => isCode c || c.before args0 about1) = true := by decide +kernel
set_option maxRecDepth 65536 in
theorem w_t4 : ((((words1.drop 24).drop 24).drop 24).take 24).all (fun c => isCode c || c.before args0 about1) = true := by decide +kernel
set_option maxRecDepth 65536 in
theorem w_t5 : ((((words1.drop 24).drop 24).drop 24).drop 24).all (fun c => isCode c || c.before args0 about1) = true := by decide +kernel
theorem w_tables : (allAtoms (Jvm.Cond.code x code maxLocals ret :: tables_1)).before args0 about1 = true := by
  rw [allAtoms_all]
  show words1.all (fun c => c.before args0 about1) = true
  refine all_split ?_ w_codes
  rw [← List.take_append_drop 24 words1, List.all_append, w_t1, ← List.take_append_drop 24 (words1.drop 24), List.all_append, w_t2, ← List.take_append_drop 24 ((words1.drop 24).drop 24), List.all_append, w_t3, ← List.take_append_drop 24 (((words1.drop 24).drop 24).drop 24), List.all_append, w_t4, w_t5]
  rfl
set_option maxRecDepth 65536 in
theorem w_rest : rest_1_c.before args0 about1 = true := by decide +kernel
set_option maxRecDepth 65536 in
theorem w_case : (Jvm.Cond.and given_1 narrow_1).before args0 about1 = true := by decide +kernel
set_option maxRecDepth 65536 in
theorem w_consts : constsHeld consts_1 about1 := Jvm.Lit.constsHeldB_iff.mp (by decide +kernel)
theorem w_applies : (headSpec (Jvm.Cond.code x code maxLocals ret :: tables_1) room_1).applies x e0.platform about1 = true :=
  (Spec.applies_iff w_frames).mpr ⟨w_running, w_runnable, w_alone, w_named, w_hears, w_ripe, w_room, w_tables⟩
theorem atStart : AtStart classFile x code maxLocals ret World_1 tables_1 room_1 Calls_1 rest_1 Pre_1 launch0 p0 e0 about1 theMethod args0 below0 :=
  ⟨lists_1, trivial, launch0.admits_env _ _ _, launch0.least_env, fairChoices_fair.cas, fairChoices_fair.clock, w_frames, w_args, w_heap, w_applies, ⟨w_consts, trivial⟩, w_rest, w_case⟩
end start1
theorem witness_1 : WitnessClaimed_1 := ⟨start1.p0, start1.e0, start1.about1, start1.theMethod, start1.args0, start1.below0, start1.atStart⟩
end Jvm.Pilot.@@N@@
