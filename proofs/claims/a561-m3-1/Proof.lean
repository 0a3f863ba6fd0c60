import JvmDerived
import JvmDerived.Pilot.@@N@@Statement
import JvmDerived.Pilot.@@N@@Code
set_option linter.unusedVariables false
set_option linter.unusedSimpArgs false
namespace Jvm.RoadKit
open Sem ClassFile Op Lib Jvm.Stand Jvm.Free Jvm.LawKit
section New
variable {p : Program} {l : Launch} {e : Env} {R : Room} {s : State} {m : MethodId} {args : Array Value} {below : List Frame} {meth : Method} {c : Code} {T : State} {locs : List Loc} {cells slots : Nat}
theorem retI (X : Stand p l e R s m args below meth c T locs cells slots) (hx : p.tables.exec = Jvm.exec) {pc : Nat} {Ls : Array Slot} {z : Int32} {rest : List Value} (hret : meth.sig.returnType = some .int) (hd : decode c.code pc = .ok (.ireturn, 1)) {fs : List Frame}
    (hl : ∀ (f : JFrame) (acts : List Action), f.method = m → f.locked = none → f.entered = [] → (doReturn e (T.setTop f) acts (some (.int z))).1 = T.setFrames fs) : Steps p.tables e below (T.setTop (mkF m pc Ls (.int z :: rest))) (T.setFrames fs) := by
  have hm' : T.vm.method? m = some meth := X.method'
  have hn : narrow .int (.int z) = .int z := rfl
  show Steps p.tables e below (T.setTop { method := m, pc := pc, locals := Ls, stack := _ :: rest, locked := none }) _
  jvm_step X.here [X.here.top, hx, hd, hm', hret, hn]
  first | (intro acts; rw [hl _ acts rfl rfl rfl]) | rw [hl _ _ rfl rfl rfl]
  exact Steps.refl _
theorem own_un {L' : List Loc} {k' n' : Nat} (X : Stand p l e R s m args below meth c T locs cells slots) (h1 : locs = L') (h2 : cells = k') (h3 : slots = n') : Stand p l e R s m args below meth c T L' k' n' := by
  subst h1 h2 h3
  exact X
end New
end Jvm.RoadKit
/- laws to paste: Road.backV, Road.eqW, Road.codOf (cut by pick.py; bodies as the Statement names them) -/
namespace Jvm.Pilot.@@N@@
namespace StrChars
open Jvm Sem ClassFile Op Lib Jvm.Stand Jvm.Free.XT Jvm.Free.ALB Jvm.Free.JM Jvm.Free
open Jvm.Lib.Cold (StaticIs)
/-- a char array whose places are chars -/
def Ch (a : Addr) (A : Cell) (U : State) : Prop := Arr .char a A U ∧ Typed .char A
theorem Ch.mv {a : Addr} {A : Cell} {U U' : State} (h : Ch a A U) (hal : U.vm.Alike U'.vm) (hh : U'.heap = U.heap) : Ch a A U' := ⟨h.1.mv hal hh, h.2⟩
theorem Ch.keep {a : Addr} {A : Cell} {U U' : State} (h : Ch a A U) (hal : U.vm.Alike U'.vm) (hk : U'.heap[a]? = some A) : Ch a A U' := ⟨h.1.keep hal hk, h.2⟩
/-- what place i of a char[]'s cell holds -/
def cv (A : Cell) (i : Nat) : Int32 := match A.slots[i]? with | some (.int x) => x | _ => 0
theorem Ch.get {a : Addr} {A : Cell} {U : State} (h : Ch a A U) {i : Nat} (hi : i < A.slots.size) : A.slots[i]? = some (.int (cv A i)) := by
  have e := Array.getElem?_eq_getElem hi
  have f := h.2 i _ e
  unfold cv; rw [e]
  generalize A.slots[i] = v at f
  cases v <;> simp [fits] at f ⊢
/-- the byte that i2b leaves of a char -/
def lo8 (x : Int32) : Int32 := x.toInt8.toInt32
theorem fits_lo8 (y : Int32) : fits .byte (.int (lo8 y)) = true := by
  have h1 := y.toInt8.le_toInt
  have h2 := y.toInt8.toInt_lt
  simp only [lo8, fits, Bool.and_eq_true, decide_eq_true_eq, Int32.le_iff_toInt_le, Int8.toInt_toInt32, show (-128 : Int32).toInt = -128 from by decide, show (127 : Int32).toInt = 127 from by decide]
  omega
/-- A' is A but that each place j of lo .. hi - 1 holds f j -/
def Laid (A A' : Cell) (lo hi : Nat) (f : Nat → Value) : Prop := A'.cls = A.cls ∧ A'.vm = A.vm ∧ A'.slots.size = A.slots.size ∧ ∀ i, A'.slots[i]? = if lo ≤ i ∧ i < hi then some (f i) else A.slots[i]?
theorem Laid.zero (A : Cell) (lo : Nat) (f : Nat → Value) : Laid A A lo (lo + 0) f := ⟨rfl, rfl, rfl, fun i => by rw [if_neg (by omega)]⟩
theorem Laid.step {A Ak : Cell} {lo k : Nat} {f : Nat → Value} {v : Value} (h : Laid A Ak lo k f) (hlo : lo ≤ k) (hk : k < Ak.slots.size) (hv : v = f k) : Laid A (Ak.setSlot k v) lo (k + 1) f := by
  refine ⟨h.1, h.2.1, by simpa [Cell.setSlot] using h.2.2.1, fun i => ?_⟩
  by_cases e : k = i
  · subst e; rw [Cell.slots_setSlot_self v hk, if_pos (by omega), hv]
  · rw [Cell.slots_setSlot_ne v e, h.2.2.2 i]
    by_cases q : lo ≤ i ∧ i < k
    · rw [if_pos q, if_pos (by omega)]
    · rw [if_neg q, if_neg (by omega)]
def U16 : String := "java/lang/StringUTF16"
namespace Cmp5
def yN : MethodName := ⟨"java/lang/StringUTF16", "compress", "([CI[BII)I"⟩
abbrev yB : ByteArray := jdk_52_method_21_code
theorem d0 : decode yB 0 = .ok (.iconst 0, 1) := by decide +kernel
theorem d1 : decode yB 1 = .ok (.istore 5, 2) := by decide +kernel
theorem d3 : decode yB 3 = .ok (.iload 5, 2) := by decide +kernel
theorem d5 : decode yB 5 = .ok (.iload 4, 2) := by decide +kernel
theorem d7 : decode yB 7 = .ok (.if_icmp (.ge) 37, 3) := by decide +kernel
theorem d10 : decode yB 10 = .ok (.aload_n 0, 1) := by decide +kernel
theorem d11 : decode yB 11 = .ok (.iload_n 1, 1) := by decide +kernel
theorem d12 : decode yB 12 = .ok (.caload, 1) := by decide +kernel
theorem d13 : decode yB 13 = .ok (.istore 6, 2) := by decide +kernel
theorem d15 : decode yB 15 = .ok (.iload 6, 2) := by decide +kernel
theorem d17 : decode yB 17 = .ok (.sipush 255, 3) := by decide +kernel
theorem d20 : decode yB 20 = .ok (.if_icmp (.le) 6, 3) := by decide +kernel
theorem d26 : decode yB 26 = .ok (.aload_n 2, 1) := by decide +kernel
theorem d27 : decode yB 27 = .ok (.iload_n 3, 1) := by decide +kernel
theorem d28 : decode yB 28 = .ok (.iload 6, 2) := by decide +kernel
theorem d30 : decode yB 30 = .ok (.i2b, 1) := by decide +kernel
theorem d31 : decode yB 31 = .ok (.bastore, 1) := by decide +kernel
theorem d32 : decode yB 32 = .ok (.iinc 1 1, 3) := by decide +kernel
theorem d35 : decode yB 35 = .ok (.iinc 3 1, 3) := by decide +kernel
theorem d38 : decode yB 38 = .ok (.iinc 5 1, 3) := by decide +kernel
theorem d41 : decode yB 41 = .ok (.goto (-38), 3) := by decide +kernel
theorem d44 : decode yB 44 = .ok (.iload 4, 2) := by decide +kernel
theorem d46 : decode yB 46 = .ok (.ireturn, 1) := by decide +kernel
def site : List Cond := []
def tab : Cond := tabOf yN yB 7 (some .int) site
def P (b : Addr) (A : Cell) (d : Addr) (B : Cell) (o q len : Nat) (args : Array Value) (s : State) : Prop := args = #[.ref b, .int (Int32.ofNat o), .ref d, .int (Int32.ofNat q), .int (Int32.ofNat len)] ∧ Ch b A s ∧ Arr .byte d B s ∧ b ≠ d ∧ o + len ≤ A.slots.size ∧ q + len ≤ B.slots.size ∧ ∀ i, i < len → ¬ 255 < cv A (o + i)
def E (b : Addr) (A : Cell) (d : Addr) (B : Cell) (o q len : Nat) (r : Option Value) (s u : State) : Prop := r = some (.int (Int32.ofNat len)) ∧ ∃ B', Put d B' s u ∧ Laid B B' q (q + len) (fun j => Value.int (lo8 (cv A (o + (j - q)))))
/-- no char of the range above 255: len; the places written hold each char's low byte -/
theorem law (l : Launch) (b : Addr) (A : Cell) (d : Addr) (B : Cell) (o q len : Nat) : Law l yN 5 5 0 0 yB 7 (some .int) site (P b A d B o q len) (E b A d B o q len) (copyLocs d q len) 0 0 := by
  refine Law.of_walk (plainFor_of_name (by decide +kernel)) (by decide +kernel) (by decide +kernel) (by decide) (fun _ _ h => by rw [h.1]; rfl) (fun _ U U' hal hh h => ⟨h.1, h.2.1.mv hal hh, h.2.2.1.mv hal hh, h.2.2.2⟩) (fun r U U' V V' h1 hal h2 h => ⟨h.1, h.2.elim fun B' q => ⟨B', q.1.mv h1 h2, q.2⟩⟩) ?_
  intro p e s m args below meth c s₁ X0 hexec hbytes hml hret hlk hnm hown hh0 W hP
  obtain ⟨rfl, hA, hB, hne, l1, l2, hp⟩ := hP
  have c1 : Steps p.tables e below (s₁.setTop (entryFrame m #[.ref b, .int (Int32.ofNat o), .ref d, .int (Int32.ofNat q), .int (Int32.ofNat len)] 7)) (s₁.setTop (mkF m 0 #[.val (.ref b), .val (.int (Int32.ofNat o)), .val (.ref d), .val (.int (Int32.ofNat q)), .val (.int (Int32.ofNat len)), .unset, .unset] [])) := entry rfl
  have hA0 := hA.1.mv X0.warmed.alike hh0
  have hB0 := hB.mv X0.warmed.alike hh0
  have a31 := hA.1.2.2.2
  have c2 : Steps p.tables e below (s₁.setTop (entryFrame m #[.ref b, .int (Int32.ofNat o), .ref d, .int (Int32.ofNat q), .int (Int32.ofNat len)] 7)) (s₁.setTop (mkF m 3 #[.val (.ref b), .val (.int (Int32.ofNat o)), .val (.ref d), .val (.int (Int32.ofNat q)), .val (.int (Int32.ofNat len)), .val (.int 0), .unset] [])) := c1.trans (by
    refine iconstV X0.here hexec rfl 0 (hb hbytes d0) (by decide) ?_
    refine XS.istore X0.here hexec rfl (hb hbytes d1) rfl rfl ?_
    exact Steps.refl _)
  have loop : ∀ (r i : Nat), i + r = len → ∀ (z : Slot), (z = .unset ∨ ∃ w, z = .val w ∧ w.category = 1) → ∀ (Tl : State) (Bk : Cell), Stand p l e { frames := 0, locals := 0, cells := 0, slots := 0 } s m #[.ref b, .int (Int32.ofNat o), .ref d, .int (Int32.ofNat q), .int (Int32.ofNat len)] below meth c Tl ([] ++ copyLocs d q i) 0 0 → Put d Bk s₁ Tl → Laid B Bk q (q + i) (fun j => Value.int (lo8 (cv A (o + (j - q))))) →
      Steps p.tables e below (s₁.setTop (entryFrame m #[.ref b, .int (Int32.ofNat o), .ref d, .int (Int32.ofNat q), .int (Int32.ofNat len)] 7)) (Tl.setTop (mkF m 3 #[.val (.ref b), .val (.int (Int32.ofNat (o + i))), .val (.ref d), .val (.int (Int32.ofNat (q + i))), .val (.int (Int32.ofNat len)), .val (.int (Int32.ofNat i)), z] [])) → ∃ (T' : State) (B' : Cell) (z' : Slot), Stand p l e { frames := 0, locals := 0, cells := 0, slots := 0 } s m #[.ref b, .int (Int32.ofNat o), .ref d, .int (Int32.ofNat q), .int (Int32.ofNat len)] below meth c T' ([] ++ copyLocs d q len) 0 0 ∧ Put d B' s₁ T' ∧ Laid B B' q (q + len) (fun j => Value.int (lo8 (cv A (o + (j - q))))) ∧
      Steps p.tables e below (s₁.setTop (entryFrame m #[.ref b, .int (Int32.ofNat o), .ref d, .int (Int32.ofNat q), .int (Int32.ofNat len)] 7)) (T'.setTop (mkF m 3 #[.val (.ref b), .val (.int (Int32.ofNat (o + len))), .val (.ref d), .val (.int (Int32.ofNat (q + len))), .val (.int (Int32.ofNat len)), .val (.int (Int32.ofNat len)), z'] [])) := by
    intro r
    induction r with
    | zero =>
      intro i hi z hz Tl Bk Xl pl fl cl
      have hil : i = len := by omega
      rw [hil] at Xl fl cl
      exact ⟨Tl, Bk, z, Xl, pl, fl, cl⟩
    | succ r ih =>
      intro i hi z hz Tl Bk Xl pl fl cl
      have all := X0.warmed.alike.symm.trans Xl.warmed.alike
      have hAl := hA0.keep all (pl.other hne hA0.1)
      have hBk := hB0.like all pl.1 fl.1 fl.2.1 fl.2.2.1
      have hlt : q + i < Bk.slots.size := by rw [fl.2.2.1]; omega
      have c3 : Steps p.tables e below (s₁.setTop (entryFrame m #[.ref b, .int (Int32.ofNat o), .ref d, .int (Int32.ofNat q), .int (Int32.ofNat len)] 7)) (Tl.setTop (mkF m 12 #[.val (.ref b), .val (.int (Int32.ofNat (o + i))), .val (.ref d), .val (.int (Int32.ofNat (q + i))), .val (.int (Int32.ofNat len)), .val (.int (Int32.ofNat i)), z] [.int (Int32.ofNat (o + i)), .ref b])) := cl.trans (by
        refine XS.iload Xl.here hexec rfl (hb hbytes d3) rfl ?_
        refine XS.iload Xl.here hexec rfl (hb hbytes d5) rfl ?_
        refine XS.icmpNo Xl.here hexec rfl (hb hbytes d7) rfl (ii_ge_f (lt32 (by omega) (by omega))) ?_
        refine XS.aloadN Xl.here hexec rfl (hb hbytes d10) rfl rfl ?_
        refine XS.iloadN Xl.here hexec rfl (hb hbytes d11) rfl ?_
        exact Steps.refl _)
      have c4 : Steps p.tables e below (s₁.setTop (entryFrame m #[.ref b, .int (Int32.ofNat o), .ref d, .int (Int32.ofNat q), .int (Int32.ofNat len)] 7)) (Tl.setTop (mkF m 13 #[.val (.ref b), .val (.int (Int32.ofNat (o + i))), .val (.ref d), .val (.int (Int32.ofNat (q + i))), .val (.int (Int32.ofNat len)), .val (.int (Int32.ofNat i)), z] [.int (cv A (o + i))])) := c3.trans (by
        refine Xl.aget hexec hAl rfl (hA.get (i := o + i) (by omega)) rfl rfl (hb hbytes d12) ?_
        exact Steps.refl _)
      have c5 : Steps p.tables e below (s₁.setTop (entryFrame m #[.ref b, .int (Int32.ofNat o), .ref d, .int (Int32.ofNat q), .int (Int32.ofNat len)] 7)) (Tl.setTop (mkF m 15 #[.val (.ref b), .val (.int (Int32.ofNat (o + i))), .val (.ref d), .val (.int (Int32.ofNat (q + i))), .val (.int (Int32.ofNat len)), .val (.int (Int32.ofNat i)), .val (.int (cv A (o + i)))] [])) := c4.trans (by
        refine XS.istoreS Xl.here hexec rfl (hb hbytes d13) rfl rfl hz ?_
        exact Steps.refl _)
      have c6 : Steps p.tables e below (s₁.setTop (entryFrame m #[.ref b, .int (Int32.ofNat o), .ref d, .int (Int32.ofNat q), .int (Int32.ofNat len)] 7)) (Tl.setTop (mkF m 31 #[.val (.ref b), .val (.int (Int32.ofNat (o + i))), .val (.ref d), .val (.int (Int32.ofNat (q + i))), .val (.int (Int32.ofNat len)), .val (.int (Int32.ofNat i)), .val (.int (cv A (o + i)))] [.int (lo8 (cv A (o + i))), .int (Int32.ofNat (q + i)), .ref d])) := c5.trans (by
        refine XS.iload Xl.here hexec rfl (hb hbytes d15) rfl ?_
        refine sipushV Xl.here hexec rfl 255 (hb hbytes d17) (by decide) ?_
        refine XS.icmpYes Xl.here hexec rfl (pc0 := 20) rfl (hb hbytes d20) rfl (ii_le_t (hp i (by omega))) (by decide) rfl ?_
        refine XS.aloadN Xl.here hexec rfl (hb hbytes d26) rfl rfl ?_
        refine XS.iloadN Xl.here hexec rfl (hb hbytes d27) rfl ?_
        refine XS.iload Xl.here hexec rfl (hb hbytes d28) rfl ?_
        refine i2b Xl.here hexec rfl (hb hbytes d30) rfl ?_
        exact Steps.refl _)
      obtain ⟨T7, X7, p7, st7⟩ := Xl.aput hexec hBk rfl hlt rfl (fits_lo8 (cv A (o + i))) (g := (mkF m 31 #[.val (.ref b), .val (.int (Int32.ofNat (o + i))), .val (.ref d), .val (.int (Int32.ofNat (q + i))), .val (.int (Int32.ofNat len)), .val (.int (Int32.ofNat i)), .val (.int (cv A (o + i)))] [.int (lo8 (cv A (o + i))), .int (Int32.ofNat (q + i)), .ref d])) rfl (rest := []) rfl (hb hbytes d31)
      have c8 : Steps p.tables e below (s₁.setTop (entryFrame m #[.ref b, .int (Int32.ofNat o), .ref d, .int (Int32.ofNat q), .int (Int32.ofNat len)] 7)) (T7.setTop (mkF m 32 #[.val (.ref b), .val (.int (Int32.ofNat (o + i))), .val (.ref d), .val (.int (Int32.ofNat (q + i))), .val (.int (Int32.ofNat len)), .val (.int (Int32.ofNat i)), .val (.int (cv A (o + i)))] [])) := c6.trans (st7 _ (Steps.refl _))
      have c9 : Steps p.tables e below (s₁.setTop (entryFrame m #[.ref b, .int (Int32.ofNat o), .ref d, .int (Int32.ofNat q), .int (Int32.ofNat len)] 7)) (T7.setTop (mkF m 3 #[.val (.ref b), .val (.int (Int32.ofNat (o + i) + 1)), .val (.ref d), .val (.int (Int32.ofNat (q + i) + 1)), .val (.int (Int32.ofNat len)), .val (.int (Int32.ofNat i + 1)), .val (.int (cv A (o + i)))] [])) := c8.trans (by
        refine iincV X7.here hexec rfl 1 (hb hbytes d32) (by decide) rfl rfl ?_
        refine iincV X7.here hexec rfl 1 (hb hbytes d35) (by decide) rfl rfl ?_
        refine iincV X7.here hexec rfl 1 (hb hbytes d38) (by decide) rfl rfl ?_
        refine XS.goto X7.here hexec rfl (pc0 := 41) rfl (hb hbytes d41) (by decide) rfl ?_
        exact Steps.refl _)
      have c10 : Steps p.tables e below (s₁.setTop (entryFrame m #[.ref b, .int (Int32.ofNat o), .ref d, .int (Int32.ofNat q), .int (Int32.ofNat len)] 7)) (T7.setTop (mkF m 3 #[.val (.ref b), .val (.int (Int32.ofNat (o + (i + 1)))), .val (.ref d), .val (.int (Int32.ofNat (q + (i + 1)))), .val (.int (Int32.ofNat len)), .val (.int (Int32.ofNat (i + 1))), .val (.int (cv A (o + i)))] [])) := by
        have := c9
        rw [succ32, succ32, succ32] at this
        exact this
      exact ih (i + 1) (by omega) _ (Or.inr ⟨_, rfl, rfl⟩) T7 _ (by rw [copyLocs_step, ← List.append_assoc]; exact X7) (pl.trans p7) (fl.step (by omega) hlt (by simp)) c10
  obtain ⟨T9, B9, z9, X9, p9, f9, g9⟩ := loop len 0 (by omega) .unset (Or.inl rfl) s₁ B (by simpa [copyLocs] using X0) ⟨hB0.1, fun _ _ => rfl, rfl⟩ (Laid.zero _ _ _) c2
  have c11 : Steps p.tables e below (s₁.setTop (entryFrame m #[.ref b, .int (Int32.ofNat o), .ref d, .int (Int32.ofNat q), .int (Int32.ofNat len)] 7)) (T9.setTop (mkF m 46 #[.val (.ref b), .val (.int (Int32.ofNat (o + len))), .val (.ref d), .val (.int (Int32.ofNat (q + len))), .val (.int (Int32.ofNat len)), .val (.int (Int32.ofNat len)), z9] [.int (Int32.ofNat len)])) := g9.trans (by
    refine XS.iload X9.here hexec rfl (hb hbytes d3) rfl ?_
    refine XS.iload X9.here hexec rfl (hb hbytes d5) rfl ?_
    refine XS.icmpYes X9.here hexec rfl (pc0 := 7) rfl (hb hbytes d7) rfl (ii_ge_t (nlt32 (by omega) (Nat.le_refl _))) (by decide) rfl ?_
    refine XS.iload X9.here hexec rfl (hb hbytes d44) rfl ?_
    exact Steps.refl _)
  exact ⟨T9, some (.int (Int32.ofNat len)), _, _, _, X9, by simp, rfl, rfl, (fun h => by cases h), ⟨rfl, B9, p9.from hh0, f9⟩, fun fs hl => c11.trans (X9.ireturnOut hexec hret rfl (Or.inl rfl) (hb hbytes d46) hl)⟩
end Cmp5
namespace Cmp3
def yN : MethodName := ⟨"java/lang/StringUTF16", "compress", "([CII)[B"⟩
abbrev yB : ByteArray := jdk_52_method_16_code
theorem d0 : decode yB 0 = .ok (.iload_n 2, 1) := by decide +kernel
theorem d1 : decode yB 1 = .ok (.newarray .byte, 2) := by decide +kernel
theorem d3 : decode yB 3 = .ok (.astore_n 3, 1) := by decide +kernel
theorem d4 : decode yB 4 = .ok (.aload_n 0, 1) := by decide +kernel
theorem d5 : decode yB 5 = .ok (.iload_n 1, 1) := by decide +kernel
theorem d6 : decode yB 6 = .ok (.aload_n 3, 1) := by decide +kernel
theorem d7 : decode yB 7 = .ok (.iconst 0, 1) := by decide +kernel
theorem d8 : decode yB 8 = .ok (.iload_n 2, 1) := by decide +kernel
theorem d9 : decode yB 9 = .ok (.invokestatic 115, 3) := by decide +kernel
theorem d12 : decode yB 12 = .ok (.istore 4, 2) := by decide +kernel
theorem d14 : decode yB 14 = .ok (.iload 4, 2) := by decide +kernel
theorem d16 : decode yB 16 = .ok (.iload_n 2, 1) := by decide +kernel
theorem d17 : decode yB 17 = .ok (.if_icmp (.eq) 40, 3) := by decide +kernel
theorem d57 : decode yB 57 = .ok (.aload_n 3, 1) := by decide +kernel
theorem d58 : decode yB 58 = .ok (.areturn, 1) := by decide +kernel
def site : List Cond := [.arrayClass .byte, Cmp5.tab] ++ staticW U16 115 Cmp5.yN
def tab : Cond := tabOf yN yB 6 (some (.array .byte)) site
def P (b : Addr) (A : Cell) (o len : Nat) (args : Array Value) (s : State) : Prop := args = #[.ref b, .int (Int32.ofNat o), .int (Int32.ofNat len)] ∧ Ch b A s ∧ o + len ≤ A.slots.size ∧ len ≤ 536870912 ∧ ∀ i, i < len → ¬ 255 < cv A (o + i)
def E (b : Addr) (A : Cell) (o len : Nat) (r : Option Value) (s u : State) : Prop := NewArr .byte "[B" len (fun j => .int (lo8 (cv A (o + j)))) r s u ∧ u.heap.size = s.heap.size + 1
/-- no char of the range above 255: a new byte[] of their low bytes -/
theorem law (l : Launch) (b : Addr) (A : Cell) (o len : Nat) : Law l yN 3 3 1 18 yB 6 (some (.array .byte)) site (P b A o len) (E b A o len) [] 1 len := by
  refine Law.of_walk (plainFor_of_name (by decide +kernel)) (by decide +kernel) (by decide +kernel) (by decide) (fun _ _ h => by rw [h.1]; rfl) (fun _ U U' hal hh h => ⟨h.1, h.2.1.mv hal hh, h.2.2⟩) (fun r U U' V V' h1 hal h2 h => ⟨NewArr.mv r U U' V V' h1 hal h2 h.1, by rw [h1, h2]; exact h.2⟩) ?_
  intro p e s m args below meth c s₁ X0 hexec hbytes hml hret hlk hnm hown hh0 W hP
  obtain ⟨rfl, hA, l1, l2, hp⟩ := hP
  have a31 := hA.1.2.2.2
  have c1 : Steps p.tables e below (s₁.setTop (entryFrame m #[.ref b, .int (Int32.ofNat o), .int (Int32.ofNat len)] 6)) (s₁.setTop (mkF m 0 #[.val (.ref b), .val (.int (Int32.ofNat o)), .val (.int (Int32.ofNat len)), .unset, .unset, .unset] [])) := entry rfl
  have c2 : Steps p.tables e below (s₁.setTop (entryFrame m #[.ref b, .int (Int32.ofNat o), .int (Int32.ofNat len)] 6)) (s₁.setTop (mkF m 1 #[.val (.ref b), .val (.int (Int32.ofNat o)), .val (.int (Int32.ofNat len)), .unset, .unset, .unset] [.int (Int32.ofNat len)])) := c1.trans (by
    refine XS.iloadN X0.here hexec rfl (hb hbytes d0) rfl ?_
    exact Steps.refl _)
  obtain ⟨T3, B3, X3, ba3, bs3, bv3, bh3, bf3, st3⟩ := X0.anew hexec (atype := .byte) (wk W (.arrayClass .byte)) rfl (by show len * 1 ≤ _; omega) (by omega) (g := (mkF m 1 #[.val (.ref b), .val (.int (Int32.ofNat o)), .val (.int (Int32.ofNat len)), .unset, .unset, .unset] [.int (Int32.ofNat len)])) rfl (hb hbytes d1) (rest := []) rfl (Nat.le_refl _) (by show 0 + len ≤ len; omega)
  rw [hh0] at ba3 st3
  have kp3 : XT.Kept s T3 := (XT.Kept.of_eq hh0).push bh3
  have hA3 := hA.keep X3.warmed.alike (kp3 _ _ hA.1.1)
  have hne : b ≠ s.heap.size := hA.1.ne
  have c4 : Steps p.tables e below (s₁.setTop (entryFrame m #[.ref b, .int (Int32.ofNat o), .int (Int32.ofNat len)] 6)) (T3.setTop (mkF m 3 #[.val (.ref b), .val (.int (Int32.ofNat o)), .val (.int (Int32.ofNat len)), .unset, .unset, .unset] [.ref s.heap.size])) := c2.trans (st3 _ (Steps.refl _))
  have c5 : Steps p.tables e below (s₁.setTop (entryFrame m #[.ref b, .int (Int32.ofNat o), .int (Int32.ofNat len)] 6)) (T3.setTop (mkF m 9 #[.val (.ref b), .val (.int (Int32.ofNat o)), .val (.int (Int32.ofNat len)), .val (.ref s.heap.size), .unset, .unset] [.int (Int32.ofNat len), .int 0, .ref s.heap.size, .int (Int32.ofNat o), .ref b])) := c4.trans (by
    refine XS.astoreN X3.here hexec rfl (hb hbytes d3) rfl rfl rfl ?_
    refine XS.aloadN X3.here hexec rfl (hb hbytes d4) rfl rfl ?_
    refine XS.iloadN X3.here hexec rfl (hb hbytes d5) rfl ?_
    refine XS.aloadN X3.here hexec rfl (hb hbytes d6) rfl rfl ?_
    refine iconstV X3.here hexec rfl 0 (hb hbytes d7) (by decide) ?_
    refine XS.iloadN X3.here hexec rfl (hb hbytes d8) rfl ?_
    exact Steps.refl _)
  obtain ⟨v6, T6, X6, E6, g6⟩ := X3.callS hexec (Cmp5.law l b A s.heap.size B3 o 0 len) hown (wks W (staticW U16 115 Cmp5.yN)) (wk W Cmp5.tab) (W := 0) (Nat.le_of_ble_eq_true rfl) (Nat.le_of_ble_eq_true rfl) (Nat.le_refl _) (by show 0 + len + 0 ≤ len; omega) (g := (mkF m 9 #[.val (.ref b), .val (.int (Int32.ofNat o)), .val (.int (Int32.ofNat len)), .val (.ref s.heap.size), .unset, .unset] [.int (Int32.ofNat len), .int (Int32.ofNat 0), .ref s.heap.size, .int (Int32.ofNat o), .ref b])) rfl (by rw [hml]; rfl) c5 (argsL := [.ref b, .int (Int32.ofNat o), .ref s.heap.size, .int (Int32.ofNat 0), .int (Int32.ofNat len)]) (rest := []) rfl rfl (by show 2 * 0 + 0 ≤ _; decide) (hb hbytes d9) (⟨rfl, hA3, ba3, hne, l1, by rw [bs3]; simp, hp⟩)
  obtain ⟨rfl, B6, p6, f6⟩ := E6
  have c7 : Steps p.tables e below (s₁.setTop (entryFrame m #[.ref b, .int (Int32.ofNat o), .int (Int32.ofNat len)] 6)) (T6.setTop (mkF m 12 #[.val (.ref b), .val (.int (Int32.ofNat o)), .val (.int (Int32.ofNat len)), .val (.ref s.heap.size), .unset, .unset] [.int (Int32.ofNat len)])) := g6
  have c8 : Steps p.tables e below (s₁.setTop (entryFrame m #[.ref b, .int (Int32.ofNat o), .int (Int32.ofNat len)] 6)) (T6.setTop (mkF m 58 #[.val (.ref b), .val (.int (Int32.ofNat o)), .val (.int (Int32.ofNat len)), .val (.ref s.heap.size), .val (.int (Int32.ofNat len)), .unset] [.ref s.heap.size])) := c7.trans (by
    refine XS.istore X6.here hexec rfl (hb hbytes d12) rfl rfl ?_
    refine XS.iload X6.here hexec rfl (hb hbytes d14) rfl ?_
    refine XS.iloadN X6.here hexec rfl (hb hbytes d16) rfl ?_
    refine XS.icmpYes X6.here hexec rfl (pc0 := 17) rfl (hb hbytes d17) rfl (ii_eq_t rfl) (by decide) rfl ?_
    refine XS.aloadN X6.here hexec rfl (hb hbytes d57) rfl rfl ?_
    exact Steps.refl _)
  have X8 := X6.wide (L' := []) (cells' := 1) (slots' := len) (fun x hx hlt => by
    simp only [List.nil_append, copyLocs, List.mem_map, List.mem_range] at hx
    obtain ⟨i, -, rfl⟩ := hx
    exact absurd hlt (Nat.lt_irrefl _)) (Nat.le_refl _) (by omega)
  exact ⟨T6, some (.ref s.heap.size), _, _, _, X8, rfl, rfl, rfl, (fun h => by cases h), ⟨⟨rfl, B6, ba3.like (X3.warmed.alike.symm.trans X6.warmed.alike) p6.1 f6.1 f6.2.1 f6.2.2.1, f6.2.1.trans bv3, by rw [X6.warmed.alike.findClass, f6.1]; exact bf3, by rw [f6.2.2.1, bs3]; simp, fun j hj => by rw [f6.2.2.2 j, if_pos (by omega)]; rfl, kp3.put p6 (Nat.le_refl _)⟩, by rw [p6.2.2, bh3, hh0]; simp⟩, fun fs hl => c8.trans (X8.areturnOut hexec rfl hret rfl (hb hbytes d58) hl)⟩
end Cmp3
namespace CodL
def yN : MethodName := ⟨"java/lang/StringUTF16", "coderFromArrayLen", "([BI)B"⟩
abbrev yB : ByteArray := jdk_52_method_15_code
theorem d0 : decode yB 0 = .ok (.iload_n 1, 1) := by decide +kernel
theorem d1 : decode yB 1 = .ok (.aload_n 0, 1) := by decide +kernel
theorem d2 : decode yB 2 = .ok (.arraylength, 1) := by decide +kernel
theorem d3 : decode yB 3 = .ok (.isub, 1) := by decide +kernel
theorem d4 : decode yB 4 = .ok (.bipush 31, 2) := by decide +kernel
theorem d6 : decode yB 6 = .ok (.iushr, 1) := by decide +kernel
theorem d7 : decode yB 7 = .ok (.i2b, 1) := by decide +kernel
theorem d8 : decode yB 8 = .ok (.ireturn, 1) := by decide +kernel
def site : List Cond := []
def tab : Cond := tabOf yN yB 2 (some .byte) site
def P (d : Addr) (B : Cell) (args : Array Value) (s : State) : Prop := args = #[.ref d, .int (Int32.ofNat B.slots.size)] ∧ Arr .byte d B s
def E (r : Option Value) (s u : State) : Prop := XT.PureE (some (.int 0)) r s u
/-- an array as long as the number of chars: LATIN1 -/
theorem law (l : Launch) (d : Addr) (B : Cell) : Law l yN 2 2 0 0 yB 2 (some .byte) site (P d B) E [] 0 0 := by
  refine Law.of_walk (plainFor_of_name (by decide +kernel)) (by decide +kernel) (by decide +kernel) (by decide) (fun _ _ h => by rw [h.1]; rfl) (fun _ U U' hal hh h => ⟨h.1, h.2.mv hal hh⟩) (fun r U U' V V' h1 hal h2 h => XT.PureE.mv r U U' V V' h1 hal h2 h) ?_
  intro p e s m args below meth c s₁ X0 hexec hbytes hml hret hlk hnm hown hh0 W hP
  obtain ⟨rfl, hB⟩ := hP
  have hB0 := hB.mv X0.warmed.alike hh0
  have c1 : Steps p.tables e below (s₁.setTop (entryFrame m #[.ref d, .int (Int32.ofNat B.slots.size)] 2)) (s₁.setTop (mkF m 0 #[.val (.ref d), .val (.int (Int32.ofNat B.slots.size))] [])) := entry rfl
  have c2 : Steps p.tables e below (s₁.setTop (entryFrame m #[.ref d, .int (Int32.ofNat B.slots.size)] 2)) (s₁.setTop (mkF m 2 #[.val (.ref d), .val (.int (Int32.ofNat B.slots.size))] [.ref d, .int (Int32.ofNat B.slots.size)])) := c1.trans (by
    refine XS.iloadN X0.here hexec rfl (hb hbytes d0) rfl ?_
    refine XS.aloadN X0.here hexec rfl (hb hbytes d1) rfl rfl ?_
    exact Steps.refl _)
  have c3 : Steps p.tables e below (s₁.setTop (entryFrame m #[.ref d, .int (Int32.ofNat B.slots.size)] 2)) (s₁.setTop (mkF m 8 #[.val (.ref d), .val (.int (Int32.ofNat B.slots.size))] [.int (lo8 (ushr (Int32.ofNat B.slots.size - Int32.ofNat B.slots.size) 31))])) := c2.trans (by
    refine X0.alen hexec hB0 rfl rfl (hb hbytes d2) ?_
    refine XS.isub X0.here hexec rfl (hb hbytes d3) rfl ?_
    refine bipushV X0.here hexec rfl 31 (hb hbytes d4) (by decide) ?_
    refine iushr X0.here hexec rfl (hb hbytes d6) rfl ?_
    refine i2b X0.here hexec rfl (hb hbytes d7) rfl ?_
    exact Steps.refl _)
  have e0 : lo8 (ushr (Int32.ofNat B.slots.size - Int32.ofNat B.slots.size) 31) = 0 := by rw [Int32.sub_self]; decide
  rw [e0] at c3
  exact ⟨s₁, some (.int 0), _, _, _, X0, rfl, rfl, rfl, (fun h => by cases h), ⟨rfl, hh0⟩, fun fs hl => c3.trans (X0.ireturnOut hexec hret rfl (Or.inr (Or.inr (Or.inl rfl))) (hb hbytes d8) hl)⟩
end CodL
/-- the String at a is Latin-1 over a new byte[] (the heap's one new cell): the low bytes of the len chars of A from o on; every cell but a is kept -/
def Got (a : Addr) (D : Cell) (fV fC : Field) (A : Cell) (o len : Nat) (r : Option Value) (s u : State) : Prop := r = none ∧ ∃ D' V : Cell, Blank "java/lang/String" a D' u ∧ Same D D' [fV.slot, fC.slot] ∧ D'.slots[fV.slot]? = some (.ref s.heap.size) ∧ D'.slots[fC.slot]? = some (.int 0) ∧ Arr .byte s.heap.size V u ∧ V.vm = .none ∧ u.vm.findClass "[B" = some V.cls ∧ V.slots.size = len ∧ (∀ j, j < len → V.slots[j]? = some (.int (lo8 (cv A (o + j))))) ∧ (∀ (y : Addr) (c : Cell), y ≠ a → s.heap[y]? = some c → u.heap[y]? = some c) ∧ u.heap.size = s.heap.size + 1
theorem Got.mv {a : Addr} {D A : Cell} {fV fC : Field} {o len : Nat} : ∀ r (U U' V V' : State), U'.heap = U.heap → V.vm.Alike V'.vm → V'.heap = V.heap → Got a D fV fC A o len r U V → Got a D fV fC A o len r U' V' :=
  fun r U U' V V' h1 hal h2 ⟨e0, D', X, a1, a2, a3, a4, a5, a6, a7, a8, a9, a10, a11⟩ => ⟨e0, D', X, a1.mv hal h2, a2, by rw [h1]; exact a3, a4, by rw [h1]; exact a5.mv hal h2, a6, by rw [hal.findClass]; exact a7, a8, a9, by rw [h1, h2]; exact a10, by rw [h1, h2]; exact a11⟩
namespace New4
def yN : MethodName := ⟨"java/lang/String", "<init>", "([CIILjava/lang/Void;)V"⟩
abbrev yB : ByteArray := jdk_42_method_149_code
theorem d0 : decode yB 0 = .ok (.aload_n 0, 1) := by decide +kernel
theorem d1 : decode yB 1 = .ok (.invokespecial 1, 3) := by decide +kernel
theorem d4 : decode yB 4 = .ok (.iload_n 3, 1) := by decide +kernel
theorem d5 : decode yB 5 = .ok (.ifCond (.ne) 22, 3) := by decide +kernel
theorem d27 : decode yB 27 = .ok (.getstatic 38, 3) := by decide +kernel
theorem d30 : decode yB 30 = .ok (.ifCond (.eq) 28, 3) := by decide +kernel
theorem d33 : decode yB 33 = .ok (.aload_n 1, 1) := by decide +kernel
theorem d34 : decode yB 34 = .ok (.iload_n 2, 1) := by decide +kernel
theorem d35 : decode yB 35 = .ok (.iload_n 3, 1) := by decide +kernel
theorem d36 : decode yB 36 = .ok (.invokestatic 177, 3) := by decide +kernel
theorem d39 : decode yB 39 = .ok (.astore 5, 2) := by decide +kernel
theorem d41 : decode yB 41 = .ok (.aload_n 0, 1) := by decide +kernel
theorem d42 : decode yB 42 = .ok (.aload 5, 2) := by decide +kernel
theorem d44 : decode yB 44 = .ok (.iload_n 3, 1) := by decide +kernel
theorem d45 : decode yB 45 = .ok (.invokestatic 47, 3) := by decide +kernel
theorem d48 : decode yB 48 = .ok (.putfield 15, 3) := by decide +kernel
theorem d51 : decode yB 51 = .ok (.aload_n 0, 1) := by decide +kernel
theorem d52 : decode yB 52 = .ok (.aload 5, 2) := by decide +kernel
theorem d54 : decode yB 54 = .ok (.putfield 9, 3) := by decide +kernel
theorem d57 : decode yB 57 = .ok (.return_, 1) := by decide +kernel
def site : List Cond := [.fieldLink "java/lang/String" 38 "java/lang/String" "COMPACT_STRINGS" "Z", Cmp3.tab, CodL.tab, .laysFinal "java/lang/String" "java/lang/String" "value" "[B", .fieldLink "java/lang/String" 9 "java/lang/String" "value" "[B", .laysFinal "java/lang/String" "java/lang/String" "coder" "B", .fieldLink "java/lang/String" 15 "java/lang/String" "coder" "B"] ++ objW "java/lang/String" 1 ++ staticW "java/lang/String" 177 Cmp3.yN ++ staticW "java/lang/String" 47 CodL.yN
def tab : Cond := tabOf yN yB 6 none site
def P (a : Addr) (D : Cell) (fV fC : Field) (b : Addr) (A : Cell) (z : Int32) (o len : Nat) (args : Array Value) (s : State) : Prop := args = #[.ref a, .ref b, .int (Int32.ofNat o), .int (Int32.ofNat len), .null] ∧ Blank "java/lang/String" a D s ∧ Found "java/lang/String" "value" "[B" fV s ∧ Found "java/lang/String" "coder" "B" fC s ∧ Ch b A s ∧ StaticIs s "java/lang/String" "COMPACT_STRINGS" "Z" (.int z) ∧ ¬ z = 0 ∧ 0 < len ∧ o + len ≤ A.slots.size ∧ len ≤ 536870912 ∧ ∀ i, i < len → ¬ 255 < cv A (o + i)
def E (a : Addr) (D : Cell) (fV fC : Field) (A : Cell) (o len : Nat) (r : Option Value) (s u : State) : Prop := Got a D fV fC A o len r s u
/-- len > 0, no char of the range above 255: a Latin-1 String of their low bytes -/
theorem law (l : Launch) (a : Addr) (D : Cell) (fV fC : Field) (b : Addr) (A : Cell) (z : Int32) (o len : Nat) : Law l yN 5 4 2 35 yB 6 none site (P a D fV fC b A z o len) (E a D fV fC A o len) [⟨a, fC.slot⟩, ⟨a, fV.slot⟩] 1 len := by
  refine Law.of_walk (plainFor_of_name (by decide +kernel)) (by decide +kernel) (by decide +kernel) (by decide) (fun _ _ h => by rw [h.1]; rfl) (fun _ U U' hal hh h => ⟨h.1, h.2.1.mv hal hh, h.2.2.1.al hal, h.2.2.2.1.al hal, h.2.2.2.2.1.mv hal hh, h.2.2.2.2.2.1.there hal hh, h.2.2.2.2.2.2⟩) (fun r U U' V V' h1 hal h2 h => Got.mv r U U' V V' h1 hal h2 h) ?_
  intro p e s m args below meth c s₁ X0 hexec hbytes hml hret hlk hnm hown hh0 W hP
  obtain ⟨rfl, hB, f1, f2, hA, s1, hz, l0, l1, l2, hp⟩ := hP
  have a31 := hA.1.2.2.2
  have c1 : Steps p.tables e below (s₁.setTop (entryFrame m #[.ref a, .ref b, .int (Int32.ofNat o), .int (Int32.ofNat len), .null] 6)) (s₁.setTop (mkF m 0 #[.val (.ref a), .val (.ref b), .val (.int (Int32.ofNat o)), .val (.int (Int32.ofNat len)), .val .null, .unset] [])) := entry rfl
  have c2 : Steps p.tables e below (s₁.setTop (entryFrame m #[.ref a, .ref b, .int (Int32.ofNat o), .int (Int32.ofNat len), .null] 6)) (s₁.setTop (mkF m 1 #[.val (.ref a), .val (.ref b), .val (.int (Int32.ofNat o)), .val (.int (Int32.ofNat len)), .val .null, .unset] [.ref a])) := c1.trans (by
    refine XS.aloadN X0.here hexec rfl (hb hbytes d0) rfl rfl ?_
    exact Steps.refl _)
  obtain ⟨T3, X3, q3, st3⟩ := X0.oinit hexec hown (wks W (objW "java/lang/String" 1)) (g := (mkF m 1 #[.val (.ref a), .val (.ref b), .val (.int (Int32.ofNat o)), .val (.int (Int32.ofNat len)), .val .null, .unset] [.ref a])) rfl (by rw [hml]; rfl) (rest := []) rfl (hb hbytes d1) (W := 0) (by show 2 * 0 + 0 ≤ _; decide) (Nat.le_of_ble_eq_true rfl) (Nat.le_of_ble_eq_true rfl)
  have hh3 := q3.trans hh0
  have c4 : Steps p.tables e below (s₁.setTop (entryFrame m #[.ref a, .ref b, .int (Int32.ofNat o), .int (Int32.ofNat len), .null] 6)) (T3.setTop (mkF m 27 #[.val (.ref a), .val (.ref b), .val (.int (Int32.ofNat o)), .val (.int (Int32.ofNat len)), .val .null, .unset] [])) := (c2.trans (st3 _ (Steps.refl _))).trans (by
    refine XS.iloadN X3.here hexec rfl (hb hbytes d4) rfl ?_
    refine XS.ifYes X3.here hexec rfl (pc0 := 5) rfl (hb hbytes d5) rfl (i0_ne_t (nz32 (by omega) l0)) (by decide) rfl ?_
    exact Steps.refl _)
  obtain ⟨T5, X5, q5, st5⟩ := X3.sget hexec hown (wk W (.fieldLink "java/lang/String" 38 "java/lang/String" "COMPACT_STRINGS" "Z")) s1 (fun _ _ h => by rw [hh3]; exact h) (g := (mkF m 27 #[.val (.ref a), .val (.ref b), .val (.int (Int32.ofNat o)), .val (.int (Int32.ofNat len)), .val .null, .unset] [])) rfl (hb hbytes d27)
  have hh5 := q5.trans hh3
  have c6 : Steps p.tables e below (s₁.setTop (entryFrame m #[.ref a, .ref b, .int (Int32.ofNat o), .int (Int32.ofNat len), .null] 6)) (T5.setTop (mkF m 30 #[.val (.ref a), .val (.ref b), .val (.int (Int32.ofNat o)), .val (.int (Int32.ofNat len)), .val .null, .unset] [.int z])) := c4.trans (st5 _ (Steps.refl _))
  have c7 : Steps p.tables e below (s₁.setTop (entryFrame m #[.ref a, .ref b, .int (Int32.ofNat o), .int (Int32.ofNat len), .null] 6)) (T5.setTop (mkF m 36 #[.val (.ref a), .val (.ref b), .val (.int (Int32.ofNat o)), .val (.int (Int32.ofNat len)), .val .null, .unset] [.int (Int32.ofNat len), .int (Int32.ofNat o), .ref b])) := c6.trans (by
    refine XS.ifNo X5.here hexec rfl (hb hbytes d30) rfl (i0_eq_f hz) ?_
    refine XS.aloadN X5.here hexec rfl (hb hbytes d33) rfl rfl ?_
    refine XS.iloadN X5.here hexec rfl (hb hbytes d34) rfl ?_
    refine XS.iloadN X5.here hexec rfl (hb hbytes d35) rfl ?_
    exact Steps.refl _)
  obtain ⟨v8, T8, X8, E8, g8⟩ := X5.callS hexec (Cmp3.law l b A o len) hown (wks W (staticW "java/lang/String" 177 Cmp3.yN)) (wk W Cmp3.tab) (W := 0) (Nat.le_of_ble_eq_true rfl) (Nat.le_of_ble_eq_true rfl) (Nat.le_refl _) (by show 0 + len ≤ len; omega) (g := (mkF m 36 #[.val (.ref a), .val (.ref b), .val (.int (Int32.ofNat o)), .val (.int (Int32.ofNat len)), .val .null, .unset] [.int (Int32.ofNat len), .int (Int32.ofNat o), .ref b])) rfl (by rw [hml]; rfl) c7 (argsL := [.ref b, .int (Int32.ofNat o), .int (Int32.ofNat len)]) (rest := []) rfl rfl (by show 2 * 0 + 0 ≤ _; decide) (hb hbytes d36) (⟨rfl, hA.mv X5.warmed.alike hh5, l1, l2, hp⟩)
  obtain ⟨e8, z8⟩ := E8
  obtain ⟨rfl, N, n1, n2, n3, n4, n5, n6⟩ := NewArr.mv _ T5 s _ _ hh5.symm (Vm.Alike.refl _) rfl e8
  rw [hh5] at z8
  have hB1 := hB.keep X8.warmed.alike (n6 _ _ hB.1)
  have hne : s.heap.size ≠ a := (Nat.ne_of_lt (Array.getElem?_eq_some_iff.mp hB.1).1).symm
  have c9 : Steps p.tables e below (s₁.setTop (entryFrame m #[.ref a, .ref b, .int (Int32.ofNat o), .int (Int32.ofNat len), .null] 6)) (T8.setTop (mkF m 39 #[.val (.ref a), .val (.ref b), .val (.int (Int32.ofNat o)), .val (.int (Int32.ofNat len)), .val .null, .unset] [.ref s.heap.size])) := g8
  have c10 : Steps p.tables e below (s₁.setTop (entryFrame m #[.ref a, .ref b, .int (Int32.ofNat o), .int (Int32.ofNat len), .null] 6)) (T8.setTop (mkF m 45 #[.val (.ref a), .val (.ref b), .val (.int (Int32.ofNat o)), .val (.int (Int32.ofNat len)), .val .null, .val (.ref s.heap.size)] [.int (Int32.ofNat N.slots.size), .ref s.heap.size, .ref a])) := by
    have hc : Steps p.tables e below (s₁.setTop (entryFrame m #[.ref a, .ref b, .int (Int32.ofNat o), .int (Int32.ofNat len), .null] 6)) (T8.setTop (mkF m 45 #[.val (.ref a), .val (.ref b), .val (.int (Int32.ofNat o)), .val (.int (Int32.ofNat len)), .val .null, .val (.ref s.heap.size)] [.int (Int32.ofNat len), .ref s.heap.size, .ref a])) := c9.trans (by
      refine XS.astore X8.here hexec rfl (hb hbytes d39) rfl rfl rfl ?_
      refine XS.aloadN X8.here hexec rfl (hb hbytes d41) rfl rfl ?_
      refine XS.aload X8.here hexec rfl (hb hbytes d42) rfl rfl ?_
      refine XS.iloadN X8.here hexec rfl (hb hbytes d44) rfl ?_
      exact Steps.refl _)
    rw [n4]; exact hc
  obtain ⟨v11, T11, X11, E11, g11⟩ := X8.callS hexec (CodL.law l s.heap.size N) hown (wks W (staticW "java/lang/String" 47 CodL.yN)) (wk W CodL.tab) (W := 1) (Nat.le_of_ble_eq_true rfl) (Nat.le_of_ble_eq_true rfl) (Nat.le_refl _) (by show 0 + len + 0 ≤ len; omega) (g := (mkF m 45 #[.val (.ref a), .val (.ref b), .val (.int (Int32.ofNat o)), .val (.int (Int32.ofNat len)), .val .null, .val (.ref s.heap.size)] [.int (Int32.ofNat N.slots.size), .ref s.heap.size, .ref a])) rfl (by rw [hml]; rfl) c10 (argsL := [.ref s.heap.size, .int (Int32.ofNat N.slots.size)]) (rest := [.ref a]) rfl rfl (by show 2 * 0 + (1 + 0) ≤ _; decide) (hb hbytes d45) (⟨rfl, n1⟩)
  obtain ⟨rfl, q11⟩ := E11
  have hB11 := hB1.mv (X8.warmed.alike.symm.trans X11.warmed.alike) q11
  have c12 : Steps p.tables e below (s₁.setTop (entryFrame m #[.ref a, .ref b, .int (Int32.ofNat o), .int (Int32.ofNat len), .null] 6)) (T11.setTop (mkF m 48 #[.val (.ref a), .val (.ref b), .val (.int (Int32.ofNat o)), .val (.int (Int32.ofNat len)), .val .null, .val (.ref s.heap.size)] [.int 0, .ref a])) := g11
  obtain ⟨T13, X13, p13, bl13, sl13, st13⟩ := X11.finit hexec hown (wk W (.fieldLink "java/lang/String" 15 "java/lang/String" "coder" "B")) (Or.inr ⟨_, (wk W (.laysFinal "java/lang/String" "java/lang/String" "coder" "B"))⟩) (Or.inl ⟨rfl, hnm⟩) f2 (Or.inl rfl) hB11 (t := .byte) (by decide +kernel) rfl (g := (mkF m 48 #[.val (.ref a), .val (.ref b), .val (.int (Int32.ofNat o)), .val (.int (Int32.ofNat len)), .val .null, .val (.ref s.heap.size)] [.int 0, .ref a])) rfl (rest := []) rfl (hb hbytes d48)
  have c14 : Steps p.tables e below (s₁.setTop (entryFrame m #[.ref a, .ref b, .int (Int32.ofNat o), .int (Int32.ofNat len), .null] 6)) (T13.setTop (mkF m 54 #[.val (.ref a), .val (.ref b), .val (.int (Int32.ofNat o)), .val (.int (Int32.ofNat len)), .val .null, .val (.ref s.heap.size)] [.ref s.heap.size, .ref a])) := (c12.trans (st13 _ (Steps.refl _))).trans (by
    refine XS.aloadN X13.here hexec rfl (hb hbytes d51) rfl rfl ?_
    refine XS.aload X13.here hexec rfl (hb hbytes d52) rfl rfl ?_
    exact Steps.refl _)
  obtain ⟨T15, X15, p15, bl15, sl15, st15⟩ := X13.finit hexec hown (wk W (.fieldLink "java/lang/String" 9 "java/lang/String" "value" "[B")) (Or.inr ⟨_, (wk W (.laysFinal "java/lang/String" "java/lang/String" "value" "[B"))⟩) (Or.inl ⟨rfl, hnm⟩) f1 (Or.inl rfl) bl13 (t := (.array .byte)) (by decide +kernel) rfl (g := (mkF m 54 #[.val (.ref a), .val (.ref b), .val (.int (Int32.ofNat o)), .val (.int (Int32.ofNat len)), .val .null, .val (.ref s.heap.size)] [.ref s.heap.size, .ref a])) rfl (rest := []) rfl (hb hbytes d54)
  have c16 : Steps p.tables e below (s₁.setTop (entryFrame m #[.ref a, .ref b, .int (Int32.ofNat o), .int (Int32.ofNat len), .null] 6)) (T15.setTop (mkF m 57 #[.val (.ref a), .val (.ref b), .val (.int (Int32.ofNat o)), .val (.int (Int32.ofNat len)), .val .null, .val (.ref s.heap.size)] [])) := c14.trans (st15 _ (Steps.refl _))
  have ap := apart (Or.inr ⟨_, (wk W (.laysFinal "java/lang/String" "java/lang/String" "value" "[B"))⟩) (Or.inr ⟨_, (wk W (.laysFinal "java/lang/String" "java/lang/String" "coder" "B"))⟩) f1 f2 (t₁ := .array .byte) (t₂ := .byte) (by decide +kernel) (by decide +kernel) (by decide)
  have al := X8.warmed.alike.symm.trans X15.warmed.alike
  have n7 : T11.heap[s.heap.size]? = some N := by rw [q11]; exact n1.1
  exact ⟨T15, none, _, _, _, X15, by simp, rfl, by omega, (fun _ => rfl), ⟨rfl, _, N, bl15, ((Same.refl D _).set _ (by simp)).set _ (by simp), sl15, (Cell.slots_setSlot_ne _ ap).trans sl13, n1.keep al (p15.other hne (p13.other hne n7)), n2, by rw [al.findClass]; exact n3, n4, n5, fun y c h1 h2 => p15.other h1 (p13.other h1 (by rw [q11]; exact n6 y c h2)), by rw [p15.2.2, p13.2.2, q11]; exact z8⟩, fun fs hl => c16.trans (X15.returnOut hexec hret (hb hbytes d57) hl)⟩
end New4
namespace New1
def yN : MethodName := ⟨"java/lang/String", "<init>", "([C)V"⟩
abbrev yB : ByteArray := jdk_42_method_3_code
theorem d0 : decode yB 0 = .ok (.aload_n 0, 1) := by decide +kernel
theorem d1 : decode yB 1 = .ok (.aload_n 1, 1) := by decide +kernel
theorem d2 : decode yB 2 = .ok (.iconst 0, 1) := by decide +kernel
theorem d3 : decode yB 3 = .ok (.aload_n 1, 1) := by decide +kernel
theorem d4 : decode yB 4 = .ok (.arraylength, 1) := by decide +kernel
theorem d5 : decode yB 5 = .ok (.aconst_null, 1) := by decide +kernel
theorem d6 : decode yB 6 = .ok (.invokespecial 27, 3) := by decide +kernel
theorem d9 : decode yB 9 = .ok (.return_, 1) := by decide +kernel
def site : List Cond := [New4.tab] ++ initW "java/lang/String" 27 New4.yN
def tab : Cond := tabOf yN yB 2 none site
def P (a : Addr) (D : Cell) (fV fC : Field) (b : Addr) (A : Cell) (z : Int32) (args : Array Value) (s : State) : Prop := args = #[.ref a, .ref b] ∧ Blank "java/lang/String" a D s ∧ Found "java/lang/String" "value" "[B" fV s ∧ Found "java/lang/String" "coder" "B" fC s ∧ Ch b A s ∧ StaticIs s "java/lang/String" "COMPACT_STRINGS" "Z" (.int z) ∧ ¬ z = 0 ∧ 0 < A.slots.size ∧ A.slots.size ≤ 536870912 ∧ ∀ i, i < A.slots.size → ¬ 255 < cv A i
def E (a : Addr) (D : Cell) (fV fC : Field) (A : Cell) (r : Option Value) (s u : State) : Prop := Got a D fV fC A 0 A.slots.size r s u
/-- new String(chars), not empty, no char above 255: a Latin-1 String of their low bytes -/
theorem law (l : Launch) (a : Addr) (D : Cell) (fV fC : Field) (b : Addr) (A : Cell) (z : Int32) : Law l yN 2 1 3 52 yB 2 none site (P a D fV fC b A z) (E a D fV fC A) [⟨a, fC.slot⟩, ⟨a, fV.slot⟩] 1 A.slots.size := by
  refine Law.of_walk (plainFor_of_name (by decide +kernel)) (by decide +kernel) (by decide +kernel) (by decide) (fun _ _ h => by rw [h.1]; rfl) (fun _ U U' hal hh h => ⟨h.1, h.2.1.mv hal hh, h.2.2.1.al hal, h.2.2.2.1.al hal, h.2.2.2.2.1.mv hal hh, h.2.2.2.2.2.1.there hal hh, h.2.2.2.2.2.2⟩) (fun r U U' V V' h1 hal h2 h => Got.mv r U U' V V' h1 hal h2 h) ?_
  intro p e s m args below meth c s₁ X0 hexec hbytes hml hret hlk hnm hown hh0 W hP
  obtain ⟨rfl, hB, f1, f2, hA, s1, hz, l0, l2, hp⟩ := hP
  have c1 : Steps p.tables e below (s₁.setTop (entryFrame m #[.ref a, .ref b] 2)) (s₁.setTop (mkF m 0 #[.val (.ref a), .val (.ref b)] [])) := entry rfl
  have c2 : Steps p.tables e below (s₁.setTop (entryFrame m #[.ref a, .ref b] 2)) (s₁.setTop (mkF m 6 #[.val (.ref a), .val (.ref b)] [.null, .int (Int32.ofNat A.slots.size), .int 0, .ref b, .ref a])) := c1.trans (by
    refine XS.aloadN X0.here hexec rfl (hb hbytes d0) rfl rfl ?_
    refine XS.aloadN X0.here hexec rfl (hb hbytes d1) rfl rfl ?_
    refine iconstV X0.here hexec rfl 0 (hb hbytes d2) (by decide) ?_
    refine XS.aloadN X0.here hexec rfl (hb hbytes d3) rfl rfl ?_
    refine X0.alen hexec (hA.1.mv X0.warmed.alike hh0) rfl rfl (hb hbytes d4) ?_
    refine XS.aconstNull X0.here hexec rfl (hb hbytes d5) ?_
    exact Steps.refl _)
  obtain ⟨v3, T3, X3, E3, g3⟩ := X0.callN hexec (New4.law l a D fV fC b A z 0 A.slots.size) rfl hown (wks W (initW "java/lang/String" 27 New4.yN)) (W New4.tab (by simp only [site, List.mem_cons, List.mem_append, true_or, or_true])) (W := 0) (Nat.le_of_ble_eq_true rfl) (Nat.le_of_ble_eq_true rfl) (Nat.le_refl _) (by show 0 + A.slots.size ≤ A.slots.size; omega) (g := (mkF m 6 #[.val (.ref a), .val (.ref b)] [.null, .int (Int32.ofNat A.slots.size), .int (Int32.ofNat 0), .ref b, .ref a])) rfl (by rw [hml]; rfl) c2 (argsL := [.ref b, .int (Int32.ofNat 0), .int (Int32.ofNat A.slots.size), .null]) (rest := []) rfl rfl (by show 2 * 0 + 0 ≤ _; decide) (hb hbytes d6) (⟨rfl, hB.mv X0.warmed.alike hh0, f1.al X0.warmed.alike, f2.al X0.warmed.alike, hA.mv X0.warmed.alike hh0, s1.there X0.warmed.alike hh0, hz, l0, by omega, l2, fun i hi => by rw [Nat.zero_add]; exact hp i hi⟩)
  have e0 := Got.mv _ s₁ s _ _ hh0.symm (Vm.Alike.refl _) rfl E3
  obtain rfl := e0.1
  have c4 : Steps p.tables e below (s₁.setTop (entryFrame m #[.ref a, .ref b] 2)) (T3.setTop (mkF m 9 #[.val (.ref a), .val (.ref b)] [])) := g3
  exact ⟨T3, none, _, _, _, X3, by simp, rfl, by omega, (fun _ => rfl), e0, fun fs hl => c4.trans (X3.returnOut hexec hret (hb hbytes d9) hl)⟩
theorem pays {l : Launch} {R : Room} {p : Program} {e : Env} {below : List Frame} {s : State} {sargs : Array Value} {len W : Nat} (a : Addr) (D : Cell) (fV fC : Field) (b : Addr) (A : Cell) (z : Int32) (htab : tab.before sargs s = true) (hfr : 4 ≤ R.frames) (hlo : W + 65 ≤ R.locals) :
    Back l R p e below s sargs yN len W (fun A₁ a₁ => A₁.cells + 1 ≤ R.cells ∧ A₁.slots + A.slots.size ≤ R.slots ∧ P a D fV fC b A z a₁ A₁.U) (fun A₁ _ v₁ B₁ => E a D fV fC A v₁ A₁.U B₁.U ∧ B₁.locs = A₁.locs ++ [⟨a, fC.slot⟩, ⟨a, fV.slot⟩] ∧ B₁.cells = A₁.cells + 1 ∧ B₁.slots = A₁.slots + A.slots.size) :=
  (law l a D fV fC b A z).pays htab hfr (by omega)
end New1
/-- the byte, read back as charAt reads it, is the char -/
theorem lo8_mask {x : Int32} (h0 : ¬ x < 0) (h1 : ¬ 255 < x) : lo8 x &&& 255 = x := by
  have t : ∀ k : Fin 256, lo8 (Int32.ofNat k.val) &&& 255 = Int32.ofNat k.val := by decide +kernel
  rw [Int32.lt_iff_toInt_lt] at h0 h1
  have e0 : (0 : Int32).toInt = 0 := rfl
  have e1 : (255 : Int32).toInt = 255 := rfl
  obtain ⟨k, hk⟩ : ∃ k : Nat, x.toInt = k := ⟨x.toInt.toNat, by omega⟩
  have hx : x = Int32.ofNat k := Int32.toInt_inj.mp (by rw [hk, Int32.toInt_ofNat_small (by omega)])
  rw [hx]
  exact t ⟨k, by omega⟩
end StrChars
namespace StrChars.Road
open Jvm Sem ClassFile Op Lib Jvm.Stand Jvm.Free Jvm.Free.XT
open Jvm.Lib.Cold (StaticIs)
abbrev ST : String := "java/lang/String"
/-- every table word that New1's law asks, flat -/
abbrev words : List Jvm.Cond := [.code New1.yN New1.yB 2 none, .initialized ST, .methodLink ST 27 New4.yN, .instanceMethod New4.yN,
  .code New4.yN New4.yB 6 none, .fieldLink ST 38 ST "COMPACT_STRINGS" "Z", .laysFinal ST ST "value" "[B", .fieldLink ST 9 ST "value" "[B", .laysFinal ST ST "coder" "B", .fieldLink ST 15 ST "coder" "B",
  .methodLink ST 1 Lib.objectInit, .instanceMethod Lib.objectInit, .code Lib.objectInit ⟨#[0xb1]⟩ 1 none, .methodLink ST 177 Cmp3.yN, .static Cmp3.yN, .methodLink ST 47 CodL.yN, .static CodL.yN,
  .code Cmp3.yN Cmp3.yB 6 (some (.array .byte)), .initialized U16, .arrayClass .byte, .methodLink U16 115 Cmp5.yN, .static Cmp5.yN, .code Cmp5.yN Cmp5.yB 7 (some .int), .code CodL.yN CodL.yB 2 (some .byte)]
theorem tab_of {a : Array Value} {s : State} (h : ∀ w ∈ words, w.before a s = true) : New1.tab.before a s = true := by
  have h5 : Cmp5.tab.before a s = true := unparts (wk h (.code Cmp5.yN Cmp5.yB 7 (some .int))) (wks h (.initialized Cmp5.yN.cls :: Cmp5.site))
  have hc : CodL.tab.before a s = true := unparts (wk h (.code CodL.yN CodL.yB 2 (some .byte))) (wks h (.initialized CodL.yN.cls :: CodL.site))
  have q5 : ∀ w ∈ Cmp5.tab :: words, w.before a s = true := fun w hw => (List.mem_cons.mp hw).elim (fun e => e ▸ h5) (h w)
  have h3 : Cmp3.tab.before a s = true := unparts (wk q5 (.code Cmp3.yN Cmp3.yB 6 (some (.array .byte)))) (wks q5 (.initialized Cmp3.yN.cls :: Cmp3.site))
  have q3 : ∀ w ∈ Cmp3.tab :: CodL.tab :: words, w.before a s = true := fun w hw => (List.mem_cons.mp hw).elim (fun e => e ▸ h3) fun hw => (List.mem_cons.mp hw).elim (fun e => e ▸ hc) (h w)
  have h4 : New4.tab.before a s = true := unparts (wk q3 (.code New4.yN New4.yB 6 none)) (wks q3 (.initialized New4.yN.cls :: New4.site))
  have q4 : ∀ w ∈ New4.tab :: words, w.before a s = true := fun w hw => (List.mem_cons.mp hw).elim (fun e => e ▸ h4) (h w)
  exact unparts (wk q4 (.code New1.yN New1.yB 2 none)) (wks q4 (.initialized New1.yN.cls :: New1.site))
/-- the words ride from the start Z to the walk's own state -/
theorem moved {Z s : State} {a0 args : Array Value} (hZ : Z.Warmed39 s.vm) (hw : ∀ d ∈ words, d.before a0 Z = true) : ∀ d ∈ words, d.before args s = true := fun d hd => by
  have q := hw d hd
  have t : ∀ d ∈ words, d = .arrayClass .byte ∨ (d.onTables && d.keepsFace) = true := by decide +kernel
  rcases t d hd with rfl | t
  · exact RoadKit.mvA hZ q
  · exact RoadKit.mv hZ q t
/-- WHAT COMES BACK, over the tables of the start Z: h the heap at the call, h' behind it -/
def Q (Z : State) (x : Addr) (A : Cell) (h : Heap) (v : Option Value) (h' : Heap) (L : List Loc) : Prop := v = none ∧ (∀ y ∈ L, y.base = x) ∧ RoadKit.Keep h h' [x] ∧ h'.size = h.size + 1 ∧ RoadKit.Exa Z h' x ST ∧ RoadKit.Fld Z h' x ST "value" "[B" (.ref h.size) ∧ RoadKit.Fld Z h' x ST "coder" "B" (.int 0) ∧
  (∃ V : Cell, RoadKit.Arr Z h' h.size V .byte ∧ V.vm = .none ∧ Z.vm.findClass "[B" = some V.cls ∧ V.slots.size = A.slots.size ∧ ∀ j, j < A.slots.size → V.slots[j]? = some (.int (lo8 (cv A j)))) ∧
  ∀ (O n d : String) (w : Value), RoadKit.Fld Z h x O n d w → RoadKit.slotOf Z O n d ≠ RoadKit.slotOf Z ST "value" "[B" → RoadKit.slotOf Z O n d ≠ RoadKit.slotOf Z ST "coder" "B" → RoadKit.Fld Z h' x O n d w
/-- **new String(chars) AT A CALL, IN THE ROAD'S FORM**: for specialBack behind newO: x the fresh String, b the char[] with the cell A -/
theorem back {p : Program} {l : Launch} {e : Env} {R : Room} {s : State} {args : Array Value} {below : List Frame} {len W : Nat} {Z : State} {a0 : Array Value} {h : Heap} (hZ : Z.Warmed39 s.vm) (hw : ∀ d ∈ words, d.before a0 Z = true) {kI : Nat} (wi : (Jvm.Cond.instantiable ST kI).before a0 Z = true)
    {x b : Addr} {A : Cell} {z : Int32} {v0 c0 : Value} (E : RoadKit.Exa Z h x ST) (V : RoadKit.Fld Z h x ST "value" "[B" v0) (C : RoadKit.Fld Z h x ST "coder" "B" c0) (K : RoadKit.Arr Z h b A .char) (hty : Typed .char A) (S : RoadKit.Sta Z h ST "COMPACT_STRINGS" "Z" (.int z)) (hz : ¬ z = 0)
    (l0 : 0 < A.slots.size) (l2 : A.slots.size ≤ 536870912) (hp : ∀ i, i < A.slots.size → ¬ 255 < cv A i) (hfr : 4 ≤ R.frames) (hlo : W + 65 ≤ R.locals) :
    Back l R p e below s args New1.yN len W (fun P a => a = #[.ref x, .ref b] ∧ P.U.heap = h ∧ P.cells + 1 ≤ R.cells ∧ P.slots + A.slots.size ≤ R.slots)
      (fun P _ v B => ∃ L, Q Z x A h v B.U.heap L ∧ B.locs = P.locs ++ L ∧ B.cells = P.cells + 1 ∧ B.slots = P.slots + A.slots.size) := by
  intro m meth c P g ig mk a X hg hsize hdg hW hn hp'
  obtain ⟨rfl, rfl, r1, r2⟩ := hp'
  have al : Z.vm.Alike P.U.vm := hZ.alike.trans X.warmed.alike
  obtain ⟨D, cfV, kV, iV, fV, hD, gV, stV, knV, obV, asV, slV⟩ := id V
  obtain ⟨D', cfC, kC, iC, fC, hD', gC, stC, -, -, asC, slC⟩ := id C
  cases hD.symm.trans hD'
  obtain ⟨D2, kD, e1, e2, e3, e4, e5⟩ := id E
  cases hD.symm.trans e1
  obtain ⟨c2, k2, i1, i2, i3, -⟩ := Cond.instantiable_spec wi
  cases e2.symm.trans i1
  cases e3.symm.trans i2
  obtain ⟨kU, u1, u2⟩ := al.2.2 _ _ e3
  have hB : Blank ST x D P.U := ⟨hD, ⟨knV, fun q hq => by rw [hq] at obV; cases obV⟩, by rw [al.findClass]; exact e2, kU, u1, by rw [u2]; exact i3, by rw [u2]; exact e5 i3⟩
  have F1 : Found ST "value" "[B" fV P.U := ⟨SBG.found_only al ⟨cfV, kV, iV, gV⟩, stV⟩
  have F2 : Found ST "coder" "B" fC P.U := ⟨SBG.found_only al ⟨cfC, kC, iC, gC⟩, stC⟩
  have hA : Ch b A P.U := ⟨⟨K.1, State.isArrayOf_alike al K.2.1, K.2.2, by omega⟩, hty⟩
  have hS : StaticIs P.U ST "COMPACT_STRINGS" "Z" (.int z) := by
    obtain ⟨cfS, iS, kS, fS, st, cS, t1, t2, t3, t4, t5, t6, t7⟩ := S
    exact StaticIs.there (s := { Z with heap := P.U.heap }) ⟨cfS, iS, kS, fS, st, cS, t1, t2, t3, t4, t5, (fun q => by rw [q] at t6; cases t6), t7⟩ al rfl
  obtain ⟨v, B, X', ⟨⟨hv, E', V', q1, q2, q3, q4, q5, q6, q7, q8, q9, q10, q11⟩, hl, hc, hs⟩, st⟩ := New1.pays x D fV fC b A z (tab_of (moved hZ hw)) hfr hlo m meth c P g ig mk _ X hg hsize hdg hW hn ⟨r1, r2, rfl, hB, F1, F2, hA, hS, hz, l0, l2, hp⟩
  have al' : Z.vm.Alike B.U.vm := hZ.alike.trans X'.warmed.alike
  have hsz : E'.slots.size = D.slots.size := by
    obtain ⟨-, -, -, kB, w1, w2, w3⟩ := q1
    obtain ⟨kB', y1, y2⟩ := al'.2.2 _ _ e3
    rw [q2.2.1] at w1
    cases w1.symm.trans y1
    rw [w3, e5 i3, y2]
  refine ⟨v, B, X', ⟨_, ⟨hv, ?_, ⟨by omega, fun y cy hy hn' => q10 y cy (by simpa using hn') hy, fun y cy hy => ?_⟩, q11, ⟨E', _, q1.1, by rw [q2.2.1]; exact e2, by rw [q2.2.1]; exact e3, by rw [q2.1]; exact obV, fun _ => by rw [hsz]; exact e5 i3⟩,
    ⟨E', cfV, kV, iV, fV, q1.1, gV, stV, by rw [q2.1]; exact knV, by rw [q2.1]; exact obV, by rw [q2.2.1]; exact asV, q3⟩, ⟨E', cfC, kC, iC, fC, q1.1, gC, stC, by rw [q2.1]; exact knV, by rw [q2.1]; exact obV, by rw [q2.2.1]; exact asC, q4⟩,
    ⟨V', ⟨q5.1, State.isArrayOf_alike al'.symm q5.2.1, q5.2.2.1⟩, q6, by rw [← al'.findClass]; exact q7, q8, fun j hj => by have := q9 j hj; rwa [Nat.zero_add] at this⟩, fun O n d w F n1 n2 => ?_⟩, hl, hc, hs⟩, st⟩
  · intro y hy
    simp only [List.mem_cons, List.not_mem_nil, or_false] at hy
    rcases hy with rfl | rfl <;> rfl
  · by_cases q : y = x
    · subst q
      cases hD.symm.trans hy
      exact ⟨E', q1.1, q2.2.1, q2.1, hsz⟩
    · exact ⟨cy, q10 y cy q hy, rfl, rfl, rfl⟩
  · obtain ⟨D3, cf, k, i, f, g1, g2, g3, g4, g5, g6, g7⟩ := F
    cases hD.symm.trans g1
    simp only [RoadKit.slotOf, g2, gV, gC, Option.map_some, Option.getD_some] at n1 n2
    exact ⟨E', cf, k, i, f, q1.1, g2, g3, by rw [q2.1]; exact g4, by rw [q2.1]; exact g5, by rw [q2.2.1]; exact g6, by rw [q2.2.2 f.slot (by simp [n1, n2])]; exact g7⟩
end StrChars.Road
namespace StrChars.Road
open Jvm Sem ClassFile Op Lib Jvm.Stand Jvm.Free Jvm.Free.XT
/-- WHAT COMES BACK, the byte[] as a list of values -/
def QA (Z : State) (x : Addr) (zn : Int32) (cs : List Int32) (h : Heap) (v : Option Value) (h' : Heap) (L : List Loc) : Prop := v = none ∧ (∀ y ∈ L, y.base = x) ∧ RoadKit.Keep h h' [x] ∧ h'.size = h.size + 1 ∧ RoadKit.Exa Z h' x ST ∧ RoadKit.Fld Z h' x ST "value" "[B" (.ref h.size) ∧ RoadKit.Fld Z h' x ST "coder" "B" (.int 0) ∧
  (∃ kb, Z.vm.findClass "[B" = some kb ∧ RoadKit.Arv Z h' h.size kb .byte zn (cs.map fun c => .int (lo8 c)) (.int 0)) ∧
  ∀ (O n d : String) (w : Value), RoadKit.Fld Z h x O n d w → RoadKit.slotOf Z O n d ≠ RoadKit.slotOf Z ST "value" "[B" → RoadKit.slotOf Z O n d ≠ RoadKit.slotOf Z ST "coder" "B" → RoadKit.Fld Z h' x O n d w
/-- **new String(chars) AT A CALL, THE ARRAYS AS LISTS**: the char[] at b holds cs, not empty, no char above 255 -/
theorem backArv {p : Program} {l : Launch} {e : Env} {R : Room} {s : State} {args : Array Value} {below : List Frame} {len W : Nat} {Z : State} {a0 : Array Value} {h : Heap} (hZ : Z.Warmed39 s.vm) (hw : ∀ d ∈ words, d.before a0 Z = true) {kI : Nat} (wi : (Jvm.Cond.instantiable ST kI).before a0 Z = true)
    {x b : Addr} {k : ClassId} {zn z : Int32} {cs : List Int32} {dv v0 c0 : Value} (E : RoadKit.Exa Z h x ST) (V : RoadKit.Fld Z h x ST "value" "[B" v0) (C : RoadKit.Fld Z h x ST "coder" "B" c0) (K : RoadKit.Arv Z h b k .char zn (cs.map Value.int) dv) (S : RoadKit.Sta Z h ST "COMPACT_STRINGS" "Z" (.int z)) (hz : ¬ z = 0)
    (hlen : zn.toNatClampNeg = cs.length) (h0 : 0 < cs.length) (hbig : cs.length ≤ 536870912) (hall : ∀ c ∈ cs, ¬ 255 < c) (hfr : 4 ≤ R.frames) (hlo : W + 65 ≤ R.locals) :
    Back l R p e below s args New1.yN len W (fun P a => a = #[.ref x, .ref b] ∧ P.U.heap = h ∧ P.cells + 1 ≤ R.cells ∧ P.slots + cs.length ≤ R.slots)
      (fun P _ v B => ∃ L, QA Z x zn cs h v B.U.heap L ∧ B.locs = P.locs ++ L ∧ B.cells = P.cells + 1 ∧ B.slots = P.slots + cs.length) := by
  obtain ⟨A, K1, K2, K3, K4, K5, K6⟩ := K
  have e : A.slots.size = cs.length := K3.trans hlen
  have hat : ∀ (i : Nat) (hi : i < cs.length), A.slots[i]? = some (.int cs[i]) := fun i hi => by rw [K5 i (by omega)]; simp [List.getD_eq_getElem?_getD, hi]
  have hcv : ∀ (i : Nat) (hi : i < cs.length), cv A i = cs[i] := fun i hi => by unfold cv; rw [hat i hi]
  have hty : Typed .char A := fun i v hv => by
    have hi : i < A.slots.size := (Array.getElem?_eq_some_iff.mp hv).1
    have q := K5 i hi
    rw [hv] at q
    rw [Option.some.inj q]
    exact K6 i hi
  refine Back.mono (back hZ hw wi E V C K1 hty S hz (by omega) (by omega) (fun i hi => by rw [hcv i (by omega)]; exact hall _ (List.getElem_mem _)) hfr hlo) (fun P a hp => ⟨hp.1, hp.2.1, hp.2.2.1, by rw [e]; exact hp.2.2.2⟩) (fun P a v B hp hq => ?_)
  obtain ⟨L, ⟨q1, q2, q3, q4, q5, q6, q7, ⟨V', v1, v2, v3, v4, v5⟩, q9⟩, hl, hc, hs⟩ := hq
  refine ⟨L, ⟨q1, q2, q3, q4, q5, q6, q7, ⟨V'.cls, v3, V', v1, rfl, by rw [v4, e, hlen], K4, fun i hi => ?_, fun i hi => ?_⟩, q9⟩, hl, hc, by rw [hs, e]⟩
  · have hi' : i < cs.length := by omega
    rw [v5 i (by omega), hcv i hi']; simp [List.getD_eq_getElem?_getD, hi']
  · have hi' : i < cs.length := by omega
    simp only [List.getD_eq_getElem?_getD, List.getElem?_map, List.getElem?_eq_getElem hi', Option.map_some, Option.getD_some]
    exact fits_lo8 _
end StrChars.Road
namespace StrChars.Road
open Jvm Sem ClassFile Op Lib Jvm.Stand Jvm.Free Jvm.Free.XT
/-- WHAT COMES BACK, in the writer's own shape -/
def QV (Z : State) (x : Addr) (N : Int32) (bs : List Int32) (h : Heap) (n0 : Nat) (v : Option Value) (h' : Heap) (L : List Loc) : Prop := v = none ∧ RoadKit.Fr n0 L ∧ RoadKit.Keep h h' [x] ∧ RoadKit.Exa Z h' x ST ∧ RoadKit.Fld Z h' x ST "coder" "B" (.int 0) ∧
  ∃ (t : Addr) (kb : ClassId), n0 ≤ t ∧ h.size ≤ t ∧ ¬ t = x ∧ RoadKit.Fld Z h' x ST "value" "[B" (.ref t) ∧ RoadKit.Arv Z h' t kb .byte N (bs.map Value.int) (.int 0)
/-- **new String(chars) AT A CALL, FOR THE WRITER**: a char[] of n known ints, each 0 to 255 -/
theorem backV {p : Program} {l : Launch} {e : Env} {R : Room} {s : State} {args : Array Value} {below : List Frame} {len W : Nat} {Z : State} {a0 : Array Value} {h : Heap} (hZ : Z.Warmed39 s.vm) (hw : ∀ d ∈ words, d.before a0 Z = true) {kI : Nat} (wi : (Jvm.Cond.instantiable ST kI).before a0 Z = true)
    {x b : Addr} {kC : ClassId} {cs bs : List Int32} {d v0 c0 : Value} {z N : Int32} {n n0 : Nat} (hx0 : n0 ≤ x) (hh0 : n0 ≤ h.size) (E : RoadKit.Exa Z h x ST) (V : RoadKit.Fld Z h x ST "value" "[B" v0) (C : RoadKit.Fld Z h x ST "coder" "B" c0) (K : RoadKit.Arv Z h b kC .char N (cs.map Value.int) d) (S : RoadKit.Sta Z h ST "COMPACT_STRINGS" "Z" (.int z)) (hz : ¬ z = 0)
    (hn : cs.length = n) (hN : N = Int32.ofNat n) (l0 : 0 < n) (l2 : n ≤ 4000) (hp : ∀ c ∈ cs, ¬ c < 0 ∧ ¬ (255 : Int32) < c) (hb : bs = cs.map (fun c => c.toInt8.toInt32)) (hfr : 4 ≤ R.frames) (hlo : W + 65 ≤ R.locals) :
    Back l R p e below s args (⟨"java/lang/String", "<init>", "([C)V"⟩ : MethodName) len W (fun P a => a = #[.ref x, .ref b] ∧ P.U.heap = h ∧ P.cells + 1 ≤ R.cells ∧ P.slots + n ≤ R.slots)
      (fun P _ v B => ∃ L, QV Z x N bs h n0 v B.U.heap L ∧ B.locs = P.locs ++ L ∧ B.cells = P.cells + 1 ∧ B.slots = P.slots + n) := by
  subst hn hN hb
  refine Back.mono (backArv hZ hw wi E V C K S hz (n32 (by omega)) l0 (by omega) (fun c hc => (hp c hc).2) hfr hlo) (fun P a hp => hp) (fun P a v B hp hq => ?_)
  obtain ⟨L, ⟨q1, q2, q3, q4, q5, q6, q7, ⟨kb, v1, v2⟩, q9⟩, hl, hc, hs⟩ := hq
  exact ⟨L, ⟨q1, fun y hy => by rw [q2 y hy]; exact hx0, q3, q5, q7, h.size, kb, hh0, Nat.le_refl _, Nat.ne_of_gt E.lt, q6, by rw [List.map_map]; exact v2⟩, hl, hc, hs⟩
end StrChars.Road
namespace StrChars
open Jvm Sem ClassFile Op Lib Jvm.Stand Jvm.Free.XT Jvm.Free.ALB Jvm.Free.JM Jvm.Free
open Jvm.Lib.Cold (StaticIs)
def hi8 (x : Int32) : Int32 := lo8 (x >>> ((8 : Int32) &&& 31))
/-- what StringUTF16.getChar makes of two bytes -/
def pairCh (u v : Int32) : Int32 := (((u &&& 255) <<< ((0 : Int32) &&& 31)) ||| ((v &&& 255) <<< ((8 : Int32) &&& 31))).toUInt32.toUInt16.toUInt32.toInt32
theorem lo8_and (x : Int32) : (lo8 x &&& 255).toBitVec.toNat = x.toBitVec.toNat % 256 := by
  have h : (lo8 x).toBitVec = (x.toBitVec.signExtend 8).signExtend 32 := by rw [lo8, Int8.toBitVec_toInt32, Int32.toBitVec_toInt8]
  rw [Int32.toBitVec_and, BitVec.toNat_and, h]
  have e : ((x.toBitVec.signExtend 8).signExtend 32).toNat % 256 = x.toBitVec.toNat % 256 := by
    rw [BitVec.toNat_signExtend]
    have hlt := x.toBitVec.isLt
    simp only [BitVec.toNat_setWidth, BitVec.toNat_signExtend]
    split <;> split <;> omega
  rw [← e]
  exact Nat.and_two_pow_sub_one_eq_mod _ 8
theorem pair_says {c : Int32} (h0 : ¬ c < 0) (h1 : ¬ 65535 < c) : pairCh (lo8 c) (hi8 c) = c := by
  rw [Int32.lt_iff_toInt_lt] at h0 h1
  have e0 : (0 : Int32).toInt = 0 := rfl
  have e1 : (65535 : Int32).toInt = 65535 := rfl
  have hc : c.toInt = c.toBitVec.toNat := by
    have := c.toBitVec.isLt
    have e : c.toInt = c.toBitVec.toInt := rfl
    rw [e] at h0 h1
    rw [e]
    rw [BitVec.toInt_eq_toNat_cond] at h0 h1 ⊢
    split at h0 <;> split <;> omega
  have hn : c.toBitVec.toNat < 65536 := by omega
  have a1 := lo8_and c
  have a2 : (hi8 c &&& 255).toBitVec.toNat = c.toBitVec.toNat / 256 := by
    rw [hi8, lo8_and]
    have e : ((8 : Int32) &&& 31) = 8 := by decide
    rw [e, Int32.toBitVec_shiftRight]
    have e2 : ((8 : Int32).toBitVec.smod 32) = 8#32 := by decide
    rw [e2, BitVec.sshiftRight_eq', BitVec.toNat_sshiftRight_of_msb_false (by rw [BitVec.msb_eq_false_iff_two_mul_lt]; omega)]
    show c.toBitVec.toNat >>> 8 % 256 = _
    rw [Nat.shiftRight_eq_div_pow]
    omega
  unfold pairCh
  apply Int32.toBitVec_inj.mp
  apply BitVec.eq_of_toNat_eq
  have f0 : ((0 : Int32) &&& 31) = 0 := by decide
  have f8 : ((8 : Int32) &&& 31) = 8 := by decide
  rw [f0, f8]
  have g : (((lo8 c &&& 255) <<< (0 : Int32)) ||| ((hi8 c &&& 255) <<< (8 : Int32))).toBitVec.toNat = c.toBitVec.toNat := by
    rw [Int32.toBitVec_or, Int32.toBitVec_shiftLeft, Int32.toBitVec_shiftLeft]
    have s0 : ((0 : Int32).toBitVec.smod 32) = 0#32 := by decide
    have s8 : ((8 : Int32).toBitVec.smod 32) = 8#32 := by decide
    rw [s0, s8, BitVec.toNat_or]
    simp only [BitVec.shiftLeft_eq', BitVec.toNat_shiftLeft, a1, a2]
    show (c.toBitVec.toNat % 256) <<< 0 % 2 ^ 32 ||| (c.toBitVec.toNat / 256) <<< 8 % 2 ^ 32 = _
    rw [Nat.shiftLeft_zero, Nat.mod_eq_of_lt (show c.toBitVec.toNat % 256 < 2 ^ 32 by omega), Nat.mod_eq_of_lt (show (c.toBitVec.toNat / 256) <<< 8 < 2 ^ 32 by rw [Nat.shiftLeft_eq]; omega), Nat.or_comm, ← Nat.shiftLeft_add_eq_or_of_lt (by omega), Nat.shiftLeft_eq]
    omega
  show BitVec.toNat (((((lo8 c &&& 255) <<< (0 : Int32)) ||| ((hi8 c &&& 255) <<< (8 : Int32))).toBitVec.setWidth 16).setWidth 32) = _
  rw [BitVec.toNat_setWidth, BitVec.toNat_setWidth, g]
  omega
end StrChars
namespace StrChars
open Jvm Sem ClassFile Op Lib Jvm.Stand Jvm.Free.XT Jvm.Free.ALB Jvm.Free.JM Jvm.Free
open Jvm.Lib.Cold (StaticIs)
/-- the array's cell V codes the n chars f 0 .. f (n - 1) by the coder cd, as the JDK does: coder 1 just where some char is above 255 -/
def Cod (cd : Int32) (n : Nat) (f : Nat → Int32) (V : Cell) : Prop := (cd = 0 ∧ V.slots.size = n ∧ ∀ j, j < n → V.slots[j]? = some (.int (lo8 (f j))) ∧ ¬ 255 < f j) ∨ (cd = 1 ∧ V.slots.size = 2 * n ∧ (∀ j, j < n → V.slots[2 * j]? = some (.int (lo8 (f j))) ∧ V.slots[2 * j + 1]? = some (.int (hi8 (f j)))) ∧ ∃ j, j < n ∧ 255 < f j)
/-- **x is a String of the n chars f 0 .. f (n - 1)**, Latin-1 or UTF-16; its array at t has the cell V -/
def Txt (x t : Addr) (V : Cell) (cd : Int32) (n : Nat) (f : Nat → Int32) (U : State) : Prop := Exact "java/lang/String" x U ∧ Has x "java/lang/String" "value" "[B" (.ref t) U ∧ Has x "java/lang/String" "coder" "B" (.int cd) U ∧ XT.Arr .byte t V U ∧ Cod cd n f V ∧ ∀ j, j < n → ¬ f j < 0 ∧ ¬ 65535 < f j
theorem Txt.mv {x t : Addr} {V : Cell} {cd : Int32} {n : Nat} {f : Nat → Int32} {U U' : State} (h : Txt x t V cd n f U) (hal : U.vm.Alike U'.vm) (hh : U'.heap = U.heap) : Txt x t V cd n f U' := ⟨h.1.mv hal hh, h.2.1.mv hal hh, h.2.2.1.mv hal hh, h.2.2.2.1.mv hal hh, h.2.2.2.2⟩
end StrChars
namespace StrChars.Road
open Jvm Sem ClassFile Op Lib Jvm.Stand Jvm.Free Jvm.Free.XT
open Jvm.Lib.Cold (StaticIs)
theorem consq {a : Array Value} {s : State} {c : Jvm.Cond} {L : List Jvm.Cond} (h0 : c.before a s = true) (h : ∀ w ∈ L, w.before a s = true) : ∀ w ∈ c :: L, w.before a s = true := fun w hw => (List.mem_cons.mp hw).elim (fun e => e ▸ h0) (h w)
/-- the bytes of the chars cs, low before high -/
def wideBytes : List Int32 → List Value
  | [] => []
  | c :: cs => .int (lo8 c) :: .int (hi8 c) :: wideBytes cs
theorem wide_lo (d : Value) : ∀ (cs : List Int32) (j : Nat), j < cs.length → (wideBytes cs).getD (2 * j) d = .int (lo8 (cs.getD j 0))
  | [], j, h => absurd h (Nat.not_lt_zero j)
  | c :: cs, 0, _ => rfl
  | c :: cs, j + 1, h => by
    have q := wide_lo d cs j (by simpa using h)
    rw [show 2 * (j + 1) = 2 * j + 1 + 1 from by omega]
    simpa [wideBytes] using q
theorem wide_hi (d : Value) : ∀ (cs : List Int32) (j : Nat), j < cs.length → (wideBytes cs).getD (2 * j + 1) d = .int (hi8 (cs.getD j 0))
  | [], j, h => absurd h (Nat.not_lt_zero j)
  | c :: cs, 0, _ => rfl
  | c :: cs, j + 1, h => by
    have q := wide_hi d cs j (by simpa using h)
    rw [show 2 * (j + 1) + 1 = 2 * j + 1 + 1 + 1 from by omega]
    simpa [wideBytes] using q
theorem low_at (d : Value) (cs : List Int32) (j : Nat) (h : j < cs.length) : (cs.map fun c => Value.int (lo8 c)).getD j d = .int (lo8 (cs.getD j 0)) := by
  simp [List.getD_eq_getElem?_getD, h]
/-- an array of N2 bytes vs codes the chars cs by the coder cd -/
def CodA (cs : List Int32) (cd N2 : Int32) (vs : List Value) : Prop := (cd = 0 ∧ N2 = Int32.ofNat cs.length ∧ vs = (cs.map fun c => Value.int (lo8 c)) ∧ ∀ c ∈ cs, ¬ 255 < c) ∨ (cd = 1 ∧ N2 = Int32.ofNat (2 * cs.length) ∧ vs = wideBytes cs ∧ ∃ c ∈ cs, 255 < c)
theorem CodA.cod {cs : List Int32} {cd N2 : Int32} {vs : List Value} {V : Cell} (h : CodA cs cd N2 vs) (hn : 2 * cs.length < 2 ^ 31) (hs : V.slots.size = N2.toNatClampNeg) (hv : RoadKit.Has V vs (.int 0)) : Cod cd cs.length (fun j => cs.getD j 0) V := by
  rcases h with ⟨rfl, rfl, rfl, h⟩ | ⟨rfl, rfl, rfl, c, hc, hw⟩
  · rw [n32 (by omega)] at hs
    exact Or.inl ⟨rfl, hs, fun j hj => ⟨by rw [hv j (by omega), low_at _ _ _ hj], by
      have e : cs.getD j 0 = cs[j] := by simp [List.getD_eq_getElem?_getD, hj]
      show ¬ 255 < cs.getD j 0
      rw [e]; exact h _ (List.getElem_mem _)⟩⟩
  · rw [n32 (by omega)] at hs
    obtain ⟨j, hj, rfl⟩ := List.getElem_of_mem hc
    exact Or.inr ⟨rfl, hs, fun j hj => ⟨by rw [hv _ (by omega), wide_lo _ _ _ hj], by rw [hv _ (by omega), wide_hi _ _ _ hj]⟩, j, hj, by
      have e : cs.getD j 0 = cs[j] := by simp [List.getD_eq_getElem?_getD, hj]
      show 255 < cs.getD j 0
      rw [e]; exact hw⟩
/-- an object of exactly java/lang/String, its two fields found: as the laws ask it -/
theorem strObj {Z U : State} {a0 : Array Value} {kI : Nat} (wi : (Jvm.Cond.instantiable ST kI).before a0 Z = true) (al : Z.vm.Alike U.vm) {x : Addr} {v0 c0 : Value} (E : RoadKit.Exa Z U.heap x ST) (V : RoadKit.Fld Z U.heap x ST "value" "[B" v0) (C : RoadKit.Fld Z U.heap x ST "coder" "B" c0) :
    ∃ (D : Cell) (fV fC : Field), Blank ST x D U ∧ Found ST "value" "[B" fV U ∧ Found ST "coder" "B" fC U ∧ D.slots[fV.slot]? = some v0 ∧ D.slots[fC.slot]? = some c0 ∧ RoadKit.slotOf Z ST "value" "[B" = fV.slot ∧ RoadKit.slotOf Z ST "coder" "B" = fC.slot := by
  obtain ⟨D, cfV, kV, iV, fV, hD, gV, stV, knV, obV, asV, slV⟩ := V
  obtain ⟨D', cfC, kC, iC, fC, hD', gC, stC, -, -, asC, slC⟩ := C
  cases hD.symm.trans hD'
  obtain ⟨D2, kD, e1, e2, e3, e4, e5⟩ := E
  cases hD.symm.trans e1
  obtain ⟨c2, k2, i1, i2, i3, -⟩ := Cond.instantiable_spec wi
  cases e2.symm.trans i1
  cases e3.symm.trans i2
  obtain ⟨kU, u1, u2⟩ := al.2.2 _ _ e3
  exact ⟨D, fV, fC, ⟨hD, ⟨knV, fun q hq => by rw [hq] at obV; cases obV⟩, by rw [al.findClass]; exact e2, kU, u1, by rw [u2]; exact i3, by rw [u2]; exact e5 i3⟩, ⟨SBG.found_only al ⟨cfV, kV, iV, gV⟩, stV⟩, ⟨SBG.found_only al ⟨cfC, kC, iC, gC⟩, stC⟩, slV, slC, by simp [RoadKit.slotOf, gV], by simp [RoadKit.slotOf, gC]⟩
theorem sta_is {Z U : State} (al : Z.vm.Alike U.vm) {C n d : String} {v : Value} (S : RoadKit.Sta Z U.heap C n d v) : StaticIs U C n d v := by
  obtain ⟨cfS, iS, kS, fS, st, cS, t1, t2, t3, t4, t5, t6, t7⟩ := S
  exact StaticIs.there (s := { Z with heap := U.heap }) ⟨cfS, iS, kS, fS, st, cS, t1, t2, t3, t4, t5, (fun q => by rw [q] at t6; cases t6), t7⟩ al rfl
end StrChars.Road
namespace StrChars
open Jvm Sem ClassFile Op Lib Jvm.Stand Jvm.Free.XT Jvm.Free.ALB Jvm.Free.JM Jvm.Free
open Jvm.Lib.Cold (StaticIs)
/-- what place i of a byte[]'s cell holds -/
def yv (A : Cell) (i : Nat) : Int32 := match A.slots[i]? with | some (.int x) => x | _ => 0
theorem yv_get {a : Addr} {A : Cell} {U : State} (h : XT.Arr .byte a A U) (ht : Typed .byte A) {i : Nat} (hi : i < A.slots.size) : A.slots[i]? = some (.int (yv A i)) := by
  have e := Array.getElem?_eq_getElem hi
  have f := ht i _ e
  unfold yv; rw [e]
  generalize A.slots[i] = v at f
  cases v <;> simp [fits] at f ⊢
/-- the two arrays are equal, place for place -/
def EqC (A B : Cell) : Prop := A.slots.size = B.slots.size ∧ ∀ i, i < A.slots.size → yv A i = yv B i
/-- a boolean that says whether p -/
def Says01 (q : Prop) (r : Option Value) (s u : State) : Prop := ∃ v : Int32, r = some (.int v) ∧ u.heap = s.heap ∧ ((v = 1 ∧ q) ∨ (v = 0 ∧ ¬ q))
theorem Says01.mv {q : Prop} : ∀ r (U U' V V' : State), U'.heap = U.heap → V.vm.Alike V'.vm → V'.heap = V.heap → Says01 q r U V → Says01 q r U' V' :=
  fun r U U' V V' h1 _ h2 ⟨v, a, b, c⟩ => ⟨v, a, by rw [h1, h2]; exact b, c⟩
namespace LEq
def yN : MethodName := ⟨"java/lang/StringLatin1", "equals", "([B[B)Z"⟩
abbrev yB : ByteArray := jdk_43_method_13_code
theorem d0 : decode yB 0 = .ok (.aload_n 0, 1) := by decide +kernel
theorem d1 : decode yB 1 = .ok (.arraylength, 1) := by decide +kernel
theorem d2 : decode yB 2 = .ok (.aload_n 1, 1) := by decide +kernel
theorem d3 : decode yB 3 = .ok (.arraylength, 1) := by decide +kernel
theorem d4 : decode yB 4 = .ok (.if_icmp (.ne) 30, 3) := by decide +kernel
theorem d7 : decode yB 7 = .ok (.iconst 0, 1) := by decide +kernel
theorem d8 : decode yB 8 = .ok (.istore_n 2, 1) := by decide +kernel
theorem d9 : decode yB 9 = .ok (.iload_n 2, 1) := by decide +kernel
theorem d10 : decode yB 10 = .ok (.aload_n 0, 1) := by decide +kernel
theorem d11 : decode yB 11 = .ok (.arraylength, 1) := by decide +kernel
theorem d12 : decode yB 12 = .ok (.if_icmp (.ge) 20, 3) := by decide +kernel
theorem d15 : decode yB 15 = .ok (.aload_n 0, 1) := by decide +kernel
theorem d16 : decode yB 16 = .ok (.iload_n 2, 1) := by decide +kernel
theorem d17 : decode yB 17 = .ok (.baload, 1) := by decide +kernel
theorem d18 : decode yB 18 = .ok (.aload_n 1, 1) := by decide +kernel
theorem d19 : decode yB 19 = .ok (.iload_n 2, 1) := by decide +kernel
theorem d20 : decode yB 20 = .ok (.baload, 1) := by decide +kernel
theorem d21 : decode yB 21 = .ok (.if_icmp (.eq) 5, 3) := by decide +kernel
theorem d24 : decode yB 24 = .ok (.iconst 0, 1) := by decide +kernel
theorem d25 : decode yB 25 = .ok (.ireturn, 1) := by decide +kernel
theorem d26 : decode yB 26 = .ok (.iinc 2 1, 3) := by decide +kernel
theorem d29 : decode yB 29 = .ok (.goto (-20), 3) := by decide +kernel
theorem d32 : decode yB 32 = .ok (.iconst 1, 1) := by decide +kernel
theorem d33 : decode yB 33 = .ok (.ireturn, 1) := by decide +kernel
theorem d34 : decode yB 34 = .ok (.iconst 0, 1) := by decide +kernel
theorem d35 : decode yB 35 = .ok (.ireturn, 1) := by decide +kernel
def site : List Cond := []
def tab : Cond := tabOf yN yB 3 (some .boolean) site
def P (a : Addr) (A : Cell) (b : Addr) (B : Cell) (args : Array Value) (s : State) : Prop := args = #[.ref a, .ref b] ∧ XT.Arr .byte a A s ∧ Typed .byte A ∧ XT.Arr .byte b B s ∧ Typed .byte B
/-- whether two byte[] are equal, place for place -/
theorem law (l : Launch) (a : Addr) (A : Cell) (b : Addr) (B : Cell) : Law l yN 2 2 0 0 yB 3 (some .boolean) site (P a A b B) (Says01 (EqC A B)) [] 0 0 := by
  refine Law.of_walk (plainFor_of_name (by decide +kernel)) (by decide +kernel) (by decide +kernel) (by decide) (fun _ _ h => by rw [h.1]; rfl) (fun _ U U' hal hh h => ⟨h.1, h.2.1.mv hal hh, h.2.2.1, h.2.2.2.1.mv hal hh, h.2.2.2.2⟩) (fun r U U' V V' h1 hal h2 h => Says01.mv r U U' V V' h1 hal h2 h) ?_
  intro p e s m args below meth c s₁ X0 hexec hbytes hml hret hlk hnm hown hh0 W hP
  obtain ⟨rfl, hA, tA, hB, tB⟩ := hP
  have a31 := hA.2.2.2
  have b31 := hB.2.2.2
  have hA0 := hA.mv X0.warmed.alike hh0
  have hB0 := hB.mv X0.warmed.alike hh0
  have c1 : Steps p.tables e below (s₁.setTop (entryFrame m #[.ref a, .ref b] 3)) (s₁.setTop (mkF m 0 #[.val (.ref a), .val (.ref b), .unset] [])) := entry rfl
  have c2 : Steps p.tables e below (s₁.setTop (entryFrame m #[.ref a, .ref b] 3)) (s₁.setTop (mkF m 4 #[.val (.ref a), .val (.ref b), .unset] [.int (Int32.ofNat B.slots.size), .int (Int32.ofNat A.slots.size)])) := c1.trans (by
    refine XS.aloadN X0.here hexec rfl (hb hbytes d0) rfl rfl ?_
    refine X0.alen hexec hA0 rfl rfl (hb hbytes d1) ?_
    refine XS.aloadN X0.here hexec rfl (hb hbytes d2) rfl rfl ?_
    refine X0.alen hexec hB0 rfl rfl (hb hbytes d3) ?_
    exact Steps.refl _)
  by_cases hs : A.slots.size = B.slots.size
  · have c3 : Steps p.tables e below (s₁.setTop (entryFrame m #[.ref a, .ref b] 3)) (s₁.setTop (mkF m 9 #[.val (.ref a), .val (.ref b), .val (.int 0)] [])) := c2.trans (by
      refine XS.icmpNo X0.here hexec rfl (hb hbytes d4) rfl (ii_ne_f (by rw [hs])) ?_
      refine iconstV X0.here hexec rfl 0 (hb hbytes d7) (by decide) ?_
      refine XS.istoreN X0.here hexec rfl (hb hbytes d8) rfl rfl ?_
      exact Steps.refl _)
    have loop : ∀ (r i : Nat), i + r = A.slots.size → (∀ j, j < i → yv A j = yv B j) → Steps p.tables e below (s₁.setTop (entryFrame m #[.ref a, .ref b] 3)) (s₁.setTop (mkF m 9 #[.val (.ref a), .val (.ref b), .val (.int (Int32.ofNat i))] [])) → ∃ (pc : Nat) (Ls : Array Slot) (v : Int32), (pc = 25 ∨ pc = 33) ∧ ((v = 1 ∧ EqC A B) ∨ (v = 0 ∧ ¬ EqC A B)) ∧ Steps p.tables e below (s₁.setTop (entryFrame m #[.ref a, .ref b] 3)) (s₁.setTop (mkF m pc Ls [.int v])) := by
      intro r
      induction r with
      | zero =>
        intro i hi he cl
        exact ⟨33, _, 1, Or.inr rfl, Or.inl ⟨rfl, hs, fun j hj => he j (by omega)⟩, cl.trans (by
          refine XS.iloadN X0.here hexec rfl (hb hbytes d9) rfl ?_
          refine XS.aloadN X0.here hexec rfl (hb hbytes d10) rfl rfl ?_
          refine X0.alen hexec hA0 rfl rfl (hb hbytes d11) ?_
          refine XS.icmpYes X0.here hexec rfl (pc0 := 12) rfl (hb hbytes d12) rfl (ii_ge_t (nlt32 (by omega) (by omega))) (by decide) rfl ?_
          refine iconstV X0.here hexec rfl 1 (hb hbytes d32) (by decide) ?_
          exact Steps.refl _)⟩
      | succ r ih =>
        intro i hi he cl
        have c4 : Steps p.tables e below (s₁.setTop (entryFrame m #[.ref a, .ref b] 3)) (s₁.setTop (mkF m 21 #[.val (.ref a), .val (.ref b), .val (.int (Int32.ofNat i))] [.int (yv B i), .int (yv A i)])) := cl.trans (by
          refine XS.iloadN X0.here hexec rfl (hb hbytes d9) rfl ?_
          refine XS.aloadN X0.here hexec rfl (hb hbytes d10) rfl rfl ?_
          refine X0.alen hexec hA0 rfl rfl (hb hbytes d11) ?_
          refine XS.icmpNo X0.here hexec rfl (hb hbytes d12) rfl (ii_ge_f (lt32 (by omega) (by omega))) ?_
          refine XS.aloadN X0.here hexec rfl (hb hbytes d15) rfl rfl ?_
          refine XS.iloadN X0.here hexec rfl (hb hbytes d16) rfl ?_
          refine X0.aget hexec hA0 rfl (yv_get hA tA (i := i) (by omega)) rfl rfl (hb hbytes d17) ?_
          refine XS.aloadN X0.here hexec rfl (hb hbytes d18) rfl rfl ?_
          refine XS.iloadN X0.here hexec rfl (hb hbytes d19) rfl ?_
          refine X0.aget hexec hB0 rfl (yv_get hB tB (i := i) (by omega)) rfl rfl (hb hbytes d20) ?_
          exact Steps.refl _)
        by_cases hv : yv A i = yv B i
        · have c5 : Steps p.tables e below (s₁.setTop (entryFrame m #[.ref a, .ref b] 3)) (s₁.setTop (mkF m 9 #[.val (.ref a), .val (.ref b), .val (.int (Int32.ofNat i + 1))] [])) := c4.trans (by
            refine XS.icmpYes X0.here hexec rfl (pc0 := 21) rfl (hb hbytes d21) rfl (ii_eq_t hv) (by decide) rfl ?_
            refine iincV X0.here hexec rfl 1 (hb hbytes d26) (by decide) rfl rfl ?_
            refine XS.goto X0.here hexec rfl (pc0 := 29) rfl (hb hbytes d29) (by decide) rfl ?_
            exact Steps.refl _)
          rw [succ32] at c5
          exact ih (i + 1) (by omega) (fun j hj => by
            by_cases e : j = i
            · rw [e]; exact hv
            · exact he j (by omega)) c5
        · exact ⟨25, _, 0, Or.inl rfl, Or.inr ⟨rfl, fun q => hv (q.2 i (by omega))⟩, c4.trans (by
            refine XS.icmpNo X0.here hexec rfl (hb hbytes d21) rfl (ii_eq_f hv) ?_
            refine iconstV X0.here hexec rfl 0 (hb hbytes d24) (by decide) ?_
            exact Steps.refl _)⟩
    obtain ⟨pc, Ls, v, hpc, hv, cz⟩ := loop A.slots.size 0 (by omega) (fun j hj => absurd hj (Nat.not_lt_zero j)) c3
    have nv : narrow .boolean (.int v) = .int v := by rcases hv with ⟨rfl, -⟩ | ⟨rfl, -⟩ <;> rfl
    rcases hpc with rfl | rfl
    · exact ⟨s₁, some (.int v), _, _, _, X0, rfl, rfl, rfl, (fun h => by cases h), ⟨v, rfl, hh0, hv⟩, fun fs hl => cz.trans (X0.ireturnOut hexec hret nv (Or.inr (Or.inl rfl)) (hb hbytes d25) hl)⟩
    · exact ⟨s₁, some (.int v), _, _, _, X0, rfl, rfl, rfl, (fun h => by cases h), ⟨v, rfl, hh0, hv⟩, fun fs hl => cz.trans (X0.ireturnOut hexec hret nv (Or.inr (Or.inl rfl)) (hb hbytes d33) hl)⟩
  · have c3 : Steps p.tables e below (s₁.setTop (entryFrame m #[.ref a, .ref b] 3)) (s₁.setTop (mkF m 35 #[.val (.ref a), .val (.ref b), .unset] [.int 0])) := c2.trans (by
      refine XS.icmpYes X0.here hexec rfl (pc0 := 4) rfl (hb hbytes d4) rfl (ii_ne_t (ne32 a31 b31 hs)) (by decide) rfl ?_
      refine iconstV X0.here hexec rfl 0 (hb hbytes d34) (by decide) ?_
      exact Steps.refl _)
    exact ⟨s₁, some (.int 0), _, _, _, X0, rfl, rfl, rfl, (fun h => by cases h), ⟨0, rfl, hh0, Or.inr ⟨rfl, fun q => hs q.1⟩⟩, fun fs hl => c3.trans (X0.ireturnOut hexec hret rfl (Or.inr (Or.inl rfl)) (hb hbytes d35) hl)⟩
end LEq
theorem Cod.ty {cd : Int32} {n : Nat} {f : Nat → Int32} {V : Cell} (h : Cod cd n f V) : Typed .byte V := fun i v hv => by
  have hi : i < V.slots.size := (Array.getElem?_eq_some_iff.mp hv).1
  rcases h with ⟨-, k1, k2⟩ | ⟨-, k1, k2, -⟩
  · rw [(k2 i (by omega)).1] at hv; cases hv; exact fits_lo8 _
  · rcases Nat.mod_two_eq_zero_or_one i with e | e
    · obtain ⟨j, rfl⟩ : ∃ j, i = 2 * j := ⟨i / 2, by omega⟩
      rw [(k2 j (by omega)).1] at hv; cases hv; exact fits_lo8 _
    · obtain ⟨j, rfl⟩ : ∃ j, i = 2 * j + 1 := ⟨i / 2, by omega⟩
      rw [(k2 j (by omega)).2] at hv; cases hv; exact fits_lo8 _
/-- the same text -/
def SameT (n : Nat) (f : Nat → Int32) (k : Nat) (g : Nat → Int32) : Prop := n = k ∧ ∀ j, j < n → f j = g j
theorem lo8_inj {x y : Int32} (h0 : ¬ x < 0) (h1 : ¬ 255 < x) (k0 : ¬ y < 0) (k1 : ¬ 255 < y) (h : lo8 x = lo8 y) : x = y := by
  rw [← lo8_mask h0 h1, ← lo8_mask k0 k1, h]
/-- arrays coded by one coder are equal just where the texts are -/
theorem Cod.eqv {cd : Int32} {n k : Nat} {f g : Nat → Int32} {V V' : Cell} (h : Cod cd n f V) (h' : Cod cd k g V') (hf : ∀ j, j < n → ¬ f j < 0 ∧ ¬ 65535 < f j) (hg : ∀ j, j < k → ¬ g j < 0 ∧ ¬ 65535 < g j) : EqC V V' ↔ SameT n f k g := by
  have yvv : ∀ {W : Cell} {i : Nat} {x : Int32}, W.slots[i]? = some (.int x) → yv W i = x := fun q => by unfold yv; rw [q]
  rcases h with ⟨rfl, k1, k2⟩ | ⟨rfl, k1, k2, -⟩
  · rcases h' with ⟨-, m1, m2⟩ | ⟨e, -⟩
    · constructor
      · rintro ⟨e1, e2⟩
        refine ⟨by omega, fun j hj => ?_⟩
        have q := e2 j (by omega)
        rw [yvv (k2 j hj).1, yvv (m2 j (by omega)).1] at q
        exact lo8_inj (hf j hj).1 (k2 j hj).2 (hg j (by omega)).1 (m2 j (by omega)).2 q
      · rintro ⟨rfl, e2⟩
        refine ⟨by omega, fun j hj => ?_⟩
        rw [yvv (k2 j (by omega)).1, yvv (m2 j (by omega)).1, e2 j (by omega)]
    · exact absurd e (by decide)
  · rcases h' with ⟨e, -⟩ | ⟨-, m1, m2, -⟩
    · exact absurd e (by decide)
    · constructor
      · rintro ⟨e1, e2⟩
        refine ⟨by omega, fun j hj => ?_⟩
        have q1 := e2 (2 * j) (by omega)
        have q2 := e2 (2 * j + 1) (by omega)
        rw [yvv (k2 j hj).1, yvv (m2 j (by omega)).1] at q1
        rw [yvv (k2 j hj).2, yvv (m2 j (by omega)).2] at q2
        rw [← pair_says (hf j hj).1 (hf j hj).2, ← pair_says (hg j (by omega)).1 (hg j (by omega)).2, q1, q2]
      · rintro ⟨rfl, e2⟩
        refine ⟨by omega, fun i hi => ?_⟩
        rcases Nat.mod_two_eq_zero_or_one i with e | e
        · obtain ⟨j, rfl⟩ : ∃ j, i = 2 * j := ⟨i / 2, by omega⟩
          rw [yvv (k2 j (by omega)).1, yvv (m2 j (by omega)).1, e2 j (by omega)]
        · obtain ⟨j, rfl⟩ : ∃ j, i = 2 * j + 1 := ⟨i / 2, by omega⟩
          rw [yvv (k2 j (by omega)).2, yvv (m2 j (by omega)).2, e2 j (by omega)]
/-- two codings differ: so do the texts -/
theorem Cod.dif {cd cd' : Int32} {n k : Nat} {f g : Nat → Int32} {V V' : Cell} (h : Cod cd n f V) (h' : Cod cd' k g V') (hne : ¬ cd = cd') : ¬ SameT n f k g := by
  rintro ⟨rfl, e⟩
  rcases h with ⟨rfl, -, k2⟩ | ⟨rfl, -, -, j, hj, hw⟩
  · rcases h' with ⟨rfl, -⟩ | ⟨-, -, -, j, hj, hw⟩
    · exact hne rfl
    · exact (k2 j hj).2 (by rw [e j hj]; exact hw)
  · rcases h' with ⟨-, -, m2⟩ | ⟨rfl, -⟩
    · exact (m2 j hj).2 (by rw [← e j hj]; exact hw)
    · exact hne rfl
/-- an object of exactly C is an instance of C -/
theorem cinst {p : Program} {l : Launch} {e : Env} {R : Room} {s : State} {m : MethodId} {args : Array Value} {below : List Frame} {meth : Method} {c : Code} {T : State} {locs : List Loc} {cells slots : Nat} (X : Stand p l e R s m args below meth c T locs cells slots) (hexec : p.tables.exec = Jvm.exec) {own C : String} {index : Nat} (hown : s.vm.findClass own = some m.cls) (hlink : (Cond.classLink own index C).before args s = true) {a : Addr} (hE : Exact C a T)
    {g : JFrame} (hg : g.method = m) {rest : List Value} (hstack : g.stack = .ref a :: rest) (hdg : decode c.code g.pc = .ok (.instanceof index, 3)) :
    ∃ T', Stand p l e R s m args below meth c T' locs cells slots ∧ T'.heap = T.heap ∧ ∀ target, Steps p.tables e below (T'.setTop { g with pc := g.pc + 3, stack := .int 1 :: rest }) target → Steps p.tables e below (T.setTop g) target := by
  obtain ⟨cB, h1, D, h2, h3, h4⟩ := hE
  have h1' : s.vm.findClass C = some cB := by rw [← X.warmed.alike.findClass]; exact h1
  obtain ⟨vm', X', st⟩ := X.instanceofYes hexec hown hlink h2 h4 h1' (by rw [h3]; exact Jvm.Free.SB.assignable_self _ _) hg hstack hdg
  exact ⟨_, X', rfl, st⟩
theorem cself {p : Program} {l : Launch} {e : Env} {R : Room} {s : State} {m : MethodId} {args : Array Value} {below : List Frame} {meth : Method} {c : Code} {T : State} {locs : List Loc} {cells slots : Nat} (X : Stand p l e R s m args below meth c T locs cells slots) (hexec : p.tables.exec = Jvm.exec) {own C : String} {index : Nat} (hown : s.vm.findClass own = some m.cls) (hlink : (Cond.classLink own index C).before args s = true) {a : Addr} (hE : Exact C a T)
    {g : JFrame} (hg : g.method = m) {rest : List Value} (hstack : g.stack = .ref a :: rest) (hdg : decode c.code g.pc = .ok (.checkcast index, 3)) :
    ∃ T', Stand p l e R s m args below meth c T' locs cells slots ∧ T'.heap = T.heap ∧ ∀ target, Steps p.tables e below (T'.setTop { g with pc := g.pc + 3, stack := .ref a :: rest }) target → Steps p.tables e below (T.setTop g) target := by
  obtain ⟨cB, h1, D, h2, h3, h4⟩ := hE
  have h1' : s.vm.findClass C = some cB := by rw [← X.warmed.alike.findClass]; exact h1
  obtain ⟨vm', X', st⟩ := X.checkcastYes hexec hown hlink h2 h4 h1' (by rw [h3]; exact Jvm.Free.SB.assignable_self _ _) hg hstack hdg
  exact ⟨_, X', rfl, fun t h => st t (by rw [← hstack] at h; exact h)⟩
namespace SEq
def yN : MethodName := ⟨"java/lang/String", "equals", "(Ljava/lang/Object;)Z"⟩
abbrev yB : ByteArray := jdk_42_method_66_code
theorem d0 : decode yB 0 = .ok (.aload_n 0, 1) := by decide +kernel
theorem d1 : decode yB 1 = .ok (.aload_n 1, 1) := by decide +kernel
theorem d2 : decode yB 2 = .ok (.if_acmp (.ne) 5, 3) := by decide +kernel
theorem d5 : decode yB 5 = .ok (.iconst 1, 1) := by decide +kernel
theorem d6 : decode yB 6 = .ok (.ireturn, 1) := by decide +kernel
theorem d7 : decode yB 7 = .ok (.aload_n 1, 1) := by decide +kernel
theorem d8 : decode yB 8 = .ok (.instanceof 10, 3) := by decide +kernel
theorem d11 : decode yB 11 = .ok (.ifCond (.eq) 43, 3) := by decide +kernel
theorem d14 : decode yB 14 = .ok (.aload_n 1, 1) := by decide +kernel
theorem d15 : decode yB 15 = .ok (.checkcast 10, 3) := by decide +kernel
theorem d18 : decode yB 18 = .ok (.astore_n 2, 1) := by decide +kernel
theorem d19 : decode yB 19 = .ok (.getstatic 38, 3) := by decide +kernel
theorem d22 : decode yB 22 = .ok (.ifCond (.eq) 14, 3) := by decide +kernel
theorem d25 : decode yB 25 = .ok (.aload_n 0, 1) := by decide +kernel
theorem d26 : decode yB 26 = .ok (.getfield 15, 3) := by decide +kernel
theorem d29 : decode yB 29 = .ok (.aload_n 2, 1) := by decide +kernel
theorem d30 : decode yB 30 = .ok (.getfield 15, 3) := by decide +kernel
theorem d33 : decode yB 33 = .ok (.if_icmp (.ne) 21, 3) := by decide +kernel
theorem d36 : decode yB 36 = .ok (.aload_n 0, 1) := by decide +kernel
theorem d37 : decode yB 37 = .ok (.getfield 9, 3) := by decide +kernel
theorem d40 : decode yB 40 = .ok (.aload_n 2, 1) := by decide +kernel
theorem d41 : decode yB 41 = .ok (.getfield 9, 3) := by decide +kernel
theorem d44 : decode yB 44 = .ok (.invokestatic 541, 3) := by decide +kernel
theorem d47 : decode yB 47 = .ok (.ifCond (.eq) 7, 3) := by decide +kernel
theorem d50 : decode yB 50 = .ok (.iconst 1, 1) := by decide +kernel
theorem d51 : decode yB 51 = .ok (.goto 4, 3) := by decide +kernel
theorem d54 : decode yB 54 = .ok (.iconst 0, 1) := by decide +kernel
theorem d55 : decode yB 55 = .ok (.ireturn, 1) := by decide +kernel
def site : List Cond := [.classLink "java/lang/String" 10 "java/lang/String", .fieldLink "java/lang/String" 38 "java/lang/String" "COMPACT_STRINGS" "Z", .fieldLink "java/lang/String" 15 "java/lang/String" "coder" "B", .fieldLink "java/lang/String" 9 "java/lang/String" "value" "[B", LEq.tab] ++ staticW "java/lang/String" 541 LEq.yN
def tab : Cond := tabOf yN yB 3 (some .boolean) site
def P (x t : Addr) (V : Cell) (cd : Int32) (n : Nat) (f : Nat → Int32) (y t' : Addr) (V' : Cell) (cd' : Int32) (k : Nat) (g : Nat → Int32) (z : Int32) (args : Array Value) (s : State) : Prop := args = #[.ref x, .ref y] ∧ Txt x t V cd n f s ∧ Txt y t' V' cd' k g s ∧ StaticIs s "java/lang/String" "COMPACT_STRINGS" "Z" (.int z) ∧ ¬ z = 0
/-- equals(Object) of two Strings: whether the texts are the same -/
theorem law (l : Launch) (x t : Addr) (V : Cell) (cd : Int32) (n : Nat) (f : Nat → Int32) (y t' : Addr) (V' : Cell) (cd' : Int32) (k : Nat) (g : Nat → Int32) (z : Int32) : Law l yN 2 1 1 14 yB 3 (some .boolean) site (P x t V cd n f y t' V' cd' k g z) (Says01 (SameT n f k g)) [] 0 0 := by
  refine Law.of_walk (plainFor_of_name (by decide +kernel)) (by decide +kernel) (by decide +kernel) (by decide) (fun _ _ h => by rw [h.1]; rfl) (fun _ U U' hal hh h => ⟨h.1, h.2.1.mv hal hh, h.2.2.1.mv hal hh, h.2.2.2.1.there hal hh, h.2.2.2.2⟩) (fun r U U' V V' h1 hal h2 h => Says01.mv r U U' V V' h1 hal h2 h) ?_
  intro p e s m args below meth c s₁ X0 hexec hbytes hml hret hlk hnm hown hh0 W hP
  obtain ⟨rfl, hx, hy, s1, hz⟩ := hP
  have c1 : Steps p.tables e below (s₁.setTop (entryFrame m #[.ref x, .ref y] 3)) (s₁.setTop (mkF m 2 #[.val (.ref x), .val (.ref y), .unset] [.ref y, .ref x])) := Steps.trans (entry rfl) (by
    show Steps p.tables e below (s₁.setTop (mkF m 0 #[.val (.ref x), .val (.ref y), .unset] [])) _
    refine XS.aloadN X0.here hexec rfl (hb hbytes d0) rfl rfl ?_
    refine XS.aloadN X0.here hexec rfl (hb hbytes d1) rfl rfl ?_
    exact Steps.refl _)
  by_cases hxy : x = y
  · have c2 : Steps p.tables e below (s₁.setTop (entryFrame m #[.ref x, .ref y] 3)) (s₁.setTop (mkF m 6 #[.val (.ref x), .val (.ref y), .unset] [.int 1])) := c1.trans (by
      refine acmpNo X0.here hexec rfl (hb hbytes d2) rfl rfl rfl (by simp [acmp, hxy]) ?_
      refine iconstV X0.here hexec rfl 1 (hb hbytes d5) (by decide) ?_
      exact Steps.refl _)
    subst hxy
    have ec : cd = cd' := by
      obtain ⟨D, fd, a1, a2, a3⟩ := hx.2.2.1
      obtain ⟨D', fd', b1, b2, b3⟩ := hy.2.2.1
      cases a1.symm.trans b1
      obtain ⟨q1, q2, q3, q4⟩ := a2.1
      obtain ⟨r1, r2, r3, r4⟩ := b2.1
      cases q4.symm.trans r4
      cases a3.symm.trans b3; rfl
    have et : t = t' := by
      obtain ⟨D, fd, a1, a2, a3⟩ := hx.2.1
      obtain ⟨D', fd', b1, b2, b3⟩ := hy.2.1
      cases a1.symm.trans b1
      obtain ⟨q1, q2, q3, q4⟩ := a2.1
      obtain ⟨r1, r2, r3, r4⟩ := b2.1
      cases q4.symm.trans r4
      cases a3.symm.trans b3; rfl
    subst ec et
    have ev : V = V' := by cases hx.2.2.2.1.1.symm.trans hy.2.2.2.1.1; rfl
    subst ev
    have hs : SameT n f k g := (Cod.eqv hx.2.2.2.2.1 hy.2.2.2.2.1 hx.2.2.2.2.2 hy.2.2.2.2.2).mp ⟨rfl, fun _ _ => rfl⟩
    exact ⟨s₁, some (.int 1), _, _, _, X0, rfl, rfl, rfl, (fun h => by cases h), ⟨1, rfl, hh0, Or.inl ⟨rfl, hs⟩⟩, fun fs hl => c2.trans (X0.ireturnOut hexec hret rfl (Or.inr (Or.inl rfl)) (hb hbytes d6) hl)⟩
  · have c2 : Steps p.tables e below (s₁.setTop (entryFrame m #[.ref x, .ref y] 3)) (s₁.setTop (mkF m 8 #[.val (.ref x), .val (.ref y), .unset] [.ref y])) := c1.trans (by
      refine acmpYes X0.here hexec rfl (pc0 := 2) rfl (hb hbytes d2) rfl rfl rfl (by simp [acmp, hxy]) (by decide) rfl ?_
      refine XS.aloadN X0.here hexec rfl (hb hbytes d7) rfl rfl ?_
      exact Steps.refl _)
    obtain ⟨T3, X3, q3, st3⟩ := cinst X0 hexec hown (wk W (.classLink "java/lang/String" 10 "java/lang/String")) (hy.mv X0.warmed.alike hh0).1 (g := (mkF m 8 #[.val (.ref x), .val (.ref y), .unset] [.ref y])) rfl (rest := []) rfl (hb hbytes d8)
    have hh3 := q3.trans hh0
    have c4 : Steps p.tables e below (s₁.setTop (entryFrame m #[.ref x, .ref y] 3)) (T3.setTop (mkF m 15 #[.val (.ref x), .val (.ref y), .unset] [.ref y])) := (c2.trans (st3 _ (Steps.refl _))).trans (by
      refine XS.ifNo X3.here hexec rfl (hb hbytes d11) rfl (i0_eq_f (by decide)) ?_
      refine XS.aloadN X3.here hexec rfl (hb hbytes d14) rfl rfl ?_
      exact Steps.refl _)
    obtain ⟨T5, X5, q5, st5⟩ := cself X3 hexec hown (wk W (.classLink "java/lang/String" 10 "java/lang/String")) (hy.mv X3.warmed.alike hh3).1 (g := (mkF m 15 #[.val (.ref x), .val (.ref y), .unset] [.ref y])) rfl (rest := []) rfl (hb hbytes d15)
    have hh5 := q5.trans hh3
    have c6 : Steps p.tables e below (s₁.setTop (entryFrame m #[.ref x, .ref y] 3)) (T5.setTop (mkF m 19 #[.val (.ref x), .val (.ref y), .val (.ref y)] [])) := (c4.trans (st5 _ (Steps.refl _))).trans (by
      refine XS.astoreN X5.here hexec rfl (hb hbytes d18) rfl rfl rfl ?_
      exact Steps.refl _)
    obtain ⟨T7, X7, q7, st7⟩ := X5.sget hexec hown (wk W (.fieldLink "java/lang/String" 38 "java/lang/String" "COMPACT_STRINGS" "Z")) s1 (fun _ _ h => by rw [hh5]; exact h) (g := (mkF m 19 #[.val (.ref x), .val (.ref y), .val (.ref y)] [])) rfl (hb hbytes d19)
    have hh7 := q7.trans hh5
    have c8 : Steps p.tables e below (s₁.setTop (entryFrame m #[.ref x, .ref y] 3)) (T7.setTop (mkF m 26 #[.val (.ref x), .val (.ref y), .val (.ref y)] [.ref x])) := (c6.trans (st7 _ (Steps.refl _))).trans (by
      refine XS.ifNo X7.here hexec rfl (hb hbytes d22) rfl (i0_eq_f hz) ?_
      refine XS.aloadN X7.here hexec rfl (hb hbytes d25) rfl rfl ?_
      exact Steps.refl _)
    obtain ⟨T9, X9, q9, st9⟩ := X7.hget hexec hown (wk W (.fieldLink "java/lang/String" 15 "java/lang/String" "coder" "B")) (hx.mv X7.warmed.alike hh7).2.2.1 (g := (mkF m 26 #[.val (.ref x), .val (.ref y), .val (.ref y)] [.ref x])) rfl (rest := []) rfl (hb hbytes d26)
    have hh9 := q9.trans hh7
    have c10 : Steps p.tables e below (s₁.setTop (entryFrame m #[.ref x, .ref y] 3)) (T9.setTop (mkF m 30 #[.val (.ref x), .val (.ref y), .val (.ref y)] [.ref y, .int cd])) := (c8.trans (st9 _ (Steps.refl _))).trans (by
      refine XS.aloadN X9.here hexec rfl (hb hbytes d29) rfl rfl ?_
      exact Steps.refl _)
    obtain ⟨T11, X11, q11, st11⟩ := X9.hget hexec hown (wk W (.fieldLink "java/lang/String" 15 "java/lang/String" "coder" "B")) (hy.mv X9.warmed.alike hh9).2.2.1 (g := (mkF m 30 #[.val (.ref x), .val (.ref y), .val (.ref y)] [.ref y, .int cd])) rfl (rest := [.int cd]) rfl (hb hbytes d30)
    have hh11 := q11.trans hh9
    have c12 : Steps p.tables e below (s₁.setTop (entryFrame m #[.ref x, .ref y] 3)) (T11.setTop (mkF m 33 #[.val (.ref x), .val (.ref y), .val (.ref y)] [.int cd', .int cd])) := c10.trans (st11 _ (Steps.refl _))
    by_cases hcd : cd = cd'
    · subst hcd
      have c13 : Steps p.tables e below (s₁.setTop (entryFrame m #[.ref x, .ref y] 3)) (T11.setTop (mkF m 37 #[.val (.ref x), .val (.ref y), .val (.ref y)] [.ref x])) := c12.trans (by
        refine XS.icmpNo X11.here hexec rfl (hb hbytes d33) rfl (ii_ne_f rfl) ?_
        refine XS.aloadN X11.here hexec rfl (hb hbytes d36) rfl rfl ?_
        exact Steps.refl _)
      obtain ⟨T14, X14, q14, st14⟩ := X11.hget hexec hown (wk W (.fieldLink "java/lang/String" 9 "java/lang/String" "value" "[B")) (hx.mv X11.warmed.alike hh11).2.1 (g := (mkF m 37 #[.val (.ref x), .val (.ref y), .val (.ref y)] [.ref x])) rfl (rest := []) rfl (hb hbytes d37)
      have hh14 := q14.trans hh11
      have c15 : Steps p.tables e below (s₁.setTop (entryFrame m #[.ref x, .ref y] 3)) (T14.setTop (mkF m 41 #[.val (.ref x), .val (.ref y), .val (.ref y)] [.ref y, .ref t])) := (c13.trans (st14 _ (Steps.refl _))).trans (by
        refine XS.aloadN X14.here hexec rfl (hb hbytes d40) rfl rfl ?_
        exact Steps.refl _)
      obtain ⟨T16, X16, q16, st16⟩ := X14.hget hexec hown (wk W (.fieldLink "java/lang/String" 9 "java/lang/String" "value" "[B")) (hy.mv X14.warmed.alike hh14).2.1 (g := (mkF m 41 #[.val (.ref x), .val (.ref y), .val (.ref y)] [.ref y, .ref t])) rfl (rest := [.ref t]) rfl (hb hbytes d41)
      have hh16 := q16.trans hh14
      have c17 : Steps p.tables e below (s₁.setTop (entryFrame m #[.ref x, .ref y] 3)) (T16.setTop (mkF m 44 #[.val (.ref x), .val (.ref y), .val (.ref y)] [.ref t', .ref t])) := c15.trans (st16 _ (Steps.refl _))
      obtain ⟨v18, T18, X18, E18, g18⟩ := X16.callS hexec (LEq.law l t V t' V') hown (wks W (staticW "java/lang/String" 541 LEq.yN)) (wk W LEq.tab) (W := 0) (Nat.le_of_ble_eq_true rfl) (Nat.le_of_ble_eq_true rfl) (Nat.le_refl _) (Nat.le_refl _) (g := (mkF m 44 #[.val (.ref x), .val (.ref y), .val (.ref y)] [.ref t', .ref t])) rfl (by rw [hml]; rfl) c17 (argsL := [.ref t, .ref t']) (rest := []) rfl rfl (by show 2 * 0 + 0 ≤ _; decide) (hb hbytes d44) (⟨rfl, hx.2.2.2.1.mv X16.warmed.alike hh16, hx.2.2.2.2.1.ty, hy.2.2.2.1.mv X16.warmed.alike hh16, hy.2.2.2.2.1.ty⟩)
      obtain ⟨v, rfl, q18, hv⟩ := E18
      have iff := Cod.eqv hx.2.2.2.2.1 hy.2.2.2.2.1 hx.2.2.2.2.2 hy.2.2.2.2.2
      rcases hv with ⟨rfl, he⟩ | ⟨rfl, he⟩
      · have c19 : Steps p.tables e below (s₁.setTop (entryFrame m #[.ref x, .ref y] 3)) (T18.setTop (mkF m 55 #[.val (.ref x), .val (.ref y), .val (.ref y)] [.int 1])) := Steps.trans g18 (by
          refine XS.ifNo X18.here hexec rfl (hb hbytes d47) rfl (i0_eq_f (by decide)) ?_
          refine iconstV X18.here hexec rfl 1 (hb hbytes d50) (by decide) ?_
          refine XS.goto X18.here hexec rfl (pc0 := 51) rfl (hb hbytes d51) (by decide) rfl ?_
          exact Steps.refl _)
        exact ⟨T18, some (.int 1), _, _, _, X18, rfl, rfl, rfl, (fun h => by cases h), ⟨1, rfl, q18.trans hh16, Or.inl ⟨rfl, iff.mp he⟩⟩, fun fs hl => c19.trans (X18.ireturnOut hexec hret rfl (Or.inr (Or.inl rfl)) (hb hbytes d55) hl)⟩
      · have c19 : Steps p.tables e below (s₁.setTop (entryFrame m #[.ref x, .ref y] 3)) (T18.setTop (mkF m 55 #[.val (.ref x), .val (.ref y), .val (.ref y)] [.int 0])) := Steps.trans g18 (by
          refine XS.ifYes X18.here hexec rfl (pc0 := 47) rfl (hb hbytes d47) rfl (i0_eq_t rfl) (by decide) rfl ?_
          refine iconstV X18.here hexec rfl 0 (hb hbytes d54) (by decide) ?_
          exact Steps.refl _)
        exact ⟨T18, some (.int 0), _, _, _, X18, rfl, rfl, rfl, (fun h => by cases h), ⟨0, rfl, q18.trans hh16, Or.inr ⟨rfl, fun q => he (iff.mpr q)⟩⟩, fun fs hl => c19.trans (X18.ireturnOut hexec hret rfl (Or.inr (Or.inl rfl)) (hb hbytes d55) hl)⟩
    · have c13 : Steps p.tables e below (s₁.setTop (entryFrame m #[.ref x, .ref y] 3)) (T11.setTop (mkF m 55 #[.val (.ref x), .val (.ref y), .val (.ref y)] [.int 0])) := c12.trans (by
        refine XS.icmpYes X11.here hexec rfl (pc0 := 33) rfl (hb hbytes d33) rfl (ii_ne_t hcd) (by decide) rfl ?_
        refine iconstV X11.here hexec rfl 0 (hb hbytes d54) (by decide) ?_
        exact Steps.refl _)
      exact ⟨T11, some (.int 0), _, _, _, X11, rfl, rfl, rfl, (fun h => by cases h), ⟨0, rfl, hh11, Or.inr ⟨rfl, Cod.dif hx.2.2.2.2.1 hy.2.2.2.2.1 hcd⟩⟩, fun fs hl => c13.trans (X11.ireturnOut hexec hret rfl (Or.inr (Or.inl rfl)) (hb hbytes d55) hl)⟩
theorem pays {l : Launch} {R : Room} {p : Program} {e : Env} {below : List Frame} {s : State} {sargs : Array Value} {len W : Nat} (x t : Addr) (V : Cell) (cd : Int32) (n : Nat) (f : Nat → Int32) (y t' : Addr) (V' : Cell) (cd' : Int32) (k : Nat) (g : Nat → Int32) (z : Int32) (htab : tab.before sargs s = true) (hfr : 2 ≤ R.frames) (hlo : W + 28 ≤ R.locals) :
    Back l R p e below s sargs yN len W (fun A₁ a₁ => A₁.cells + 0 ≤ R.cells ∧ A₁.slots + 0 ≤ R.slots ∧ P x t V cd n f y t' V' cd' k g z a₁ A₁.U) (fun A₁ _ v₁ B₁ => Says01 (SameT n f k g) v₁ A₁.U B₁.U ∧ B₁.locs = A₁.locs ++ [] ∧ B₁.cells = A₁.cells + 0 ∧ B₁.slots = A₁.slots + 0) :=
  (law l x t V cd n f y t' V' cd' k g z).pays htab hfr (by omega)
end SEq
end StrChars
namespace StrChars.Road
open Jvm Sem ClassFile Op Lib Jvm.Stand Jvm.Free Jvm.Free.XT
open Jvm.Lib.Cold (StaticIs)
/-- the words of String.equals(Object) -/
abbrev wordsEq : List Jvm.Cond := [.code SEq.yN SEq.yB 3 (some .boolean), .initialized ST, .classLink ST 10 ST, .fieldLink ST 38 ST "COMPACT_STRINGS" "Z", .fieldLink ST 15 ST "coder" "B", .fieldLink ST 9 ST "value" "[B", .methodLink ST 541 LEq.yN, .static LEq.yN, .code LEq.yN LEq.yB 3 (some .boolean), .initialized "java/lang/StringLatin1"]
theorem tabEq_of {a : Array Value} {s : State} (h : ∀ w ∈ wordsEq, w.before a s = true) : SEq.tab.before a s = true := by
  have hl : LEq.tab.before a s = true := unparts (wk h (.code LEq.yN LEq.yB 3 (some .boolean))) (wks h (.initialized LEq.yN.cls :: LEq.site))
  have q := consq hl h
  exact unparts (wk q (.code SEq.yN SEq.yB 3 (some .boolean))) (wks q (.initialized SEq.yN.cls :: SEq.site))
theorem movedEq {Z s : State} {a0 args : Array Value} (hZ : Z.Warmed39 s.vm) (hw : ∀ d ∈ wordsEq, d.before a0 Z = true) : ∀ d ∈ wordsEq, d.before args s = true := fun d hd => by
  have t : ∀ d ∈ wordsEq, (d.onTables && d.keepsFace) = true := by decide +kernel
  exact RoadKit.mv hZ (hw d hd) (t d hd)
/-- the road's facts of a String, as the laws ask it -/
theorem txt_of {Z U : State} {a0 : Array Value} {kI : Nat} (wi : (Jvm.Cond.instantiable ST kI).before a0 Z = true) (al : Z.vm.Alike U.vm) {x t : Addr} {kb : ClassId} {cs : List Int32} {cd N2 : Int32} {vs : List Value} (E : RoadKit.Exa Z U.heap x ST) (V : RoadKit.Fld Z U.heap x ST "value" "[B" (.ref t)) (C : RoadKit.Fld Z U.heap x ST "coder" "B" (.int cd)) (K : RoadKit.Arv Z U.heap t kb .byte N2 vs (.int 0)) (hc : CodA cs cd N2 vs) (hb : ∀ c ∈ cs, ¬ c < 0 ∧ ¬ (65535 : Int32) < c) (l2 : cs.length ≤ 4000) :
    ∃ A, Txt x t A cd cs.length (fun j => cs.getD j 0) U := by
  obtain ⟨A, K1, K2, K3, K4, K5, K6⟩ := K
  have hcod := hc.cod (by omega) K3 K5
  obtain ⟨D, fV, fC, hB, F1, F2, g1, g2, -, -⟩ := strObj wi al E V C
  exact ⟨A, ⟨_, hB.2.2.1, D, hB.1, rfl, by cases q : D.vm <;> first | rfl | exact absurd q (hB.2.1.2 _)⟩, Has.of hB F1 g1, Has.of hB F2 g2, ⟨K1.1, State.isArrayOf_alike al K1.2.1, K1.2.2, by rcases hcod with ⟨-, q, -⟩ | ⟨-, q, -⟩ <;> omega⟩, hcod, fun j hj => by
    have e : cs.getD j 0 = cs[j] := by simp [List.getD_eq_getElem?_getD, hj]
    show ¬ cs.getD j 0 < 0 ∧ ¬ 65535 < cs.getD j 0
    rw [e]; exact hb _ (List.getElem_mem _)⟩
theorem same_list (cs ds : List Int32) : SameT cs.length (fun j => cs.getD j 0) ds.length (fun j => ds.getD j 0) ↔ cs = ds := by
  constructor
  · rintro ⟨e, q⟩
    refine List.ext_getElem e fun j h1 h2 => ?_
    have := q j h1
    simpa [List.getD_eq_getElem?_getD, h1, h2] using this
  · rintro rfl
    exact ⟨rfl, fun _ _ => rfl⟩
/-- **equals(Object) OF TWO SUCH STRINGS**: 1 just where the chars are the same -/
theorem eqW {p : Program} {l : Launch} {e : Env} {R : Room} {s : State} {args : Array Value} {below : List Frame} {len W : Nat} {Z : State} {a0 : Array Value} {h : Heap} (hZ : Z.Warmed39 s.vm) (hw : ∀ d ∈ wordsEq, d.before a0 Z = true) {kI : Nat} (wi : (Jvm.Cond.instantiable ST kI).before a0 Z = true)
    {x t : Addr} {kb : ClassId} {cs : List Int32} {cd N2 : Int32} {vs : List Value} (E : RoadKit.Exa Z h x ST) (V : RoadKit.Fld Z h x ST "value" "[B" (.ref t)) (C : RoadKit.Fld Z h x ST "coder" "B" (.int cd)) (K : RoadKit.Arv Z h t kb .byte N2 vs (.int 0)) (hc : CodA cs cd N2 vs) (hb : ∀ c ∈ cs, ¬ c < 0 ∧ ¬ (65535 : Int32) < c) (l2 : cs.length ≤ 4000)
    {y t' : Addr} {kb' : ClassId} {ds : List Int32} {cd' N2' : Int32} {vs' : List Value} (E' : RoadKit.Exa Z h y ST) (V' : RoadKit.Fld Z h y ST "value" "[B" (.ref t')) (C' : RoadKit.Fld Z h y ST "coder" "B" (.int cd')) (K' : RoadKit.Arv Z h t' kb' .byte N2' vs' (.int 0)) (hc' : CodA ds cd' N2' vs') (hb' : ∀ c ∈ ds, ¬ c < 0 ∧ ¬ (65535 : Int32) < c) (l2' : ds.length ≤ 4000)
    {z : Int32} (S : RoadKit.Sta Z h ST "COMPACT_STRINGS" "Z" (.int z)) (hz : ¬ z = 0) (hfr : 2 ≤ R.frames) (hlo : W + 28 ≤ R.locals) :
    Back l R p e below s args (⟨"java/lang/String", "equals", "(Ljava/lang/Object;)Z"⟩ : MethodName) len W (fun P a => a = #[.ref x, .ref y] ∧ P.U.heap = h ∧ P.cells + 0 ≤ R.cells ∧ P.slots + 0 ≤ R.slots)
      (fun P _ v B => ∃ L, (((v = some (.int 1) ∧ cs = ds) ∨ (v = some (.int 0) ∧ ¬ cs = ds)) ∧ L = [] ∧ B.U.heap = h) ∧ B.locs = P.locs ++ L ∧ B.cells = P.cells + 0 ∧ B.slots = P.slots + 0) := by
  intro m meth c P g ig mk a X hg hsize hdg hW hn hp'
  obtain ⟨rfl, rfl, r1, r2⟩ := hp'
  have al : Z.vm.Alike P.U.vm := hZ.alike.trans X.warmed.alike
  obtain ⟨A, hx⟩ := txt_of wi al E V C K hc hb l2
  obtain ⟨A', hy⟩ := txt_of wi al E' V' C' K' hc' hb' l2'
  obtain ⟨v, B, X', ⟨⟨w, hv, hh, hq⟩, hl, hk, hs⟩, st⟩ := SEq.pays x t A cd cs.length (fun j => cs.getD j 0) y t' A' cd' ds.length (fun j => ds.getD j 0) z (tabEq_of (movedEq hZ hw)) hfr hlo m meth c P g ig mk _ X hg hsize hdg hW hn ⟨r1, r2, rfl, hx, hy, sta_is al S, hz⟩
  refine ⟨v, B, X', ⟨[], ⟨?_, rfl, hh⟩, hl, hk, hs⟩, st⟩
  rcases hq with ⟨rfl, q⟩ | ⟨rfl, q⟩
  · exact Or.inl ⟨hv, (same_list cs ds).mp q⟩
  · exact Or.inr ⟨hv, fun e => q ((same_list cs ds).mpr e)⟩
end StrChars.Road
namespace StrChars.Road
open Jvm Sem ClassFile Op Lib Jvm.Stand Jvm.Free Jvm.Free.XT
open Jvm.Lib.Cold (StaticIs)
/-- what backV says of its String, as the contracts of this text ask it: cs's low bytes, coder 0 -/
theorem codOf {cs : List Int32} {n : Nat} (hn : cs.length = n) (hb : ∀ c ∈ cs, ¬ 255 < c) : CodA cs 0 (Int32.ofNat n) ((cs.map lo8).map Value.int) := Or.inl ⟨rfl, by rw [hn], by simp [List.map_map, Function.comp_def], hb⟩
end StrChars.Road
end Jvm.Pilot.@@N@@

namespace Jvm.Pilot.@@N@@
open Jvm Jvm.ClassFile Sem Op Lib Jvm.Free Jvm.Stand Jvm.LawKit Jvm.RoadKit Bundle Jvm.Pilot.@@N@@.Jvm.D
theorem own_safeN {Z : State} {EL : List (String × Nat)} {vm : Vm} {h h' : Heap} {x : Addr} (H : CHv Z EL vm h) (E : Ext h h') (hx : h.size ≤ x) : Safe Z EL vm h' x := fun B => Safe.new hx ((H.step fun _ _ _ q => E.2 _ _ q).2 _ B)
theorem own_since (s : State) (n : Nat) : s.Since s.vm n := (State.WarmedH.refl s).since n
theorem own_mono {s t : State} {o : Outcome} {L : List Loc} {k n k' n' : Nat} (h : ReturnedEndW s o t L k n) (hk : k ≤ k') (hn : n ≤ n') : ReturnedEndW s o t L k' n' := ⟨h.1, h.2.1, h.2.2.1, h.2.2.2.mono hk hn⟩
theorem own_EW {Z : State} {a0 : Array Value} (hw : ∀ d ∈ tables_1, d.before a0 Z = true) : EW Z a0 consts_1 := (EW.cons (hw _ (List.mem_of_getElem? (i := 84) rfl)) (by decide +kernel) (EW.cons (hw _ (List.mem_of_getElem? (i := 122) rfl)) (by decide +kernel) (EW.cons (hw _ (List.mem_of_getElem? (i := 123) rfl)) (by decide +kernel) (EW.cons (hw _ (List.mem_of_getElem? (i := 124) rfl)) (by decide +kernel) (EW.cons (hw _ (List.mem_of_getElem? (i := 125) rfl)) (by decide +kernel) (EW.cons (hw _ (List.mem_of_getElem? (i := 126) rfl)) (by decide +kernel) (EW.cons (hw _ (List.mem_of_getElem? (i := 127) rfl)) (by decide +kernel) (EW.cons (hw _ (List.mem_of_getElem? (i := 128) rfl)) (by decide +kernel) (EW.cons (hw _ (List.mem_of_getElem? (i := 2) rfl)) (by decide +kernel) (EW.cons (hw _ (List.mem_of_getElem? (i := 11) rfl)) (by decide +kernel) (EW.cons (hw _ (List.mem_of_getElem? (i := 12) rfl)) (by decide +kernel) (EW.cons (hw _ (List.mem_of_getElem? (i := 13) rfl)) (by decide +kernel) (EW.cons (hw _ (List.mem_of_getElem? (i := 14) rfl)) (by decide +kernel) (EW.cons (hw _ (List.mem_of_getElem? (i := 15) rfl)) (by decide +kernel) (EW.cons (hw _ (List.mem_of_getElem? (i := 16) rfl)) (by decide +kernel) (EW.cons (hw _ (List.mem_of_getElem? (i := 17) rfl)) (by decide +kernel) (EW.cons (hw _ (List.mem_of_getElem? (i := 18) rfl)) (by decide +kernel) (EW.cons (hw _ (List.mem_of_getElem? (i := 19) rfl)) (by decide +kernel) (EW.cons (hw _ (List.mem_of_getElem? (i := 20) rfl)) (by decide +kernel) (EW.cons (hw _ (List.mem_of_getElem? (i := 21) rfl)) (by decide +kernel) (EW.cons (hw _ (List.mem_of_getElem? (i := 22) rfl)) (by decide +kernel) (EW.cons (hw _ (List.mem_of_getElem? (i := 23) rfl)) (by decide +kernel) (EW.cons (hw _ (List.mem_of_getElem? (i := 24) rfl)) (by decide +kernel) (EW.cons (hw _ (List.mem_of_getElem? (i := 25) rfl)) (by decide +kernel) (EW.cons (hw _ (List.mem_of_getElem? (i := 26) rfl)) (by decide +kernel) (EW.cons (hw _ (List.mem_of_getElem? (i := 27) rfl)) (by decide +kernel) (EW.cons (hw _ (List.mem_of_getElem? (i := 28) rfl)) (by decide +kernel) (EW.cons (hw _ (List.mem_of_getElem? (i := 29) rfl)) (by decide +kernel) (EW.cons (hw _ (List.mem_of_getElem? (i := 30) rfl)) (by decide +kernel) (EW.cons (hw _ (List.mem_of_getElem? (i := 31) rfl)) (by decide +kernel) EW.nil))))))))))))))))))))))))))))))
theorem own_wS {Z : State} {a0 : Array Value} (hw : ∀ d ∈ tables_1, d.before a0 Z = true) : ∀ a ∈ Bundle.stringAtoms, a.before a0 Z = true := fun d hd => by
  simp only [Bundle.stringAtoms, List.mem_cons, List.not_mem_nil, or_false] at hd
  rcases hd with rfl | rfl | rfl | rfl | rfl | rfl | rfl
  · exact (hw _ (List.mem_of_getElem? (i := 3) rfl))
  · exact (hw _ (List.mem_of_getElem? (i := 4) rfl))
  · exact (hw _ (List.mem_of_getElem? (i := 5) rfl))
  · exact (hw _ (List.mem_of_getElem? (i := 6) rfl))
  · exact (hw _ (List.mem_of_getElem? (i := 7) rfl))
  · exact (hw _ (List.mem_of_getElem? (i := 8) rfl))
  · exact (hw _ (List.mem_of_getElem? (i := 9) rfl))
theorem own_wNew {Z : State} {a0 : Array Value} (hw : ∀ d ∈ tables_1, d.before a0 Z = true) : ∀ d ∈ StrChars.Road.words, d.before a0 Z = true := fun d hd => hw d ((by decide +kernel : ∀ d ∈ StrChars.Road.words, d ∈ tables_1) d hd)
theorem own_wEq {Z : State} {a0 : Array Value} (hw : ∀ d ∈ tables_1, d.before a0 Z = true) : ∀ d ∈ StrChars.Road.wordsEq, d.before a0 Z = true := fun d hd => hw d ((by decide +kernel : ∀ d ∈ StrChars.Road.wordsEq, d ∈ tables_1) d hd)
theorem own_up {cs : List Int32} (h : ∀ c ∈ cs, ¬ c < 0 ∧ ¬ (255 : Int32) < c) : ∀ c ∈ cs, ¬ c < 0 ∧ ¬ (65535 : Int32) < c := fun c hc => ⟨(h c hc).1, fun q => (h c hc).2 (by rw [Int32.lt_iff_toInt_lt] at q ⊢; have e1 : (65535 : Int32).toInt = 65535 := rfl; have e2 : (255 : Int32).toInt = 255 := rfl; omega)⟩
def own_eqs (cs ds : List Int32) : Int32 := if cs = ds then 1 else 0
theorem own_fld {args : Array Value} {s : State} {t r : Term} {C n d : String} {a : Addr} {v : Value} (ht : t.eval args s none [] s = some (.ref a)) (hr : r.eval args s none [] s = some v) (h : (Jvm.Cond.eq (.field t C n d) r).value args s none s [] = some true) : s.fieldOf? a C n d = some v := by
  obtain ⟨x, y, h1, h2, hk, -⟩ := cmp_v (Or.inl h)
  have e1 : s.fieldOf? a C n d = some x := (fld_at ht).symm.trans h1
  cases hr.symm.trans h2
  rw [e1]
  simp only [Cond.value, h1, hr] at h
  cases x <;> cases v <;> simp_all [Kin, Value.isRef]
theorem own_eqv {args : Array Value} {s : State} {t r : Term} {v : Value} (hr : r.eval args s none [] s = some v) (h : (Jvm.Cond.eq t r).value args s none s [] = some true) : t.eval args s none [] s = some v := by
  obtain ⟨x, y, h1, h2, hk, -⟩ := cmp_v (Or.inl h)
  cases hr.symm.trans h2
  rw [h1]
  simp only [Cond.value, h1, hr] at h
  cases x <;> cases v <;> simp_all [Kin, Value.isRef]
theorem own_ey {cs ds : List Int32} (h : cs = ds) : ¬ own_eqs cs ds = 0 := by
  unfold own_eqs
  rw [if_pos h]; decide
theorem own_en {cs ds : List Int32} (h : ¬ cs = ds) : own_eqs cs ds = 0 := by
  unfold own_eqs
  rw [if_neg h]
theorem own_safe0 {Z : State} {a0 : Array Value} {EL : List (String × Nat)} {vm : Vm} {h : Heap} {x : Addr} (hZ : Z.Warmed39 vm) (wi : (Jvm.Cond.instantiable "java/lang/String" 4).before a0 Z = true) (E : Exa Z h x "java/lang/String") (F : Fld Z h x "java/lang/String" "value" "[B" .null) : Safe Z EL vm h x := fun B => by
  obtain ⟨p, -, u, a, -, q, hqa, G, hx⟩ := B
  obtain ⟨cS, ⟨⟨s1, s2, s3, ⟨cv, kv, iv, s4, s4'⟩, ⟨cc, kc, ic, s5, s5'⟩, s6, s7, s8, s9, s10, s11, s12, s13, s14, s15, s16⟩, hfS, hcS⟩, ⟨kS, k1, k2, k3⟩, hB, hbyt⟩ := G
  rcases hx with hx | hx
  · obtain ⟨cell, cf, k, i, f, e1, e2, e3, e4, e5, e6, e7⟩ := F
    obtain ⟨kv', z4⟩ := ff_back (U := Wst Z vm h) hZ.alike s4
    cases e2.symm.trans z4
    have s1' : h[q.sa]? = some q.sC := s1
    rw [← hx, e1] at s1'
    cases s1'
    rw [e7] at s8
    cases s8
  · obtain ⟨cell, k, e1, e2, e3, e4, e5⟩ := E
    have s10' : h[q.sd]? = some q.SA := s10
    rw [← hx, e1] at s10'
    cases s10'
    obtain ⟨-, k9, hk9, comp, hkind9⟩ := s11
    obtain ⟨c1, kk, f1, f2, f3, -⟩ := Cond.instantiable_spec wi
    cases e2.symm.trans f1
    obtain ⟨k', q1, q2⟩ := hZ.alike.2.2 _ _ f2
    have hk9' : vm.classes[q.SA.cls]? = some k9 := hk9
    have e9 : k9 = k' := Option.some.inj (hk9'.symm.trans q1)
    rw [e9, q2, f3] at hkind9
    cases hkind9
def own_ag (cs : List Int32) (v0 v1 v2 v3 v4 v5 v6 v7 : Value) : Value := (if own_eqs ([(99 : Int32), (111 : Int32), (117 : Int32), (110 : Int32), (116 : Int32)] : List Int32) cs = (0 : Int32) then (if own_eqs ([(115 : Int32), (117 : Int32), (109 : Int32), (73 : Int32), (110 : Int32), (116 : Int32), (101 : Int32), (103 : Int32), (101 : Int32), (114 : Int32)] : List Int32) cs = (0 : Int32) then (if own_eqs ([(115 : Int32), (117 : Int32), (109 : Int32), (76 : Int32), (111 : Int32), (110 : Int32), (103 : Int32)] : List Int32) cs = (0 : Int32) then (if own_eqs ([(115 : Int32), (117 : Int32), (109 : Int32), (68 : Int32), (111 : Int32), (117 : Int32), (98 : Int32), (108 : Int32), (101 : Int32)] : List Int32) cs = (0 : Int32) then (if own_eqs ([(115 : Int32), (117 : Int32), (109 : Int32), (66 : Int32), (105 : Int32), (103 : Int32), (68 : Int32), (101 : Int32), (99 : Int32), (105 : Int32), (109 : Int32), (97 : Int32), (108 : Int32)] : List Int32) cs = (0 : Int32) then (if own_eqs ([(109 : Int32), (105 : Int32), (110 : Int32)] : List Int32) cs = (0 : Int32) then (if own_eqs ([(109 : Int32), (97 : Int32), (120 : Int32)] : List Int32) cs = (0 : Int32) then (if own_eqs ([(97 : Int32), (118 : Int32), (103 : Int32)] : List Int32) cs = (0 : Int32) then .null else v7) else v6) else v5) else v4) else v3) else v2) else v1) else v0)
theorem own_agn_0 (v0 v1 v2 v3 v4 v5 v6 v7 : Value) : own_ag ([(99 : Int32), (111 : Int32), (117 : Int32), (110 : Int32), (116 : Int32)] : List Int32) v0 v1 v2 v3 v4 v5 v6 v7 = v0 := by
  rw [own_ag, if_neg (by decide +kernel)]
theorem own_agn_1 (v0 v1 v2 v3 v4 v5 v6 v7 : Value) : own_ag ([(115 : Int32), (117 : Int32), (109 : Int32), (73 : Int32), (110 : Int32), (116 : Int32), (101 : Int32), (103 : Int32), (101 : Int32), (114 : Int32)] : List Int32) v0 v1 v2 v3 v4 v5 v6 v7 = v1 := by
  rw [own_ag, if_pos (by decide +kernel), if_neg (by decide +kernel)]
theorem own_agn_2 (v0 v1 v2 v3 v4 v5 v6 v7 : Value) : own_ag ([(115 : Int32), (117 : Int32), (109 : Int32), (76 : Int32), (111 : Int32), (110 : Int32), (103 : Int32)] : List Int32) v0 v1 v2 v3 v4 v5 v6 v7 = v2 := by
  rw [own_ag, if_pos (by decide +kernel), if_pos (by decide +kernel), if_neg (by decide +kernel)]
theorem own_agn_3 (v0 v1 v2 v3 v4 v5 v6 v7 : Value) : own_ag ([(115 : Int32), (117 : Int32), (109 : Int32), (68 : Int32), (111 : Int32), (117 : Int32), (98 : Int32), (108 : Int32), (101 : Int32)] : List Int32) v0 v1 v2 v3 v4 v5 v6 v7 = v3 := by
  rw [own_ag, if_pos (by decide +kernel), if_pos (by decide +kernel), if_pos (by decide +kernel), if_neg (by decide +kernel)]
theorem own_agn_4 (v0 v1 v2 v3 v4 v5 v6 v7 : Value) : own_ag ([(115 : Int32), (117 : Int32), (109 : Int32), (66 : Int32), (105 : Int32), (103 : Int32), (68 : Int32), (101 : Int32), (99 : Int32), (105 : Int32), (109 : Int32), (97 : Int32), (108 : Int32)] : List Int32) v0 v1 v2 v3 v4 v5 v6 v7 = v4 := by
  rw [own_ag, if_pos (by decide +kernel), if_pos (by decide +kernel), if_pos (by decide +kernel), if_pos (by decide +kernel), if_neg (by decide +kernel)]
theorem own_agn_5 (v0 v1 v2 v3 v4 v5 v6 v7 : Value) : own_ag ([(109 : Int32), (105 : Int32), (110 : Int32)] : List Int32) v0 v1 v2 v3 v4 v5 v6 v7 = v5 := by
  rw [own_ag, if_pos (by decide +kernel), if_pos (by decide +kernel), if_pos (by decide +kernel), if_pos (by decide +kernel), if_pos (by decide +kernel), if_neg (by decide +kernel)]
theorem own_agn_6 (v0 v1 v2 v3 v4 v5 v6 v7 : Value) : own_ag ([(109 : Int32), (97 : Int32), (120 : Int32)] : List Int32) v0 v1 v2 v3 v4 v5 v6 v7 = v6 := by
  rw [own_ag, if_pos (by decide +kernel), if_pos (by decide +kernel), if_pos (by decide +kernel), if_pos (by decide +kernel), if_pos (by decide +kernel), if_pos (by decide +kernel), if_neg (by decide +kernel)]
theorem own_agn_7 (v0 v1 v2 v3 v4 v5 v6 v7 : Value) : own_ag ([(97 : Int32), (118 : Int32), (103 : Int32)] : List Int32) v0 v1 v2 v3 v4 v5 v6 v7 = v7 := by
  rw [own_ag, if_pos (by decide +kernel), if_pos (by decide +kernel), if_pos (by decide +kernel), if_pos (by decide +kernel), if_pos (by decide +kernel), if_pos (by decide +kernel), if_pos (by decide +kernel), if_neg (by decide +kernel)]
theorem own_agn_8 (v0 v1 v2 v3 v4 v5 v6 v7 : Value) : own_ag ([(67 : Int32), (79 : Int32), (85 : Int32), (78 : Int32), (84 : Int32)] : List Int32) v0 v1 v2 v3 v4 v5 v6 v7 = .null := by
  rw [own_ag, if_pos (by decide +kernel), if_pos (by decide +kernel), if_pos (by decide +kernel), if_pos (by decide +kernel), if_pos (by decide +kernel), if_pos (by decide +kernel), if_pos (by decide +kernel), if_pos (by decide +kernel)]
theorem own_agn_9 (v0 v1 v2 v3 v4 v5 v6 v7 : Value) : own_ag ([(67 : Int32), (111 : Int32), (117 : Int32), (110 : Int32), (116 : Int32)] : List Int32) v0 v1 v2 v3 v4 v5 v6 v7 = .null := by
  rw [own_ag, if_pos (by decide +kernel), if_pos (by decide +kernel), if_pos (by decide +kernel), if_pos (by decide +kernel), if_pos (by decide +kernel), if_pos (by decide +kernel), if_pos (by decide +kernel), if_pos (by decide +kernel)]
theorem own_agn_10 (v0 v1 v2 v3 v4 v5 v6 v7 : Value) : own_ag ([(115 : Int32), (117 : Int32), (109 : Int32)] : List Int32) v0 v1 v2 v3 v4 v5 v6 v7 = .null := by
  rw [own_ag, if_pos (by decide +kernel), if_pos (by decide +kernel), if_pos (by decide +kernel), if_pos (by decide +kernel), if_pos (by decide +kernel), if_pos (by decide +kernel), if_pos (by decide +kernel), if_pos (by decide +kernel)]
theorem own_agn_11 (v0 v1 v2 v3 v4 v5 v6 v7 : Value) : own_ag ([(115 : Int32), (117 : Int32), (109 : Int32), (105 : Int32), (110 : Int32), (116 : Int32), (101 : Int32), (103 : Int32), (101 : Int32), (114 : Int32)] : List Int32) v0 v1 v2 v3 v4 v5 v6 v7 = .null := by
  rw [own_ag, if_pos (by decide +kernel), if_pos (by decide +kernel), if_pos (by decide +kernel), if_pos (by decide +kernel), if_pos (by decide +kernel), if_pos (by decide +kernel), if_pos (by decide +kernel), if_pos (by decide +kernel)]
theorem own_agn_12 (v0 v1 v2 v3 v4 v5 v6 v7 : Value) : own_ag ([(115 : Int32), (117 : Int32), (109 : Int32), (76 : Int32), (111 : Int32), (110 : Int32), (103 : Int32), (32 : Int32)] : List Int32) v0 v1 v2 v3 v4 v5 v6 v7 = .null := by
  rw [own_ag, if_pos (by decide +kernel), if_pos (by decide +kernel), if_pos (by decide +kernel), if_pos (by decide +kernel), if_pos (by decide +kernel), if_pos (by decide +kernel), if_pos (by decide +kernel), if_pos (by decide +kernel)]
theorem own_agn_13 (v0 v1 v2 v3 v4 v5 v6 v7 : Value) : own_ag ([(115 : Int32), (117 : Int32), (109 : Int32), (100 : Int32), (111 : Int32), (117 : Int32), (98 : Int32), (108 : Int32), (101 : Int32)] : List Int32) v0 v1 v2 v3 v4 v5 v6 v7 = .null := by
  rw [own_ag, if_pos (by decide +kernel), if_pos (by decide +kernel), if_pos (by decide +kernel), if_pos (by decide +kernel), if_pos (by decide +kernel), if_pos (by decide +kernel), if_pos (by decide +kernel), if_pos (by decide +kernel)]
theorem own_agn_14 (v0 v1 v2 v3 v4 v5 v6 v7 : Value) : own_ag ([(83 : Int32), (117 : Int32), (109 : Int32), (66 : Int32), (105 : Int32), (103 : Int32), (68 : Int32), (101 : Int32), (99 : Int32), (105 : Int32), (109 : Int32), (97 : Int32), (108 : Int32)] : List Int32) v0 v1 v2 v3 v4 v5 v6 v7 = .null := by
  rw [own_ag, if_pos (by decide +kernel), if_pos (by decide +kernel), if_pos (by decide +kernel), if_pos (by decide +kernel), if_pos (by decide +kernel), if_pos (by decide +kernel), if_pos (by decide +kernel), if_pos (by decide +kernel)]
theorem own_agn_15 (v0 v1 v2 v3 v4 v5 v6 v7 : Value) : own_ag ([(115 : Int32), (117 : Int32), (109 : Int32), (66 : Int32), (105 : Int32), (103 : Int32), (68 : Int32), (101 : Int32), (99 : Int32), (105 : Int32), (109 : Int32), (97 : Int32)] : List Int32) v0 v1 v2 v3 v4 v5 v6 v7 = .null := by
  rw [own_ag, if_pos (by decide +kernel), if_pos (by decide +kernel), if_pos (by decide +kernel), if_pos (by decide +kernel), if_pos (by decide +kernel), if_pos (by decide +kernel), if_pos (by decide +kernel), if_pos (by decide +kernel)]
theorem own_agn_16 (v0 v1 v2 v3 v4 v5 v6 v7 : Value) : own_ag ([(109 : Int32), (105 : Int32)] : List Int32) v0 v1 v2 v3 v4 v5 v6 v7 = .null := by
  rw [own_ag, if_pos (by decide +kernel), if_pos (by decide +kernel), if_pos (by decide +kernel), if_pos (by decide +kernel), if_pos (by decide +kernel), if_pos (by decide +kernel), if_pos (by decide +kernel), if_pos (by decide +kernel)]
theorem own_agn_17 (v0 v1 v2 v3 v4 v5 v6 v7 : Value) : own_ag ([(109 : Int32), (97 : Int32), (120 : Int32), (120 : Int32)] : List Int32) v0 v1 v2 v3 v4 v5 v6 v7 = .null := by
  rw [own_ag, if_pos (by decide +kernel), if_pos (by decide +kernel), if_pos (by decide +kernel), if_pos (by decide +kernel), if_pos (by decide +kernel), if_pos (by decide +kernel), if_pos (by decide +kernel), if_pos (by decide +kernel)]
theorem own_agn_18 (v0 v1 v2 v3 v4 v5 v6 v7 : Value) : own_ag ([(65 : Int32), (86 : Int32), (71 : Int32)] : List Int32) v0 v1 v2 v3 v4 v5 v6 v7 = .null := by
  rw [own_ag, if_pos (by decide +kernel), if_pos (by decide +kernel), if_pos (by decide +kernel), if_pos (by decide +kernel), if_pos (by decide +kernel), if_pos (by decide +kernel), if_pos (by decide +kernel), if_pos (by decide +kernel)]
theorem own_agn_19 (v0 v1 v2 v3 v4 v5 v6 v7 : Value) : own_ag ([] : List Int32) v0 v1 v2 v3 v4 v5 v6 v7 = .null := by
  rw [own_ag, if_pos (by decide +kernel), if_pos (by decide +kernel), if_pos (by decide +kernel), if_pos (by decide +kernel), if_pos (by decide +kernel), if_pos (by decide +kernel), if_pos (by decide +kernel), if_pos (by decide +kernel)]
theorem own_agn_20 (v0 v1 v2 v3 v4 v5 v6 v7 : Value) : own_ag ([(83 : Int32), (85 : Int32), (77 : Int32), (95 : Int32), (73 : Int32), (78 : Int32), (84 : Int32), (69 : Int32), (71 : Int32), (69 : Int32), (82 : Int32)] : List Int32) v0 v1 v2 v3 v4 v5 v6 v7 = .null := by
  rw [own_ag, if_pos (by decide +kernel), if_pos (by decide +kernel), if_pos (by decide +kernel), if_pos (by decide +kernel), if_pos (by decide +kernel), if_pos (by decide +kernel), if_pos (by decide +kernel), if_pos (by decide +kernel)]
theorem own_agn_21 (v0 v1 v2 v3 v4 v5 v6 v7 : Value) : own_ag ([(115 : Int32), (117 : Int32), (109 : Int32), (70 : Int32), (108 : Int32), (111 : Int32), (97 : Int32), (116 : Int32)] : List Int32) v0 v1 v2 v3 v4 v5 v6 v7 = .null := by
  rw [own_ag, if_pos (by decide +kernel), if_pos (by decide +kernel), if_pos (by decide +kernel), if_pos (by decide +kernel), if_pos (by decide +kernel), if_pos (by decide +kernel), if_pos (by decide +kernel), if_pos (by decide +kernel)]
theorem own_ag3 {a b c : Int32} (v0 v1 v2 v3 v4 v5 v6 v7 : Value) (n1 : ¬ (a = (109 : Int32) ∧ b = (105 : Int32) ∧ c = (110 : Int32))) (n2 : ¬ (a = (109 : Int32) ∧ b = (97 : Int32) ∧ c = (120 : Int32))) (n3 : ¬ (a = (97 : Int32) ∧ b = (118 : Int32) ∧ c = (103 : Int32))) : own_ag ([a, b, c] : List Int32) v0 v1 v2 v3 v4 v5 v6 v7 = .null := by
  rw [own_ag, if_pos (own_en (by simp)), if_pos (own_en (by simp)), if_pos (own_en (by simp)), if_pos (own_en (by simp)), if_pos (own_en (by simp)), if_pos (own_en (fun h => n1 ⟨(List.cons.inj h).1.symm, (List.cons.inj (List.cons.inj h).2).1.symm, (List.cons.inj (List.cons.inj (List.cons.inj h).2).2).1.symm⟩)), if_pos (own_en (fun h => n2 ⟨(List.cons.inj h).1.symm, (List.cons.inj (List.cons.inj h).2).1.symm, (List.cons.inj (List.cons.inj (List.cons.inj h).2).2).1.symm⟩)), if_pos (own_en (fun h => n3 ⟨(List.cons.inj h).1.symm, (List.cons.inj (List.cons.inj h).2).1.symm, (List.cons.inj (List.cons.inj (List.cons.inj h).2).2).1.symm⟩))]
theorem own_ag5 {a b c d f : Int32} (v0 v1 v2 v3 v4 v5 v6 v7 : Value) (n1 : ¬ (a = (99 : Int32) ∧ b = (111 : Int32) ∧ c = (117 : Int32) ∧ d = (110 : Int32) ∧ f = (116 : Int32))) : own_ag ([a, b, c, d, f] : List Int32) v0 v1 v2 v3 v4 v5 v6 v7 = .null := by
  rw [own_ag, if_pos (own_en (fun h => n1 ⟨(List.cons.inj h).1.symm, (List.cons.inj (List.cons.inj h).2).1.symm, (List.cons.inj (List.cons.inj (List.cons.inj h).2).2).1.symm, (List.cons.inj (List.cons.inj (List.cons.inj (List.cons.inj h).2).2).2).1.symm, (List.cons.inj (List.cons.inj (List.cons.inj (List.cons.inj (List.cons.inj h).2).2).2).2).1.symm⟩)), if_pos (own_en (by simp)), if_pos (own_en (by simp)), if_pos (own_en (by simp)), if_pos (own_en (by simp)), if_pos (own_en (by simp)), if_pos (own_en (by simp)), if_pos (own_en (by simp))]
def own_th (a b c : Int32) (x y z : Value) : Value := if a = (109 : Int32) ∧ b = (105 : Int32) ∧ c = (110 : Int32) then x else if a = (109 : Int32) ∧ b = (97 : Int32) ∧ c = (120 : Int32) then y else if a = (97 : Int32) ∧ b = (118 : Int32) ∧ c = (103 : Int32) then z else .null
theorem own_th4 (a b c : Int32) (x y z : Value) : ((a = (109 : Int32) ∧ b = (105 : Int32) ∧ c = (110 : Int32)) ∧ own_th a b c x y z = x) ∨ ((a = (109 : Int32) ∧ b = (97 : Int32) ∧ c = (120 : Int32)) ∧ own_th a b c x y z = y) ∨ ((a = (97 : Int32) ∧ b = (118 : Int32) ∧ c = (103 : Int32)) ∧ own_th a b c x y z = z) ∨ ((¬ (a = (109 : Int32) ∧ b = (105 : Int32) ∧ c = (110 : Int32)) ∧ ¬ (a = (109 : Int32) ∧ b = (97 : Int32) ∧ c = (120 : Int32)) ∧ ¬ (a = (97 : Int32) ∧ b = (118 : Int32) ∧ c = (103 : Int32))) ∧ own_th a b c x y z = .null) := by
  unfold own_th
  by_cases h1 : a = (109 : Int32) ∧ b = (105 : Int32) ∧ c = (110 : Int32)
  · exact Or.inl ⟨h1, if_pos h1⟩
  · by_cases h2 : a = (109 : Int32) ∧ b = (97 : Int32) ∧ c = (120 : Int32)
    · exact Or.inr (Or.inl ⟨h2, by rw [if_neg h1, if_pos h2]⟩)
    · by_cases h3 : a = (97 : Int32) ∧ b = (118 : Int32) ∧ c = (103 : Int32)
      · exact Or.inr (Or.inr (Or.inl ⟨h3, by rw [if_neg h1, if_neg h2, if_pos h3]⟩))
      · exact Or.inr (Or.inr (Or.inr ⟨⟨h1, h2, h3⟩, by rw [if_neg h1, if_neg h2, if_neg h3]⟩))
theorem own_c (x : Int32) : 0 ≤ (x.toUInt32.toUInt16.toUInt32.toInt32).toInt ∧ (x.toUInt32.toUInt16.toUInt32.toInt32).toInt < 65536 ∧ (0 ≤ x.toInt → x.toInt < 65536 → (x.toUInt32.toUInt16.toUInt32.toInt32).toInt = x.toInt) := by
  have := c_i2c x
  omega
theorem own_cc (x : Int32) : ((x.toUInt32.toUInt16.toUInt32.toInt32).toUInt32.toUInt16.toUInt32.toInt32) = (x.toUInt32.toUInt16.toUInt32.toInt32) := by
  have e := own_c x
  exact Int32.toInt_inj.mp ((own_c _).2.2 e.1 e.2.1)
theorem own_b {x : Int32} (h : 0 ≤ x.toInt ∧ x.toInt < 256) : ¬ x < 0 ∧ ¬ (255 : Int32) < x := by
  rw [Int32.lt_iff_toInt_lt, Int32.lt_iff_toInt_lt, show (0 : Int32).toInt = 0 from rfl, show (255 : Int32).toInt = 255 from rfl]
  omega
theorem own_bI (x : Int32) : ¬ ((x &&& (255 : Int32)).toUInt32.toUInt16.toUInt32.toInt32) < 0 ∧ ¬ (255 : Int32) < ((x &&& (255 : Int32)).toUInt32.toUInt16.toUInt32.toInt32) := by
  have e := c_mask x 255 8 (by decide) (by decide)
  have f := own_c (x &&& 255)
  exact own_b (by omega)
theorem own_hpn : ∀ c ∈ ([] : List Int32), ¬ c < 0 ∧ ¬ (255 : Int32) < c := fun _ h => nomatch h
theorem own_hpc {d : Int32} {ds : List Int32} (h : ¬ d < 0 ∧ ¬ (255 : Int32) < d) (hs : ∀ c ∈ ds, ¬ c < 0 ∧ ¬ (255 : Int32) < c) : ∀ c ∈ d :: ds, ¬ c < 0 ∧ ¬ (255 : Int32) < c := fun x hx => by
  rcases List.mem_cons.mp hx with rfl | hx
  · exact h
  · exact hs x hx
theorem own_rem {x y : Int32} (h0 : 0 ≤ x.toInt) (h1 : 0 < y.toInt) : (x - x / y * y).toInt = x.toInt % y.toInt := by
  have hy : y ≠ -1 := fun e => by rw [e] at h1; exact absurd h1 (by decide)
  have d := (c_idiv x y y.toInt rfl hy).1 h0
  have m := c_imul (x / y) y
  have s := c_isub x (x / y * y)
  have r1 := rng32 (x / y * y)
  have r2 := rng32 (x - x / y * y)
  have r3 := rng32 x
  rw [d] at m
  have q := Int.emod_add_mul_ediv x.toInt y.toInt
  have q1 := Int.emod_nonneg x.toInt (Int.ne_of_gt h1)
  have q2 : x.toInt / y.toInt * y.toInt = y.toInt * (x.toInt / y.toInt) := Int.mul_comm _ _
  have q3 : 0 ≤ y.toInt * (x.toInt / y.toInt) := Int.mul_nonneg (Int.le_of_lt h1) (Int.ediv_nonneg h0 (Int.le_of_lt h1))
  rw [q2] at m
  generalize y.toInt * (x.toInt / y.toInt) = t at *
  omega
theorem own_nn (x : Int32) : 0 ≤ ((x.toUInt32 >>> ((2 : Int32) &&& 31).toUInt32).toInt32).toInt := by
  rw [c_iushr x 2 2 rfl (by decide)]
  omega
theorem own_23 {x : Int32} (h0 : 0 ≤ x.toInt) : (x - x / (23 : Int32) * (23 : Int32)) = (0 : Int32) ∨ (x - x / (23 : Int32) * (23 : Int32)) = (1 : Int32) ∨ (x - x / (23 : Int32) * (23 : Int32)) = (2 : Int32) ∨ (x - x / (23 : Int32) * (23 : Int32)) = (3 : Int32) ∨ (x - x / (23 : Int32) * (23 : Int32)) = (4 : Int32) ∨ (x - x / (23 : Int32) * (23 : Int32)) = (5 : Int32) ∨ (x - x / (23 : Int32) * (23 : Int32)) = (6 : Int32) ∨ (x - x / (23 : Int32) * (23 : Int32)) = (7 : Int32) ∨ (x - x / (23 : Int32) * (23 : Int32)) = (8 : Int32) ∨ (x - x / (23 : Int32) * (23 : Int32)) = (9 : Int32) ∨ (x - x / (23 : Int32) * (23 : Int32)) = (10 : Int32) ∨ (x - x / (23 : Int32) * (23 : Int32)) = (11 : Int32) ∨ (x - x / (23 : Int32) * (23 : Int32)) = (12 : Int32) ∨ (x - x / (23 : Int32) * (23 : Int32)) = (13 : Int32) ∨ (x - x / (23 : Int32) * (23 : Int32)) = (14 : Int32) ∨ (x - x / (23 : Int32) * (23 : Int32)) = (15 : Int32) ∨ (x - x / (23 : Int32) * (23 : Int32)) = (16 : Int32) ∨ (x - x / (23 : Int32) * (23 : Int32)) = (17 : Int32) ∨ (x - x / (23 : Int32) * (23 : Int32)) = (18 : Int32) ∨ (x - x / (23 : Int32) * (23 : Int32)) = (19 : Int32) ∨ (x - x / (23 : Int32) * (23 : Int32)) = (20 : Int32) ∨ (x - x / (23 : Int32) * (23 : Int32)) = (21 : Int32) ∨ (x - x / (23 : Int32) * (23 : Int32)) = (22 : Int32) := by
  have r := own_rem (x := x) (y := (23 : Int32)) h0 (by decide)
  rw [show (23 : Int32).toInt = 23 from rfl] at r
  simp only [← Int32.toInt_inj, r, show (0 : Int32).toInt = 0 from rfl, show (1 : Int32).toInt = 1 from rfl, show (2 : Int32).toInt = 2 from rfl, show (3 : Int32).toInt = 3 from rfl, show (4 : Int32).toInt = 4 from rfl, show (5 : Int32).toInt = 5 from rfl, show (6 : Int32).toInt = 6 from rfl, show (7 : Int32).toInt = 7 from rfl, show (8 : Int32).toInt = 8 from rfl, show (9 : Int32).toInt = 9 from rfl, show (10 : Int32).toInt = 10 from rfl, show (11 : Int32).toInt = 11 from rfl, show (12 : Int32).toInt = 12 from rfl, show (13 : Int32).toInt = 13 from rfl, show (14 : Int32).toInt = 14 from rfl, show (15 : Int32).toInt = 15 from rfl, show (16 : Int32).toInt = 16 from rfl, show (17 : Int32).toInt = 17 from rfl, show (18 : Int32).toInt = 18 from rfl, show (19 : Int32).toInt = 19 from rfl, show (20 : Int32).toInt = 20 from rfl, show (21 : Int32).toInt = 21 from rfl, show (22 : Int32).toInt = 22 from rfl]
  omega
def own_SF (Z : State) (h : Heap) (ws : List Addr) (a : Addr) (n : Int32) (vs : List Value) : Prop := ∃ b kb, Exa Z h a "java/lang/String" ∧ Fld Z h a "java/lang/String" "coder" "B" (.int (0 : Int32)) ∧ Fld Z h a "java/lang/String" "value" "[B" (.ref b) ∧ Arv Z h b kb .byte n vs (.int (0 : Int32)) ∧ a ∉ ws ∧ b ∉ ws
def own_SL (Z : State) (h : Heap) (ws : List Addr) (ps : List (Addr × Int32 × List Value)) : Prop := ∀ p ∈ ps, own_SF Z h ws p.1 p.2.1 p.2.2
theorem own_SL.nil (Z : State) (h : Heap) (ws : List Addr) : own_SL Z h ws [] := fun _ h => nomatch h
theorem own_SL.cons {Z : State} {h : Heap} {ws : List Addr} {ps : List (Addr × Int32 × List Value)} {a b : Addr} {kb : ClassId} {n : Int32} {vs : List Value} (S : own_SL Z h ws ps) (e : Exa Z h a "java/lang/String") (f : Fld Z h a "java/lang/String" "coder" "B" (.int (0 : Int32))) (g : Fld Z h a "java/lang/String" "value" "[B" (.ref b)) (A : Arv Z h b kb .byte n vs (.int (0 : Int32))) (n1 : a ∉ ws) (n2 : b ∉ ws) : own_SL Z h ws ((a, n, vs) :: ps) := fun p hp => by
  rcases List.mem_cons.mp hp with rfl | hp
  · exact ⟨b, kb, e, f, g, A, n1, n2⟩
  · exact S p hp
theorem own_SL.ext {Z : State} {h h' : Heap} {ws : List Addr} {ps : List (Addr × Int32 × List Value)} (S : own_SL Z h ws ps) (E : Ext h h') : own_SL Z h' ws ps := fun p hp => by
  obtain ⟨b, kb, e, f, g, A, n1, n2⟩ := S p hp
  exact ⟨b, kb, e.ext E, f.ext E, g.ext E, A.ext E, n1, n2⟩
theorem own_SL.wr {Z : State} {h h' : Heap} {ws : List Addr} {ps : List (Addr × Int32 × List Value)} {o : Addr} {sl : Nat} {v : Value} (S : own_SL Z h ws ps) (W : Wr h h' o sl v) (ho : o ∈ ws) : own_SL Z h' ws ps := fun p hp => by
  obtain ⟨b, kb, e, f, g, A, n1, n2⟩ := S p hp
  have m1 : p.1 ≠ o := fun q => n1 (by rw [q]; exact ho)
  have m2 : b ≠ o := fun q => n2 (by rw [q]; exact ho)
  exact ⟨b, kb, e.wr W, f.other W (Or.inl m1), g.other W (Or.inl m1), A.other W m2, n1, n2⟩
theorem own_SL.add {Z : State} {h : Heap} {ws : List Addr} {ps : List (Addr × Int32 × List Value)} (S : own_SL Z h ws ps) {x : Addr} (hx : h.size ≤ x) : own_SL Z h (x :: ws) ps := fun p hp => by
  obtain ⟨b, kb, e, f, g, A, n1, n2⟩ := S p hp
  have l1 := e.lt
  have l2 := A.lt
  exact ⟨b, kb, e, f, g, A, fun q => by rcases List.mem_cons.mp q with q | q; exact absurd l1 (by rw [q]; exact Nat.not_lt.mpr hx); exact n1 q, fun q => by rcases List.mem_cons.mp q with q | q; exact absurd l2 (by rw [q]; exact Nat.not_lt.mpr hx); exact n2 q⟩
theorem d2_0 : decode prog_1_method_1_code 0 = .ok (.getstatic 28, 3) := by decide +kernel
theorem d2_3 : decode prog_1_method_1_code 3 = .ok (.invokevirtual 32, 3) := by decide +kernel
theorem d2_6 : decode prog_1_method_1_code 6 = .ok (.checkcast 33, 3) := by decide +kernel
theorem d2_9 : decode prog_1_method_1_code 9 = .ok (.areturn, 1) := by decide +kernel
theorem pn_com_example_querent_querent_translation_Aggregation : plainName "com/example/querent/querent/translation/Aggregation" = true := by first | (simp [plainName, overriddenIn]; done) | decide +kernel
theorem ef_2 (m : MethodId) : entryFrame m #[] 0 = mkF m 0 #[] [] := by first | (simp [entryFrame, mkF, argsToLocals, Value.category]; done) | rfl
def Q2 (Z : State) (kv : ClassId) (s_VALUES : Addr) (s_COUNT : Addr) (s_SUM_INTEGER : Addr) (s_SUM_LONG : Addr) (s_SUM_DOUBLE : Addr) (s_SUM_BIG_DECIMAL : Addr) (s_MIN : Addr) (s_MAX : Addr) (s_AVG : Addr) (h0 : Heap) (n0 : Nat) (v : Option Value) (h : Heap) (L : List Loc) : Prop := ∃ z : Addr, v = some (.ref z) ∧ Fr n0 L ∧ Keep h0 h [] ∧ Arv Z h z kv (.object "com/example/querent/querent/translation/Aggregation") (8 : Int32) [(.ref s_COUNT), (.ref s_SUM_INTEGER), (.ref s_SUM_LONG), (.ref s_SUM_DOUBLE), (.ref s_SUM_BIG_DECIMAL), (.ref s_MIN), (.ref s_MAX), (.ref s_AVG)] .null ∧ h0.size ≤ z ∧ n0 ≤ z
set_option maxRecDepth 65536 in
set_option maxHeartbeats 40000000 in
theorem rm2 (l : Launch) (Z : State) (a0 : Array Value) (hw : ∀ d ∈ tables_1, d.before a0 Z = true) (ws : List Jvm.Cond) (kv : ClassId) (s_VALUES : Addr) (s_COUNT : Addr) (s_SUM_INTEGER : Addr) (s_SUM_LONG : Addr) (s_SUM_DOUBLE : Addr) (s_SUM_BIG_DECIMAL : Addr) (s_MIN : Addr) (s_MAX : Addr) (s_AVG : Addr) (h0 : Heap) (n0 : Nat) (O0 : Old Z n0 h0) (S_s_VALUES : Sta Z Z.heap "com/example/querent/querent/translation/Aggregation" "$VALUES" "[Lcom/example/querent/querent/translation/Aggregation;" (.ref s_VALUES)) (S_s_COUNT : Sta Z Z.heap "com/example/querent/querent/translation/Aggregation" "COUNT" "Lcom/example/querent/querent/translation/Aggregation;" (.ref s_COUNT)) (S_s_SUM_INTEGER : Sta Z Z.heap "com/example/querent/querent/translation/Aggregation" "SUM_INTEGER" "Lcom/example/querent/querent/translation/Aggregation;" (.ref s_SUM_INTEGER)) (S_s_SUM_LONG : Sta Z Z.heap "com/example/querent/querent/translation/Aggregation" "SUM_LONG" "Lcom/example/querent/querent/translation/Aggregation;" (.ref s_SUM_LONG)) (S_s_SUM_DOUBLE : Sta Z Z.heap "com/example/querent/querent/translation/Aggregation" "SUM_DOUBLE" "Lcom/example/querent/querent/translation/Aggregation;" (.ref s_SUM_DOUBLE)) (S_s_SUM_BIG_DECIMAL : Sta Z Z.heap "com/example/querent/querent/translation/Aggregation" "SUM_BIG_DECIMAL" "Lcom/example/querent/querent/translation/Aggregation;" (.ref s_SUM_BIG_DECIMAL)) (S_s_MIN : Sta Z Z.heap "com/example/querent/querent/translation/Aggregation" "MIN" "Lcom/example/querent/querent/translation/Aggregation;" (.ref s_MIN)) (S_s_MAX : Sta Z Z.heap "com/example/querent/querent/translation/Aggregation" "MAX" "Lcom/example/querent/querent/translation/Aggregation;" (.ref s_MAX)) (S_s_AVG : Sta Z Z.heap "com/example/querent/querent/translation/Aggregation" "AVG" "Lcom/example/querent/querent/translation/Aggregation;" (.ref s_AVG)) (V_s_VALUES : Arv Z h0 s_VALUES kv (.object "com/example/querent/querent/translation/Aggregation") (8 : Int32) [(.ref s_COUNT), (.ref s_SUM_INTEGER), (.ref s_SUM_LONG), (.ref s_SUM_DOUBLE), (.ref s_SUM_BIG_DECIMAL), (.ref s_MIN), (.ref s_MAX), (.ref s_AVG)] .null) (E_s_VALUES : Exa Z h0 s_VALUES "[Lcom/example/querent/querent/translation/Aggregation;") :
    MetFree l (⟨"com/example/querent/querent/translation/Aggregation", "values", "()[Lcom/example/querent/querent/translation/Aggregation;"⟩ : MethodName) (head1 (Jvm.Cond.code (⟨"com/example/querent/querent/translation/Aggregation", "values", "()[Lcom/example/querent/querent/translation/Aggregation;"⟩ : MethodName) prog_1_method_1_code 0 (some (.array (.object "com/example/querent/querent/translation/Aggregation"))) :: ws) ({ frames := 1, cells := 1, slots := 8, locals := 14 } : Room)) (fun aA uU => aA = #[] ∧ Z.Warmed39 uU.vm ∧ uU.heap = h0) (fun _ _ _ _ _ => True) (fun _ uU oO uU' => ∃ vV lL, oO = .returned vV ∧ Q2 Z kv s_VALUES s_COUNT s_SUM_INTEGER s_SUM_LONG s_SUM_DOUBLE s_SUM_BIG_DECIMAL s_MIN s_MAX s_AVG h0 n0 vV uU'.heap lL ∧ FrameEnd uU oO uU' lL ({ frames := 1, cells := 1, slots := 8, locals := 14 } : Room).cells ({ frames := 1, cells := 1, slots := 8, locals := 14 } : Room).slots) := by
  refine MetFree.of_bodySF (plainFor_of_name pn_com_example_querent_querent_translation_Aggregation) hisR ?_
  intro p e s m args below meth c s₁ Bd hml0 hP hK
  obtain ⟨rfl, hZ, hh⟩ := hP
  have hx := Bd.exec
  have hby := Bd.bytes
  have hml : c.maxLocals = 0 := hml0
  have hown : s.vm.findClass "com/example/querent/querent/translation/Aggregation" = some m.cls := findClass_of_methodNamed Bd.named
  have hnm := (name_of_methodNamed Bd.named Bd.method).1
  have X0 : Stand p l e ({ frames := 1, cells := 1, slots := 8, locals := 14 } : Room) s m #[] below meth c s₁ [] 0 0 := Stand.of_body Bd
  have e0 : s₁.heap = h0 := by rw [← hh, Bd.state]; rfl
  have N0 := Fr.nil n0
  have O := O0
  have K := Keep.refl h0 []
  have pre0 : ∀ t, Steps p.tables e below (s₁.setTop (mkF m 0 #[] [])) t → Steps p.tables e below (s₁.setTop (entryFrame m #[] 0)) t := fun t k => castTop (ef_2 m ) k
  obtain ⟨T1, X1, e1, st1⟩ := getS2 X0 hx hZ hown (host := "") (Or.inl (hw _ (List.mem_of_getElem? (i := 58) rfl))) Via.refl e0 (S_s_VALUES.ext O.2) (g := (mkF m 0 #[] [])) rfl (hb hby d2_0)
  obtain ⟨T2, h2, X2, e2, E2, V_b2, A2, st2⟩ := cloneH X1 hx hZ hown (hw _ (List.mem_of_getElem? (i := 60) rfl)) (hw _ (List.mem_of_getElem? (i := 61) rfl)) (hw _ (List.mem_of_getElem? (i := 65) rfl)) (hw _ (List.mem_of_getElem? (i := 63) rfl)) (hw _ (List.mem_of_getElem? (i := 64) rfl)) (hw _ (List.mem_of_getElem? (i := 66) rfl)) e1 V_s_VALUES.arh E_s_VALUES (g := (mkF m 3 #[] [(.ref s_VALUES)])) rfl (by rw [hml]; rfl) rfl (hb hby d2_3) (by decide) (W := 0) (cap := 8) (by show 2 * 0 + _ ≤ _; exact Nat.le_of_eq rfl) (by decide) (by decide) (by decide) (by decide)
  obtain ⟨b2, gq2⟩ : ∃ z, z = Array.size h0 := ⟨_, rfl⟩
  rw [← gq2] at A2 V_b2 st2
  have ne_s_VALUES_b2 : s_VALUES ≠ b2 := Nat.ne_of_lt (Nat.lt_of_lt_of_le V_s_VALUES.lt (Nat.le_of_eq gq2.symm))
  have g_b2 : n0 ≤ b2 := Nat.le_trans (O.1 ▸ O.2.1) (Nat.le_of_eq gq2.symm)
  have z_b2 : h0.size ≤ b2 := Nat.le_trans K.1 (Nat.le_of_eq gq2.symm)
  have V_s_VALUES := V_s_VALUES.ext E2
  have E_s_VALUES := E_s_VALUES.ext E2
  have O := O.ext E2
  have K := K.ext E2
  have V_b2 : Arv Z h2 b2 kv (.object "com/example/querent/querent/translation/Aggregation") (8 : Int32) [(.ref s_COUNT), (.ref s_SUM_INTEGER), (.ref s_SUM_LONG), (.ref s_SUM_DOUBLE), (.ref s_SUM_BIG_DECIMAL), (.ref s_MIN), (.ref s_MAX), (.ref s_AVG)] .null := V_b2
  obtain ⟨T3, X3, e3, st3⟩ := castY X2 hx hZ hown (hw _ (List.mem_of_getElem? (i := 68) rfl)) e2 (Ins.self A2) (g := (mkF m 6 #[] [(.ref b2)])) rfl rfl (hb hby d2_6)
  have w4 : ∀ t, Steps p.tables e below (T3.setTop (mkF m 9 #[] [(.ref b2)])) t → Steps p.tables e below (s₁.setTop (entryFrame m #[] 0)) t := fun t k => by
    refine pre0 t ?_
    refine st1 _ ?_
    show Steps p.tables e below (T1.setTop (mkF m 3 #[] [(.ref s_VALUES)])) _
    refine st2 _ ?_
    show Steps p.tables e below (T2.setTop (mkF m 6 #[] [(.ref b2)])) _
    refine st3 _ ?_
    show Steps p.tables e below (T3.setTop (mkF m 9 #[] [(.ref b2)])) _
    exact k
  obtain ⟨fs, hr, hrun, hended, hW, hsame⟩ := X3.leave (v := some (.ref b2)) (fun h => by rw [Bd.returns] at h; cases h)
  refine ⟨_, _, w4 _ ?_, hrun, hended, _, _, rfl, ?_, ⟨_, rfl⟩, hW, hsame.mono (by decide) (by decide)⟩
  · jvm_step X3.here [X3.here.top, hx, (hb hby d2_9), X3.method', Bd.returns, Value.isRef, FieldType.isReference]
    first | (intro acts; rw [hr _ acts rfl rfl rfl]) | rw [hr _ _ rfl rfl rfl]
    exact Steps.refl _
  · show Q2 Z kv s_VALUES s_COUNT s_SUM_INTEGER s_SUM_LONG s_SUM_DOUBLE s_SUM_BIG_DECIMAL s_MIN s_MAX s_AVG h0 n0 _ T3.heap _
    rw [e3]
    exact ⟨b2, rfl, N0, K, V_b2, z_b2, g_b2⟩
theorem d4_0 : decode jdk_37_method_2_code 0 = .ok (.aload_n 0, 1) := by decide +kernel
theorem d4_1 : decode jdk_37_method_2_code 1 = .ok (.getfield 7, 3) := by decide +kernel
theorem d4_4 : decode jdk_37_method_2_code 4 = .ok (.ireturn, 1) := by decide +kernel
theorem pn_java_lang_Enum : plainName "java/lang/Enum" = true := by first | (simp [plainName, overriddenIn]; done) | decide +kernel
theorem ef_4 (m : MethodId) (x0 : Addr) : entryFrame m #[(.ref x0)] 1 = mkF m 0 #[.val (.ref x0)] [] := by first | (simp [entryFrame, mkF, argsToLocals, Value.category]; done) | rfl
def Q4 (Z : State) (a : Addr) (i : Int32) (h0 : Heap) (n0 : Nat) (v : Option Value) (h : Heap) (L : List Loc) : Prop := v = some (.int i) ∧ Fr n0 L ∧ h = h0
set_option maxRecDepth 65536 in
set_option maxHeartbeats 40000000 in
theorem rm4 (l : Launch) (Z : State) (a0 : Array Value) (hw : ∀ d ∈ tables_1, d.before a0 Z = true) (ws : List Jvm.Cond) (a : Addr) (i : Int32) (h0 : Heap) (n0 : Nat) (O0 : Old Z n0 h0) (F_ordinal_a : Fld Z h0 a "java/lang/Enum" "ordinal" "I" (.int i)) :
    MetFree l (⟨"java/lang/Enum", "ordinal", "()I"⟩ : MethodName) (head1 (Jvm.Cond.code (⟨"java/lang/Enum", "ordinal", "()I"⟩ : MethodName) jdk_37_method_2_code 1 (some .int) :: ws) ({ frames := 0, cells := 0, slots := 0, locals := 0 } : Room)) (fun aA uU => aA = #[(.ref a)] ∧ Z.Warmed39 uU.vm ∧ uU.heap = h0) (fun _ _ _ _ _ => True) (fun _ uU oO uU' => ∃ vV lL, oO = .returned vV ∧ Q4 Z a i  h0 n0 vV uU'.heap lL ∧ FrameEnd uU oO uU' lL ({ frames := 0, cells := 0, slots := 0, locals := 0 } : Room).cells ({ frames := 0, cells := 0, slots := 0, locals := 0 } : Room).slots) := by
  refine MetFree.of_bodySF (plainFor_of_name pn_java_lang_Enum) hisR ?_
  intro p e s m args below meth c s₁ Bd hml0 hP hK
  obtain ⟨rfl, hZ, hh⟩ := hP
  have hx := Bd.exec
  have hby := Bd.bytes
  have hml : c.maxLocals = 1 := hml0
  have hown : s.vm.findClass "java/lang/Enum" = some m.cls := findClass_of_methodNamed Bd.named
  have hnm := (name_of_methodNamed Bd.named Bd.method).1
  have X0 : Stand p l e ({ frames := 0, cells := 0, slots := 0, locals := 0 } : Room) s m #[(.ref a)] below meth c s₁ [] 0 0 := Stand.of_body Bd
  have e0 : s₁.heap = h0 := by rw [← hh, Bd.state]; rfl
  have N0 := Fr.nil n0
  have O := O0
  have pre0 : ∀ t, Steps p.tables e below (s₁.setTop (mkF m 0 #[.val (.ref a)] [])) t → Steps p.tables e below (s₁.setTop (entryFrame m #[(.ref a)] 1)) t := fun t k => castTop (ef_4 m a) k
  obtain ⟨T1, X1, e1, st1⟩ := getF X0 hx hZ hown (host := "") (Or.inl (hw _ (List.mem_of_getElem? (i := 82) rfl))) Via.refl e0 F_ordinal_a (g := (mkF m 1 #[.val (.ref a)] [(.ref a)])) rfl rfl (hb hby d4_1)
  have w2 : ∀ t, Steps p.tables e below (T1.setTop (mkF m 4 #[.val (.ref a)] [(.int i)])) t → Steps p.tables e below (s₁.setTop (entryFrame m #[(.ref a)] 1)) t := fun t k => by
    refine pre0 t ?_
    refine XS.aloadN X0.here hx rfl (hb hby d4_0) rfl rfl ?_
    show Steps p.tables e below (s₁.setTop (mkF m 1 #[.val (.ref a)] [(.ref a)])) _
    refine st1 _ ?_
    show Steps p.tables e below (T1.setTop (mkF m 4 #[.val (.ref a)] [(.int i)])) _
    exact k
  obtain ⟨fs, hr, hrun, hended, hW, hsame⟩ := X1.leave (v := some (.int i)) (fun h => by rw [Bd.returns] at h; cases h)
  refine ⟨_, _, w2 _ ?_, hrun, hended, _, _, rfl, ?_, ⟨_, rfl⟩, hW, hsame.mono (by decide) (by decide)⟩
  · exact retI X1 hx Bd.returns (hb hby d4_4) hr
  · show Q4 Z a i  h0 n0 _ T1.heap _
    rw [e1]
    exact ⟨rfl, N0, rfl⟩
theorem d3_0 : decode prog_1_method_5_code 0 = .ok (.aload_n 0, 1) := by decide +kernel
theorem d3_1 : decode prog_1_method_5_code 1 = .ok (.invokevirtual 71, 3) := by decide +kernel
theorem pd__40_41I : parseMethodDescriptor "()I" = some ⟨[], some .int⟩ := by decide +kernel
theorem d3_4 : decode prog_1_method_5_code 4 = .ok (.tableswitch 48 0 7 #[58, 63, 68, 73, 78, 83, 88, 93], 48) := by decide +kernel
theorem d3_62 : decode prog_1_method_5_code 62 = .ok (.ldc 80, 2) := by decide +kernel
theorem d3_64 : decode prog_1_method_5_code 64 = .ok (.goto 35, 3) := by decide +kernel
theorem d3_99 : decode prog_1_method_5_code 99 = .ok (.areturn, 1) := by decide +kernel
theorem ef_3_0 (m : MethodId) (x0 : Addr) : entryFrame m #[(.ref x0)] 1 = mkF m 0 #[.val (.ref x0)] [] := by first | (simp [entryFrame, mkF, argsToLocals, Value.category]; done) | rfl
def Q3_0 (Z : State) (a : Addr) (h0 : Heap) (n0 : Nat) (v : Option Value) (h : Heap) (L : List Loc) : Prop := ∃ z : Addr, ∃ t1 : Addr, ∃ kb : ClassId, v = some (.ref z) ∧ Fr n0 L ∧ Keep h0 h [] ∧ Exa Z h z "java/lang/String" ∧ Fld Z h z "java/lang/String" "coder" "B" (.int (0 : Int32)) ∧ Fld Z h z "java/lang/String" "value" "[B" (.ref t1) ∧ Arv Z h t1 kb .byte (5 : Int32) [(.int (99 : Int32)), (.int (111 : Int32)), (.int (117 : Int32)), (.int (110 : Int32)), (.int (116 : Int32))] (.int (0 : Int32))
set_option maxRecDepth 65536 in
set_option maxHeartbeats 40000000 in
theorem rm3_0 (l : Launch) (Z : State) (a0 : Array Value) (hw : ∀ d ∈ tables_1, d.before a0 Z = true) (ws : List Jvm.Cond) (a : Addr) (h0 : Heap) (n0 : Nat) (O0 : Old Z n0 h0) (E_a : Exa Z h0 a "com/example/querent/querent/translation/Aggregation") (F_ordinal_a : Fld Z h0 a "java/lang/Enum" "ordinal" "I" (.int (0 : Int32))) :
    MetFree l (⟨"com/example/querent/querent/translation/Aggregation", "operation", "()Ljava/lang/String;"⟩ : MethodName) (head1 (Jvm.Cond.code (⟨"com/example/querent/querent/translation/Aggregation", "operation", "()Ljava/lang/String;"⟩ : MethodName) prog_1_method_5_code 1 (some (.object "java/lang/String")) :: ws) ({ frames := 1, cells := 2, slots := 24, locals := 12 } : Room)) (fun aA uU => aA = #[(.ref a)] ∧ Z.Warmed39 uU.vm ∧ uU.heap = h0 ∧ CHv Z consts_1 uU.vm h0) (fun _ _ _ _ _ => True) (fun _ uU oO uU' => ∃ vV lL, oO = .returned vV ∧ Q3_0 Z a  h0 n0 vV uU'.heap lL ∧ CHr Z consts_1 uU.vm uU.heap uU'.vm uU'.heap ∧ ReturnedEndW uU oO uU' lL ({ frames := 1, cells := 2, slots := 24, locals := 12 } : Room).cells ({ frames := 1, cells := 2, slots := 24, locals := 12 } : Room).slots) := by
  refine MetFree.of_bodySF (plainFor_of_name pn_com_example_querent_querent_translation_Aggregation) hisR ?_
  intro p e s m args below meth c s₁ Bd hml0 hP hK
  obtain ⟨rfl, hZ, hh, H0⟩ := hP
  have hx := Bd.exec
  have hby := Bd.bytes
  have hml : c.maxLocals = 1 := hml0
  have hown : s.vm.findClass "com/example/querent/querent/translation/Aggregation" = some m.cls := findClass_of_methodNamed Bd.named
  have hnm := (name_of_methodNamed Bd.named Bd.method).1
  have X0 : Stand p l e ({ frames := 1, cells := 2, slots := 24, locals := 12 } : Room) (s.setVm s.vm) m #[(.ref a)] below meth c s₁ [] 0 0 := Stand.of_body Bd
  have e0 : s₁.heap = h0 := by rw [← hh, Bd.state]; rfl
  have N0 := Fr.nil n0
  have O := O0
  have K := Keep.refl h0 []
  have hS : s.Since s.vm h0.size := own_since s _
  have hk : h0.size ≤ h0.size := Nat.le_refl _
  have C : CHr Z consts_1 s.vm h0 s.vm h0 := CHr.refl H0
  have hEL := own_EW hw
  have hSA := own_wS hw
  have pre0 : ∀ t, Steps p.tables e below (s₁.setTop (mkF m 0 #[.val (.ref a)] [])) t → Steps p.tables e below (s₁.setTop (entryFrame m #[(.ref a)] 1)) t := fun t k => castTop (ef_3_0 m a) k
  obtain ⟨cq1, kq1, q1a, q1b, q1c⟩ := isOf hZ e0 E_a
  obtain ⟨_, _, ⟨T1, L1, k1, n1⟩, -, X1, ⟨Lc1, hQ1, l1, y1, z1⟩, st1⟩ := X0.virtualBackUp hx (x := (⟨"com/example/querent/querent/translation/Aggregation", "ordinal", "()I"⟩ : MethodName)) (y := (⟨"java/lang/Enum", "ordinal", "()I"⟩ : MethodName)) (owner := "java/lang/Enum") hown (mvT hZ (hw _ (List.mem_of_getElem? (i := 75) rfl))) (mvT hZ (hw _ (List.mem_of_getElem? (i := 76) rfl))) (mvT hZ (hw _ (List.mem_of_getElem? (i := 77) rfl))) (by decide) (mvT hZ (hw _ (List.mem_of_getElem? (i := 79) rfl))) (mvT hZ (hw _ (List.mem_of_getElem? (i := 78) rfl))) (backOf (W := 0) (rm4 l Z a0 hw [] a (0 : Int32) h0 n0 O F_ordinal_a) hZ (hw _ (List.mem_of_getElem? (i := 81) rfl)) (hw _ (List.mem_of_getElem? (i := 80) rfl)) (by decide) (by decide)) q1a q1c (g := (mkF m 1 #[.val (.ref a)] [(.ref a)])) rfl (by rw [hml]; rfl) (Steps.refl _) (argsL := []) (rest := []) (lenOf pd__40_41I rfl) rfl (by show 2 * 0 + _ ≤ _; exact Nat.le_of_eq rfl) (hb hby d3_1) (fun _ _ => ⟨rfl, e0, (by decide : 0 + 0 ≤ _), (by decide : 0 + 0 ≤ _)⟩)
  dsimp only [Pt.U, Pt.locs, Pt.cells, Pt.slots] at X1 l1 y1 z1 st1 hQ1
  have X1 := own_un X1 l1 y1 z1
  obtain ⟨rfl, N1q, eh1⟩ := hQ1
  have N1 := Fr.app N0 N1q
  obtain ⟨a2, T2, h2, kk2, b2, kb2, X2, e2, E2, hS, hk', hZ, hown, Ex2, Fc2, Fv2, Av2, -, -, R2, -, Sf2, st2⟩ := ldcCH X1 hx hZ hown (hw _ (List.mem_of_getElem? (i := 84) rfl)) hSA eh1 hS hk hEL (List.mem_of_getElem? (i := 0) rfl) C.1 (vs := [(.int (99 : Int32)), (.int (111 : Int32)), (.int (117 : Int32)), (.int (110 : Int32)), (.int (116 : Int32))]) (z := (5 : Int32)) ⟨by decide +kernel, by decide +kernel⟩ (by decide) rfl (g := (mkF m 62 #[.val (.ref a)] [])) rfl (hb hby d3_62) (n := 20) (by decide +kernel) (by decide) (by decide) (by decide)
  have R := R2
  have C := C.trans R
  have hk := hk'
  have E_a := E_a.ext E2
  have F_ordinal_a := F_ordinal_a.ext E2
  have O := O.ext E2
  have K := K.ext E2
  have w3 : ∀ t, Steps p.tables e below (T2.setTop (mkF m 99 #[.val (.ref a)] [(.ref a2)])) t → Steps p.tables e below (s₁.setTop (entryFrame m #[(.ref a)] 1)) t := fun t k => by
    refine pre0 t ?_
    refine XS.aloadN X0.here hx rfl (hb hby d3_0) rfl rfl ?_
    show Steps p.tables e below (s₁.setTop (mkF m 1 #[.val (.ref a)] [(.ref a)])) _
    refine st1.trans ?_
    show Steps p.tables e below (T1.setTop (mkF m 4 #[.val (.ref a)] [(.int (0 : Int32))])) _
    refine XS.tswIn X1.here hx rfl (o := 58) (pc0 := 4) (pc' := 62) rfl (hb hby d3_4) rfl (by decide) rfl (by decide) (by decide) ?_
    show Steps p.tables e below (T1.setTop (mkF m 62 #[.val (.ref a)] [])) _
    refine st2 _ ?_
    show Steps p.tables e below (T2.setTop (mkF m 64 #[.val (.ref a)] [(.ref a2)])) _
    refine XS.goto X2.here hx rfl (pc0 := 64) (pc' := 99) rfl (hb hby d3_64) (by decide) (by decide) ?_
    show Steps p.tables e below (T2.setTop (mkF m 99 #[.val (.ref a)] [(.ref a2)])) _
    exact k
  obtain ⟨fs, hr, hrun, hended, hE⟩ := Stand.leaveW (s := s) (vm₁ := T2.vm) X2 hS (by rw [e2]; exact hk) (v := some (.ref a2)) (fun h => by rw [Bd.returns] at h; cases h)
  refine ⟨_, _, w3 _ ?_, hrun, hended, _, _, rfl, ?_, ?_, own_mono hE (by decide) (by decide)⟩
  · jvm_step X2.here [X2.here.top, hx, (hb hby d3_99), X2.method', Bd.returns, Value.isRef, FieldType.isReference]
    first | (intro acts; rw [hr _ acts rfl rfl rfl]) | rw [hr _ _ rfl rfl rfl]
    exact Steps.refl _
  · show Q3_0 Z a  h0 n0 _ T2.heap _
    rw [e2]
    exact ⟨a2, b2, kb2, rfl, N1, K, Ex2, Fc2, Fv2, Av2⟩
  · rw [hh]; show CHr Z consts_1 s.vm h0 T2.vm T2.heap; rw [e2]; exact C.trans (CHv.at X2 hZ hEL C.1)
theorem d3_67 : decode prog_1_method_5_code 67 = .ok (.ldc 82, 2) := by decide +kernel
theorem d3_69 : decode prog_1_method_5_code 69 = .ok (.goto 30, 3) := by decide +kernel
theorem ef_3_1 (m : MethodId) (x0 : Addr) : entryFrame m #[(.ref x0)] 1 = mkF m 0 #[.val (.ref x0)] [] := by first | (simp [entryFrame, mkF, argsToLocals, Value.category]; done) | rfl
def Q3_1 (Z : State) (a : Addr) (h0 : Heap) (n0 : Nat) (v : Option Value) (h : Heap) (L : List Loc) : Prop := ∃ z : Addr, ∃ t1 : Addr, ∃ kb : ClassId, v = some (.ref z) ∧ Fr n0 L ∧ Keep h0 h [] ∧ Exa Z h z "java/lang/String" ∧ Fld Z h z "java/lang/String" "coder" "B" (.int (0 : Int32)) ∧ Fld Z h z "java/lang/String" "value" "[B" (.ref t1) ∧ Arv Z h t1 kb .byte (10 : Int32) [(.int (115 : Int32)), (.int (117 : Int32)), (.int (109 : Int32)), (.int (73 : Int32)), (.int (110 : Int32)), (.int (116 : Int32)), (.int (101 : Int32)), (.int (103 : Int32)), (.int (101 : Int32)), (.int (114 : Int32))] (.int (0 : Int32))
set_option maxRecDepth 65536 in
set_option maxHeartbeats 40000000 in
theorem rm3_1 (l : Launch) (Z : State) (a0 : Array Value) (hw : ∀ d ∈ tables_1, d.before a0 Z = true) (ws : List Jvm.Cond) (a : Addr) (h0 : Heap) (n0 : Nat) (O0 : Old Z n0 h0) (E_a : Exa Z h0 a "com/example/querent/querent/translation/Aggregation") (F_ordinal_a : Fld Z h0 a "java/lang/Enum" "ordinal" "I" (.int (1 : Int32))) :
    MetFree l (⟨"com/example/querent/querent/translation/Aggregation", "operation", "()Ljava/lang/String;"⟩ : MethodName) (head1 (Jvm.Cond.code (⟨"com/example/querent/querent/translation/Aggregation", "operation", "()Ljava/lang/String;"⟩ : MethodName) prog_1_method_5_code 1 (some (.object "java/lang/String")) :: ws) ({ frames := 1, cells := 2, slots := 44, locals := 12 } : Room)) (fun aA uU => aA = #[(.ref a)] ∧ Z.Warmed39 uU.vm ∧ uU.heap = h0 ∧ CHv Z consts_1 uU.vm h0) (fun _ _ _ _ _ => True) (fun _ uU oO uU' => ∃ vV lL, oO = .returned vV ∧ Q3_1 Z a  h0 n0 vV uU'.heap lL ∧ CHr Z consts_1 uU.vm uU.heap uU'.vm uU'.heap ∧ ReturnedEndW uU oO uU' lL ({ frames := 1, cells := 2, slots := 44, locals := 12 } : Room).cells ({ frames := 1, cells := 2, slots := 44, locals := 12 } : Room).slots) := by
  refine MetFree.of_bodySF (plainFor_of_name pn_com_example_querent_querent_translation_Aggregation) hisR ?_
  intro p e s m args below meth c s₁ Bd hml0 hP hK
  obtain ⟨rfl, hZ, hh, H0⟩ := hP
  have hx := Bd.exec
  have hby := Bd.bytes
  have hml : c.maxLocals = 1 := hml0
  have hown : s.vm.findClass "com/example/querent/querent/translation/Aggregation" = some m.cls := findClass_of_methodNamed Bd.named
  have hnm := (name_of_methodNamed Bd.named Bd.method).1
  have X0 : Stand p l e ({ frames := 1, cells := 2, slots := 44, locals := 12 } : Room) (s.setVm s.vm) m #[(.ref a)] below meth c s₁ [] 0 0 := Stand.of_body Bd
  have e0 : s₁.heap = h0 := by rw [← hh, Bd.state]; rfl
  have N0 := Fr.nil n0
  have O := O0
  have K := Keep.refl h0 []
  have hS : s.Since s.vm h0.size := own_since s _
  have hk : h0.size ≤ h0.size := Nat.le_refl _
  have C : CHr Z consts_1 s.vm h0 s.vm h0 := CHr.refl H0
  have hEL := own_EW hw
  have hSA := own_wS hw
  have pre0 : ∀ t, Steps p.tables e below (s₁.setTop (mkF m 0 #[.val (.ref a)] [])) t → Steps p.tables e below (s₁.setTop (entryFrame m #[(.ref a)] 1)) t := fun t k => castTop (ef_3_1 m a) k
  obtain ⟨cq1, kq1, q1a, q1b, q1c⟩ := isOf hZ e0 E_a
  obtain ⟨_, _, ⟨T1, L1, k1, n1⟩, -, X1, ⟨Lc1, hQ1, l1, y1, z1⟩, st1⟩ := X0.virtualBackUp hx (x := (⟨"com/example/querent/querent/translation/Aggregation", "ordinal", "()I"⟩ : MethodName)) (y := (⟨"java/lang/Enum", "ordinal", "()I"⟩ : MethodName)) (owner := "java/lang/Enum") hown (mvT hZ (hw _ (List.mem_of_getElem? (i := 75) rfl))) (mvT hZ (hw _ (List.mem_of_getElem? (i := 76) rfl))) (mvT hZ (hw _ (List.mem_of_getElem? (i := 77) rfl))) (by decide) (mvT hZ (hw _ (List.mem_of_getElem? (i := 79) rfl))) (mvT hZ (hw _ (List.mem_of_getElem? (i := 78) rfl))) (backOf (W := 0) (rm4 l Z a0 hw [] a (1 : Int32) h0 n0 O F_ordinal_a) hZ (hw _ (List.mem_of_getElem? (i := 81) rfl)) (hw _ (List.mem_of_getElem? (i := 80) rfl)) (by decide) (by decide)) q1a q1c (g := (mkF m 1 #[.val (.ref a)] [(.ref a)])) rfl (by rw [hml]; rfl) (Steps.refl _) (argsL := []) (rest := []) (lenOf pd__40_41I rfl) rfl (by show 2 * 0 + _ ≤ _; exact Nat.le_of_eq rfl) (hb hby d3_1) (fun _ _ => ⟨rfl, e0, (by decide : 0 + 0 ≤ _), (by decide : 0 + 0 ≤ _)⟩)
  dsimp only [Pt.U, Pt.locs, Pt.cells, Pt.slots] at X1 l1 y1 z1 st1 hQ1
  have X1 := own_un X1 l1 y1 z1
  obtain ⟨rfl, N1q, eh1⟩ := hQ1
  have N1 := Fr.app N0 N1q
  obtain ⟨a2, T2, h2, kk2, b2, kb2, X2, e2, E2, hS, hk', hZ, hown, Ex2, Fc2, Fv2, Av2, -, -, R2, -, Sf2, st2⟩ := ldcCH X1 hx hZ hown (hw _ (List.mem_of_getElem? (i := 122) rfl)) hSA eh1 hS hk hEL (List.mem_of_getElem? (i := 1) rfl) C.1 (vs := [(.int (115 : Int32)), (.int (117 : Int32)), (.int (109 : Int32)), (.int (73 : Int32)), (.int (110 : Int32)), (.int (116 : Int32)), (.int (101 : Int32)), (.int (103 : Int32)), (.int (101 : Int32)), (.int (114 : Int32))]) (z := (10 : Int32)) ⟨by decide +kernel, by decide +kernel⟩ (by decide) rfl (g := (mkF m 67 #[.val (.ref a)] [])) rfl (hb hby d3_67) (n := 40) (by decide +kernel) (by decide) (by decide) (by decide)
  have R := R2
  have C := C.trans R
  have hk := hk'
  have E_a := E_a.ext E2
  have F_ordinal_a := F_ordinal_a.ext E2
  have O := O.ext E2
  have K := K.ext E2
  have w3 : ∀ t, Steps p.tables e below (T2.setTop (mkF m 99 #[.val (.ref a)] [(.ref a2)])) t → Steps p.tables e below (s₁.setTop (entryFrame m #[(.ref a)] 1)) t := fun t k => by
    refine pre0 t ?_
    refine XS.aloadN X0.here hx rfl (hb hby d3_0) rfl rfl ?_
    show Steps p.tables e below (s₁.setTop (mkF m 1 #[.val (.ref a)] [(.ref a)])) _
    refine st1.trans ?_
    show Steps p.tables e below (T1.setTop (mkF m 4 #[.val (.ref a)] [(.int (1 : Int32))])) _
    refine XS.tswIn X1.here hx rfl (o := 63) (pc0 := 4) (pc' := 67) rfl (hb hby d3_4) rfl (by decide) rfl (by decide) (by decide) ?_
    show Steps p.tables e below (T1.setTop (mkF m 67 #[.val (.ref a)] [])) _
    refine st2 _ ?_
    show Steps p.tables e below (T2.setTop (mkF m 69 #[.val (.ref a)] [(.ref a2)])) _
    refine XS.goto X2.here hx rfl (pc0 := 69) (pc' := 99) rfl (hb hby d3_69) (by decide) (by decide) ?_
    show Steps p.tables e below (T2.setTop (mkF m 99 #[.val (.ref a)] [(.ref a2)])) _
    exact k
  obtain ⟨fs, hr, hrun, hended, hE⟩ := Stand.leaveW (s := s) (vm₁ := T2.vm) X2 hS (by rw [e2]; exact hk) (v := some (.ref a2)) (fun h => by rw [Bd.returns] at h; cases h)
  refine ⟨_, _, w3 _ ?_, hrun, hended, _, _, rfl, ?_, ?_, own_mono hE (by decide) (by decide)⟩
  · jvm_step X2.here [X2.here.top, hx, (hb hby d3_99), X2.method', Bd.returns, Value.isRef, FieldType.isReference]
    first | (intro acts; rw [hr _ acts rfl rfl rfl]) | rw [hr _ _ rfl rfl rfl]
    exact Steps.refl _
  · show Q3_1 Z a  h0 n0 _ T2.heap _
    rw [e2]
    exact ⟨a2, b2, kb2, rfl, N1, K, Ex2, Fc2, Fv2, Av2⟩
  · rw [hh]; show CHr Z consts_1 s.vm h0 T2.vm T2.heap; rw [e2]; exact C.trans (CHv.at X2 hZ hEL C.1)
theorem d3_72 : decode prog_1_method_5_code 72 = .ok (.ldc 84, 2) := by decide +kernel
theorem d3_74 : decode prog_1_method_5_code 74 = .ok (.goto 25, 3) := by decide +kernel
theorem ef_3_2 (m : MethodId) (x0 : Addr) : entryFrame m #[(.ref x0)] 1 = mkF m 0 #[.val (.ref x0)] [] := by first | (simp [entryFrame, mkF, argsToLocals, Value.category]; done) | rfl
def Q3_2 (Z : State) (a : Addr) (h0 : Heap) (n0 : Nat) (v : Option Value) (h : Heap) (L : List Loc) : Prop := ∃ z : Addr, ∃ t1 : Addr, ∃ kb : ClassId, v = some (.ref z) ∧ Fr n0 L ∧ Keep h0 h [] ∧ Exa Z h z "java/lang/String" ∧ Fld Z h z "java/lang/String" "coder" "B" (.int (0 : Int32)) ∧ Fld Z h z "java/lang/String" "value" "[B" (.ref t1) ∧ Arv Z h t1 kb .byte (7 : Int32) [(.int (115 : Int32)), (.int (117 : Int32)), (.int (109 : Int32)), (.int (76 : Int32)), (.int (111 : Int32)), (.int (110 : Int32)), (.int (103 : Int32))] (.int (0 : Int32))
set_option maxRecDepth 65536 in
set_option maxHeartbeats 40000000 in
theorem rm3_2 (l : Launch) (Z : State) (a0 : Array Value) (hw : ∀ d ∈ tables_1, d.before a0 Z = true) (ws : List Jvm.Cond) (a : Addr) (h0 : Heap) (n0 : Nat) (O0 : Old Z n0 h0) (E_a : Exa Z h0 a "com/example/querent/querent/translation/Aggregation") (F_ordinal_a : Fld Z h0 a "java/lang/Enum" "ordinal" "I" (.int (2 : Int32))) :
    MetFree l (⟨"com/example/querent/querent/translation/Aggregation", "operation", "()Ljava/lang/String;"⟩ : MethodName) (head1 (Jvm.Cond.code (⟨"com/example/querent/querent/translation/Aggregation", "operation", "()Ljava/lang/String;"⟩ : MethodName) prog_1_method_5_code 1 (some (.object "java/lang/String")) :: ws) ({ frames := 1, cells := 2, slots := 32, locals := 12 } : Room)) (fun aA uU => aA = #[(.ref a)] ∧ Z.Warmed39 uU.vm ∧ uU.heap = h0 ∧ CHv Z consts_1 uU.vm h0) (fun _ _ _ _ _ => True) (fun _ uU oO uU' => ∃ vV lL, oO = .returned vV ∧ Q3_2 Z a  h0 n0 vV uU'.heap lL ∧ CHr Z consts_1 uU.vm uU.heap uU'.vm uU'.heap ∧ ReturnedEndW uU oO uU' lL ({ frames := 1, cells := 2, slots := 32, locals := 12 } : Room).cells ({ frames := 1, cells := 2, slots := 32, locals := 12 } : Room).slots) := by
  refine MetFree.of_bodySF (plainFor_of_name pn_com_example_querent_querent_translation_Aggregation) hisR ?_
  intro p e s m args below meth c s₁ Bd hml0 hP hK
  obtain ⟨rfl, hZ, hh, H0⟩ := hP
  have hx := Bd.exec
  have hby := Bd.bytes
  have hml : c.maxLocals = 1 := hml0
  have hown : s.vm.findClass "com/example/querent/querent/translation/Aggregation" = some m.cls := findClass_of_methodNamed Bd.named
  have hnm := (name_of_methodNamed Bd.named Bd.method).1
  have X0 : Stand p l e ({ frames := 1, cells := 2, slots := 32, locals := 12 } : Room) (s.setVm s.vm) m #[(.ref a)] below meth c s₁ [] 0 0 := Stand.of_body Bd
  have e0 : s₁.heap = h0 := by rw [← hh, Bd.state]; rfl
  have N0 := Fr.nil n0
  have O := O0
  have K := Keep.refl h0 []
  have hS : s.Since s.vm h0.size := own_since s _
  have hk : h0.size ≤ h0.size := Nat.le_refl _
  have C : CHr Z consts_1 s.vm h0 s.vm h0 := CHr.refl H0
  have hEL := own_EW hw
  have hSA := own_wS hw
  have pre0 : ∀ t, Steps p.tables e below (s₁.setTop (mkF m 0 #[.val (.ref a)] [])) t → Steps p.tables e below (s₁.setTop (entryFrame m #[(.ref a)] 1)) t := fun t k => castTop (ef_3_2 m a) k
  obtain ⟨cq1, kq1, q1a, q1b, q1c⟩ := isOf hZ e0 E_a
  obtain ⟨_, _, ⟨T1, L1, k1, n1⟩, -, X1, ⟨Lc1, hQ1, l1, y1, z1⟩, st1⟩ := X0.virtualBackUp hx (x := (⟨"com/example/querent/querent/translation/Aggregation", "ordinal", "()I"⟩ : MethodName)) (y := (⟨"java/lang/Enum", "ordinal", "()I"⟩ : MethodName)) (owner := "java/lang/Enum") hown (mvT hZ (hw _ (List.mem_of_getElem? (i := 75) rfl))) (mvT hZ (hw _ (List.mem_of_getElem? (i := 76) rfl))) (mvT hZ (hw _ (List.mem_of_getElem? (i := 77) rfl))) (by decide) (mvT hZ (hw _ (List.mem_of_getElem? (i := 79) rfl))) (mvT hZ (hw _ (List.mem_of_getElem? (i := 78) rfl))) (backOf (W := 0) (rm4 l Z a0 hw [] a (2 : Int32) h0 n0 O F_ordinal_a) hZ (hw _ (List.mem_of_getElem? (i := 81) rfl)) (hw _ (List.mem_of_getElem? (i := 80) rfl)) (by decide) (by decide)) q1a q1c (g := (mkF m 1 #[.val (.ref a)] [(.ref a)])) rfl (by rw [hml]; rfl) (Steps.refl _) (argsL := []) (rest := []) (lenOf pd__40_41I rfl) rfl (by show 2 * 0 + _ ≤ _; exact Nat.le_of_eq rfl) (hb hby d3_1) (fun _ _ => ⟨rfl, e0, (by decide : 0 + 0 ≤ _), (by decide : 0 + 0 ≤ _)⟩)
  dsimp only [Pt.U, Pt.locs, Pt.cells, Pt.slots] at X1 l1 y1 z1 st1 hQ1
  have X1 := own_un X1 l1 y1 z1
  obtain ⟨rfl, N1q, eh1⟩ := hQ1
  have N1 := Fr.app N0 N1q
  obtain ⟨a2, T2, h2, kk2, b2, kb2, X2, e2, E2, hS, hk', hZ, hown, Ex2, Fc2, Fv2, Av2, -, -, R2, -, Sf2, st2⟩ := ldcCH X1 hx hZ hown (hw _ (List.mem_of_getElem? (i := 123) rfl)) hSA eh1 hS hk hEL (List.mem_of_getElem? (i := 2) rfl) C.1 (vs := [(.int (115 : Int32)), (.int (117 : Int32)), (.int (109 : Int32)), (.int (76 : Int32)), (.int (111 : Int32)), (.int (110 : Int32)), (.int (103 : Int32))]) (z := (7 : Int32)) ⟨by decide +kernel, by decide +kernel⟩ (by decide) rfl (g := (mkF m 72 #[.val (.ref a)] [])) rfl (hb hby d3_72) (n := 28) (by decide +kernel) (by decide) (by decide) (by decide)
  have R := R2
  have C := C.trans R
  have hk := hk'
  have E_a := E_a.ext E2
  have F_ordinal_a := F_ordinal_a.ext E2
  have O := O.ext E2
  have K := K.ext E2
  have w3 : ∀ t, Steps p.tables e below (T2.setTop (mkF m 99 #[.val (.ref a)] [(.ref a2)])) t → Steps p.tables e below (s₁.setTop (entryFrame m #[(.ref a)] 1)) t := fun t k => by
    refine pre0 t ?_
    refine XS.aloadN X0.here hx rfl (hb hby d3_0) rfl rfl ?_
    show Steps p.tables e below (s₁.setTop (mkF m 1 #[.val (.ref a)] [(.ref a)])) _
    refine st1.trans ?_
    show Steps p.tables e below (T1.setTop (mkF m 4 #[.val (.ref a)] [(.int (2 : Int32))])) _
    refine XS.tswIn X1.here hx rfl (o := 68) (pc0 := 4) (pc' := 72) rfl (hb hby d3_4) rfl (by decide) rfl (by decide) (by decide) ?_
    show Steps p.tables e below (T1.setTop (mkF m 72 #[.val (.ref a)] [])) _
    refine st2 _ ?_
    show Steps p.tables e below (T2.setTop (mkF m 74 #[.val (.ref a)] [(.ref a2)])) _
    refine XS.goto X2.here hx rfl (pc0 := 74) (pc' := 99) rfl (hb hby d3_74) (by decide) (by decide) ?_
    show Steps p.tables e below (T2.setTop (mkF m 99 #[.val (.ref a)] [(.ref a2)])) _
    exact k
  obtain ⟨fs, hr, hrun, hended, hE⟩ := Stand.leaveW (s := s) (vm₁ := T2.vm) X2 hS (by rw [e2]; exact hk) (v := some (.ref a2)) (fun h => by rw [Bd.returns] at h; cases h)
  refine ⟨_, _, w3 _ ?_, hrun, hended, _, _, rfl, ?_, ?_, own_mono hE (by decide) (by decide)⟩
  · jvm_step X2.here [X2.here.top, hx, (hb hby d3_99), X2.method', Bd.returns, Value.isRef, FieldType.isReference]
    first | (intro acts; rw [hr _ acts rfl rfl rfl]) | rw [hr _ _ rfl rfl rfl]
    exact Steps.refl _
  · show Q3_2 Z a  h0 n0 _ T2.heap _
    rw [e2]
    exact ⟨a2, b2, kb2, rfl, N1, K, Ex2, Fc2, Fv2, Av2⟩
  · rw [hh]; show CHr Z consts_1 s.vm h0 T2.vm T2.heap; rw [e2]; exact C.trans (CHv.at X2 hZ hEL C.1)
theorem d3_77 : decode prog_1_method_5_code 77 = .ok (.ldc 86, 2) := by decide +kernel
theorem d3_79 : decode prog_1_method_5_code 79 = .ok (.goto 20, 3) := by decide +kernel
theorem ef_3_3 (m : MethodId) (x0 : Addr) : entryFrame m #[(.ref x0)] 1 = mkF m 0 #[.val (.ref x0)] [] := by first | (simp [entryFrame, mkF, argsToLocals, Value.category]; done) | rfl
def Q3_3 (Z : State) (a : Addr) (h0 : Heap) (n0 : Nat) (v : Option Value) (h : Heap) (L : List Loc) : Prop := ∃ z : Addr, ∃ t1 : Addr, ∃ kb : ClassId, v = some (.ref z) ∧ Fr n0 L ∧ Keep h0 h [] ∧ Exa Z h z "java/lang/String" ∧ Fld Z h z "java/lang/String" "coder" "B" (.int (0 : Int32)) ∧ Fld Z h z "java/lang/String" "value" "[B" (.ref t1) ∧ Arv Z h t1 kb .byte (9 : Int32) [(.int (115 : Int32)), (.int (117 : Int32)), (.int (109 : Int32)), (.int (68 : Int32)), (.int (111 : Int32)), (.int (117 : Int32)), (.int (98 : Int32)), (.int (108 : Int32)), (.int (101 : Int32))] (.int (0 : Int32))
set_option maxRecDepth 65536 in
set_option maxHeartbeats 40000000 in
theorem rm3_3 (l : Launch) (Z : State) (a0 : Array Value) (hw : ∀ d ∈ tables_1, d.before a0 Z = true) (ws : List Jvm.Cond) (a : Addr) (h0 : Heap) (n0 : Nat) (O0 : Old Z n0 h0) (E_a : Exa Z h0 a "com/example/querent/querent/translation/Aggregation") (F_ordinal_a : Fld Z h0 a "java/lang/Enum" "ordinal" "I" (.int (3 : Int32))) :
    MetFree l (⟨"com/example/querent/querent/translation/Aggregation", "operation", "()Ljava/lang/String;"⟩ : MethodName) (head1 (Jvm.Cond.code (⟨"com/example/querent/querent/translation/Aggregation", "operation", "()Ljava/lang/String;"⟩ : MethodName) prog_1_method_5_code 1 (some (.object "java/lang/String")) :: ws) ({ frames := 1, cells := 2, slots := 40, locals := 12 } : Room)) (fun aA uU => aA = #[(.ref a)] ∧ Z.Warmed39 uU.vm ∧ uU.heap = h0 ∧ CHv Z consts_1 uU.vm h0) (fun _ _ _ _ _ => True) (fun _ uU oO uU' => ∃ vV lL, oO = .returned vV ∧ Q3_3 Z a  h0 n0 vV uU'.heap lL ∧ CHr Z consts_1 uU.vm uU.heap uU'.vm uU'.heap ∧ ReturnedEndW uU oO uU' lL ({ frames := 1, cells := 2, slots := 40, locals := 12 } : Room).cells ({ frames := 1, cells := 2, slots := 40, locals := 12 } : Room).slots) := by
  refine MetFree.of_bodySF (plainFor_of_name pn_com_example_querent_querent_translation_Aggregation) hisR ?_
  intro p e s m args below meth c s₁ Bd hml0 hP hK
  obtain ⟨rfl, hZ, hh, H0⟩ := hP
  have hx := Bd.exec
  have hby := Bd.bytes
  have hml : c.maxLocals = 1 := hml0
  have hown : s.vm.findClass "com/example/querent/querent/translation/Aggregation" = some m.cls := findClass_of_methodNamed Bd.named
  have hnm := (name_of_methodNamed Bd.named Bd.method).1
  have X0 : Stand p l e ({ frames := 1, cells := 2, slots := 40, locals := 12 } : Room) (s.setVm s.vm) m #[(.ref a)] below meth c s₁ [] 0 0 := Stand.of_body Bd
  have e0 : s₁.heap = h0 := by rw [← hh, Bd.state]; rfl
  have N0 := Fr.nil n0
  have O := O0
  have K := Keep.refl h0 []
  have hS : s.Since s.vm h0.size := own_since s _
  have hk : h0.size ≤ h0.size := Nat.le_refl _
  have C : CHr Z consts_1 s.vm h0 s.vm h0 := CHr.refl H0
  have hEL := own_EW hw
  have hSA := own_wS hw
  have pre0 : ∀ t, Steps p.tables e below (s₁.setTop (mkF m 0 #[.val (.ref a)] [])) t → Steps p.tables e below (s₁.setTop (entryFrame m #[(.ref a)] 1)) t := fun t k => castTop (ef_3_3 m a) k
  obtain ⟨cq1, kq1, q1a, q1b, q1c⟩ := isOf hZ e0 E_a
  obtain ⟨_, _, ⟨T1, L1, k1, n1⟩, -, X1, ⟨Lc1, hQ1, l1, y1, z1⟩, st1⟩ := X0.virtualBackUp hx (x := (⟨"com/example/querent/querent/translation/Aggregation", "ordinal", "()I"⟩ : MethodName)) (y := (⟨"java/lang/Enum", "ordinal", "()I"⟩ : MethodName)) (owner := "java/lang/Enum") hown (mvT hZ (hw _ (List.mem_of_getElem? (i := 75) rfl))) (mvT hZ (hw _ (List.mem_of_getElem? (i := 76) rfl))) (mvT hZ (hw _ (List.mem_of_getElem? (i := 77) rfl))) (by decide) (mvT hZ (hw _ (List.mem_of_getElem? (i := 79) rfl))) (mvT hZ (hw _ (List.mem_of_getElem? (i := 78) rfl))) (backOf (W := 0) (rm4 l Z a0 hw [] a (3 : Int32) h0 n0 O F_ordinal_a) hZ (hw _ (List.mem_of_getElem? (i := 81) rfl)) (hw _ (List.mem_of_getElem? (i := 80) rfl)) (by decide) (by decide)) q1a q1c (g := (mkF m 1 #[.val (.ref a)] [(.ref a)])) rfl (by rw [hml]; rfl) (Steps.refl _) (argsL := []) (rest := []) (lenOf pd__40_41I rfl) rfl (by show 2 * 0 + _ ≤ _; exact Nat.le_of_eq rfl) (hb hby d3_1) (fun _ _ => ⟨rfl, e0, (by decide : 0 + 0 ≤ _), (by decide : 0 + 0 ≤ _)⟩)
  dsimp only [Pt.U, Pt.locs, Pt.cells, Pt.slots] at X1 l1 y1 z1 st1 hQ1
  have X1 := own_un X1 l1 y1 z1
  obtain ⟨rfl, N1q, eh1⟩ := hQ1
  have N1 := Fr.app N0 N1q
  obtain ⟨a2, T2, h2, kk2, b2, kb2, X2, e2, E2, hS, hk', hZ, hown, Ex2, Fc2, Fv2, Av2, -, -, R2, -, Sf2, st2⟩ := ldcCH X1 hx hZ hown (hw _ (List.mem_of_getElem? (i := 124) rfl)) hSA eh1 hS hk hEL (List.mem_of_getElem? (i := 3) rfl) C.1 (vs := [(.int (115 : Int32)), (.int (117 : Int32)), (.int (109 : Int32)), (.int (68 : Int32)), (.int (111 : Int32)), (.int (117 : Int32)), (.int (98 : Int32)), (.int (108 : Int32)), (.int (101 : Int32))]) (z := (9 : Int32)) ⟨by decide +kernel, by decide +kernel⟩ (by decide) rfl (g := (mkF m 77 #[.val (.ref a)] [])) rfl (hb hby d3_77) (n := 36) (by decide +kernel) (by decide) (by decide) (by decide)
  have R := R2
  have C := C.trans R
  have hk := hk'
  have E_a := E_a.ext E2
  have F_ordinal_a := F_ordinal_a.ext E2
  have O := O.ext E2
  have K := K.ext E2
  have w3 : ∀ t, Steps p.tables e below (T2.setTop (mkF m 99 #[.val (.ref a)] [(.ref a2)])) t → Steps p.tables e below (s₁.setTop (entryFrame m #[(.ref a)] 1)) t := fun t k => by
    refine pre0 t ?_
    refine XS.aloadN X0.here hx rfl (hb hby d3_0) rfl rfl ?_
    show Steps p.tables e below (s₁.setTop (mkF m 1 #[.val (.ref a)] [(.ref a)])) _
    refine st1.trans ?_
    show Steps p.tables e below (T1.setTop (mkF m 4 #[.val (.ref a)] [(.int (3 : Int32))])) _
    refine XS.tswIn X1.here hx rfl (o := 73) (pc0 := 4) (pc' := 77) rfl (hb hby d3_4) rfl (by decide) rfl (by decide) (by decide) ?_
    show Steps p.tables e below (T1.setTop (mkF m 77 #[.val (.ref a)] [])) _
    refine st2 _ ?_
    show Steps p.tables e below (T2.setTop (mkF m 79 #[.val (.ref a)] [(.ref a2)])) _
    refine XS.goto X2.here hx rfl (pc0 := 79) (pc' := 99) rfl (hb hby d3_79) (by decide) (by decide) ?_
    show Steps p.tables e below (T2.setTop (mkF m 99 #[.val (.ref a)] [(.ref a2)])) _
    exact k
  obtain ⟨fs, hr, hrun, hended, hE⟩ := Stand.leaveW (s := s) (vm₁ := T2.vm) X2 hS (by rw [e2]; exact hk) (v := some (.ref a2)) (fun h => by rw [Bd.returns] at h; cases h)
  refine ⟨_, _, w3 _ ?_, hrun, hended, _, _, rfl, ?_, ?_, own_mono hE (by decide) (by decide)⟩
  · jvm_step X2.here [X2.here.top, hx, (hb hby d3_99), X2.method', Bd.returns, Value.isRef, FieldType.isReference]
    first | (intro acts; rw [hr _ acts rfl rfl rfl]) | rw [hr _ _ rfl rfl rfl]
    exact Steps.refl _
  · show Q3_3 Z a  h0 n0 _ T2.heap _
    rw [e2]
    exact ⟨a2, b2, kb2, rfl, N1, K, Ex2, Fc2, Fv2, Av2⟩
  · rw [hh]; show CHr Z consts_1 s.vm h0 T2.vm T2.heap; rw [e2]; exact C.trans (CHv.at X2 hZ hEL C.1)
theorem d3_82 : decode prog_1_method_5_code 82 = .ok (.ldc 88, 2) := by decide +kernel
theorem d3_84 : decode prog_1_method_5_code 84 = .ok (.goto 15, 3) := by decide +kernel
theorem ef_3_4 (m : MethodId) (x0 : Addr) : entryFrame m #[(.ref x0)] 1 = mkF m 0 #[.val (.ref x0)] [] := by first | (simp [entryFrame, mkF, argsToLocals, Value.category]; done) | rfl
def Q3_4 (Z : State) (a : Addr) (h0 : Heap) (n0 : Nat) (v : Option Value) (h : Heap) (L : List Loc) : Prop := ∃ z : Addr, ∃ t1 : Addr, ∃ kb : ClassId, v = some (.ref z) ∧ Fr n0 L ∧ Keep h0 h [] ∧ Exa Z h z "java/lang/String" ∧ Fld Z h z "java/lang/String" "coder" "B" (.int (0 : Int32)) ∧ Fld Z h z "java/lang/String" "value" "[B" (.ref t1) ∧ Arv Z h t1 kb .byte (13 : Int32) [(.int (115 : Int32)), (.int (117 : Int32)), (.int (109 : Int32)), (.int (66 : Int32)), (.int (105 : Int32)), (.int (103 : Int32)), (.int (68 : Int32)), (.int (101 : Int32)), (.int (99 : Int32)), (.int (105 : Int32)), (.int (109 : Int32)), (.int (97 : Int32)), (.int (108 : Int32))] (.int (0 : Int32))
set_option maxRecDepth 65536 in
set_option maxHeartbeats 40000000 in
theorem rm3_4 (l : Launch) (Z : State) (a0 : Array Value) (hw : ∀ d ∈ tables_1, d.before a0 Z = true) (ws : List Jvm.Cond) (a : Addr) (h0 : Heap) (n0 : Nat) (O0 : Old Z n0 h0) (E_a : Exa Z h0 a "com/example/querent/querent/translation/Aggregation") (F_ordinal_a : Fld Z h0 a "java/lang/Enum" "ordinal" "I" (.int (4 : Int32))) :
    MetFree l (⟨"com/example/querent/querent/translation/Aggregation", "operation", "()Ljava/lang/String;"⟩ : MethodName) (head1 (Jvm.Cond.code (⟨"com/example/querent/querent/translation/Aggregation", "operation", "()Ljava/lang/String;"⟩ : MethodName) prog_1_method_5_code 1 (some (.object "java/lang/String")) :: ws) ({ frames := 1, cells := 2, slots := 56, locals := 12 } : Room)) (fun aA uU => aA = #[(.ref a)] ∧ Z.Warmed39 uU.vm ∧ uU.heap = h0 ∧ CHv Z consts_1 uU.vm h0) (fun _ _ _ _ _ => True) (fun _ uU oO uU' => ∃ vV lL, oO = .returned vV ∧ Q3_4 Z a  h0 n0 vV uU'.heap lL ∧ CHr Z consts_1 uU.vm uU.heap uU'.vm uU'.heap ∧ ReturnedEndW uU oO uU' lL ({ frames := 1, cells := 2, slots := 56, locals := 12 } : Room).cells ({ frames := 1, cells := 2, slots := 56, locals := 12 } : Room).slots) := by
  refine MetFree.of_bodySF (plainFor_of_name pn_com_example_querent_querent_translation_Aggregation) hisR ?_
  intro p e s m args below meth c s₁ Bd hml0 hP hK
  obtain ⟨rfl, hZ, hh, H0⟩ := hP
  have hx := Bd.exec
  have hby := Bd.bytes
  have hml : c.maxLocals = 1 := hml0
  have hown : s.vm.findClass "com/example/querent/querent/translation/Aggregation" = some m.cls := findClass_of_methodNamed Bd.named
  have hnm := (name_of_methodNamed Bd.named Bd.method).1
  have X0 : Stand p l e ({ frames := 1, cells := 2, slots := 56, locals := 12 } : Room) (s.setVm s.vm) m #[(.ref a)] below meth c s₁ [] 0 0 := Stand.of_body Bd
  have e0 : s₁.heap = h0 := by rw [← hh, Bd.state]; rfl
  have N0 := Fr.nil n0
  have O := O0
  have K := Keep.refl h0 []
  have hS : s.Since s.vm h0.size := own_since s _
  have hk : h0.size ≤ h0.size := Nat.le_refl _
  have C : CHr Z consts_1 s.vm h0 s.vm h0 := CHr.refl H0
  have hEL := own_EW hw
  have hSA := own_wS hw
  have pre0 : ∀ t, Steps p.tables e below (s₁.setTop (mkF m 0 #[.val (.ref a)] [])) t → Steps p.tables e below (s₁.setTop (entryFrame m #[(.ref a)] 1)) t := fun t k => castTop (ef_3_4 m a) k
  obtain ⟨cq1, kq1, q1a, q1b, q1c⟩ := isOf hZ e0 E_a
  obtain ⟨_, _, ⟨T1, L1, k1, n1⟩, -, X1, ⟨Lc1, hQ1, l1, y1, z1⟩, st1⟩ := X0.virtualBackUp hx (x := (⟨"com/example/querent/querent/translation/Aggregation", "ordinal", "()I"⟩ : MethodName)) (y := (⟨"java/lang/Enum", "ordinal", "()I"⟩ : MethodName)) (owner := "java/lang/Enum") hown (mvT hZ (hw _ (List.mem_of_getElem? (i := 75) rfl))) (mvT hZ (hw _ (List.mem_of_getElem? (i := 76) rfl))) (mvT hZ (hw _ (List.mem_of_getElem? (i := 77) rfl))) (by decide) (mvT hZ (hw _ (List.mem_of_getElem? (i := 79) rfl))) (mvT hZ (hw _ (List.mem_of_getElem? (i := 78) rfl))) (backOf (W := 0) (rm4 l Z a0 hw [] a (4 : Int32) h0 n0 O F_ordinal_a) hZ (hw _ (List.mem_of_getElem? (i := 81) rfl)) (hw _ (List.mem_of_getElem? (i := 80) rfl)) (by decide) (by decide)) q1a q1c (g := (mkF m 1 #[.val (.ref a)] [(.ref a)])) rfl (by rw [hml]; rfl) (Steps.refl _) (argsL := []) (rest := []) (lenOf pd__40_41I rfl) rfl (by show 2 * 0 + _ ≤ _; exact Nat.le_of_eq rfl) (hb hby d3_1) (fun _ _ => ⟨rfl, e0, (by decide : 0 + 0 ≤ _), (by decide : 0 + 0 ≤ _)⟩)
  dsimp only [Pt.U, Pt.locs, Pt.cells, Pt.slots] at X1 l1 y1 z1 st1 hQ1
  have X1 := own_un X1 l1 y1 z1
  obtain ⟨rfl, N1q, eh1⟩ := hQ1
  have N1 := Fr.app N0 N1q
  obtain ⟨a2, T2, h2, kk2, b2, kb2, X2, e2, E2, hS, hk', hZ, hown, Ex2, Fc2, Fv2, Av2, -, -, R2, -, Sf2, st2⟩ := ldcCH X1 hx hZ hown (hw _ (List.mem_of_getElem? (i := 125) rfl)) hSA eh1 hS hk hEL (List.mem_of_getElem? (i := 4) rfl) C.1 (vs := [(.int (115 : Int32)), (.int (117 : Int32)), (.int (109 : Int32)), (.int (66 : Int32)), (.int (105 : Int32)), (.int (103 : Int32)), (.int (68 : Int32)), (.int (101 : Int32)), (.int (99 : Int32)), (.int (105 : Int32)), (.int (109 : Int32)), (.int (97 : Int32)), (.int (108 : Int32))]) (z := (13 : Int32)) ⟨by decide +kernel, by decide +kernel⟩ (by decide) rfl (g := (mkF m 82 #[.val (.ref a)] [])) rfl (hb hby d3_82) (n := 52) (by decide +kernel) (by decide) (by decide) (by decide)
  have R := R2
  have C := C.trans R
  have hk := hk'
  have E_a := E_a.ext E2
  have F_ordinal_a := F_ordinal_a.ext E2
  have O := O.ext E2
  have K := K.ext E2
  have w3 : ∀ t, Steps p.tables e below (T2.setTop (mkF m 99 #[.val (.ref a)] [(.ref a2)])) t → Steps p.tables e below (s₁.setTop (entryFrame m #[(.ref a)] 1)) t := fun t k => by
    refine pre0 t ?_
    refine XS.aloadN X0.here hx rfl (hb hby d3_0) rfl rfl ?_
    show Steps p.tables e below (s₁.setTop (mkF m 1 #[.val (.ref a)] [(.ref a)])) _
    refine st1.trans ?_
    show Steps p.tables e below (T1.setTop (mkF m 4 #[.val (.ref a)] [(.int (4 : Int32))])) _
    refine XS.tswIn X1.here hx rfl (o := 78) (pc0 := 4) (pc' := 82) rfl (hb hby d3_4) rfl (by decide) rfl (by decide) (by decide) ?_
    show Steps p.tables e below (T1.setTop (mkF m 82 #[.val (.ref a)] [])) _
    refine st2 _ ?_
    show Steps p.tables e below (T2.setTop (mkF m 84 #[.val (.ref a)] [(.ref a2)])) _
    refine XS.goto X2.here hx rfl (pc0 := 84) (pc' := 99) rfl (hb hby d3_84) (by decide) (by decide) ?_
    show Steps p.tables e below (T2.setTop (mkF m 99 #[.val (.ref a)] [(.ref a2)])) _
    exact k
  obtain ⟨fs, hr, hrun, hended, hE⟩ := Stand.leaveW (s := s) (vm₁ := T2.vm) X2 hS (by rw [e2]; exact hk) (v := some (.ref a2)) (fun h => by rw [Bd.returns] at h; cases h)
  refine ⟨_, _, w3 _ ?_, hrun, hended, _, _, rfl, ?_, ?_, own_mono hE (by decide) (by decide)⟩
  · jvm_step X2.here [X2.here.top, hx, (hb hby d3_99), X2.method', Bd.returns, Value.isRef, FieldType.isReference]
    first | (intro acts; rw [hr _ acts rfl rfl rfl]) | rw [hr _ _ rfl rfl rfl]
    exact Steps.refl _
  · show Q3_4 Z a  h0 n0 _ T2.heap _
    rw [e2]
    exact ⟨a2, b2, kb2, rfl, N1, K, Ex2, Fc2, Fv2, Av2⟩
  · rw [hh]; show CHr Z consts_1 s.vm h0 T2.vm T2.heap; rw [e2]; exact C.trans (CHv.at X2 hZ hEL C.1)
theorem d3_87 : decode prog_1_method_5_code 87 = .ok (.ldc 90, 2) := by decide +kernel
theorem d3_89 : decode prog_1_method_5_code 89 = .ok (.goto 10, 3) := by decide +kernel
theorem ef_3_5 (m : MethodId) (x0 : Addr) : entryFrame m #[(.ref x0)] 1 = mkF m 0 #[.val (.ref x0)] [] := by first | (simp [entryFrame, mkF, argsToLocals, Value.category]; done) | rfl
def Q3_5 (Z : State) (a : Addr) (h0 : Heap) (n0 : Nat) (v : Option Value) (h : Heap) (L : List Loc) : Prop := ∃ z : Addr, ∃ t1 : Addr, ∃ kb : ClassId, v = some (.ref z) ∧ Fr n0 L ∧ Keep h0 h [] ∧ Exa Z h z "java/lang/String" ∧ Fld Z h z "java/lang/String" "coder" "B" (.int (0 : Int32)) ∧ Fld Z h z "java/lang/String" "value" "[B" (.ref t1) ∧ Arv Z h t1 kb .byte (3 : Int32) [(.int (109 : Int32)), (.int (105 : Int32)), (.int (110 : Int32))] (.int (0 : Int32))
set_option maxRecDepth 65536 in
set_option maxHeartbeats 40000000 in
theorem rm3_5 (l : Launch) (Z : State) (a0 : Array Value) (hw : ∀ d ∈ tables_1, d.before a0 Z = true) (ws : List Jvm.Cond) (a : Addr) (h0 : Heap) (n0 : Nat) (O0 : Old Z n0 h0) (E_a : Exa Z h0 a "com/example/querent/querent/translation/Aggregation") (F_ordinal_a : Fld Z h0 a "java/lang/Enum" "ordinal" "I" (.int (5 : Int32))) :
    MetFree l (⟨"com/example/querent/querent/translation/Aggregation", "operation", "()Ljava/lang/String;"⟩ : MethodName) (head1 (Jvm.Cond.code (⟨"com/example/querent/querent/translation/Aggregation", "operation", "()Ljava/lang/String;"⟩ : MethodName) prog_1_method_5_code 1 (some (.object "java/lang/String")) :: ws) ({ frames := 1, cells := 2, slots := 16, locals := 12 } : Room)) (fun aA uU => aA = #[(.ref a)] ∧ Z.Warmed39 uU.vm ∧ uU.heap = h0 ∧ CHv Z consts_1 uU.vm h0) (fun _ _ _ _ _ => True) (fun _ uU oO uU' => ∃ vV lL, oO = .returned vV ∧ Q3_5 Z a  h0 n0 vV uU'.heap lL ∧ CHr Z consts_1 uU.vm uU.heap uU'.vm uU'.heap ∧ ReturnedEndW uU oO uU' lL ({ frames := 1, cells := 2, slots := 16, locals := 12 } : Room).cells ({ frames := 1, cells := 2, slots := 16, locals := 12 } : Room).slots) := by
  refine MetFree.of_bodySF (plainFor_of_name pn_com_example_querent_querent_translation_Aggregation) hisR ?_
  intro p e s m args below meth c s₁ Bd hml0 hP hK
  obtain ⟨rfl, hZ, hh, H0⟩ := hP
  have hx := Bd.exec
  have hby := Bd.bytes
  have hml : c.maxLocals = 1 := hml0
  have hown : s.vm.findClass "com/example/querent/querent/translation/Aggregation" = some m.cls := findClass_of_methodNamed Bd.named
  have hnm := (name_of_methodNamed Bd.named Bd.method).1
  have X0 : Stand p l e ({ frames := 1, cells := 2, slots := 16, locals := 12 } : Room) (s.setVm s.vm) m #[(.ref a)] below meth c s₁ [] 0 0 := Stand.of_body Bd
  have e0 : s₁.heap = h0 := by rw [← hh, Bd.state]; rfl
  have N0 := Fr.nil n0
  have O := O0
  have K := Keep.refl h0 []
  have hS : s.Since s.vm h0.size := own_since s _
  have hk : h0.size ≤ h0.size := Nat.le_refl _
  have C : CHr Z consts_1 s.vm h0 s.vm h0 := CHr.refl H0
  have hEL := own_EW hw
  have hSA := own_wS hw
  have pre0 : ∀ t, Steps p.tables e below (s₁.setTop (mkF m 0 #[.val (.ref a)] [])) t → Steps p.tables e below (s₁.setTop (entryFrame m #[(.ref a)] 1)) t := fun t k => castTop (ef_3_5 m a) k
  obtain ⟨cq1, kq1, q1a, q1b, q1c⟩ := isOf hZ e0 E_a
  obtain ⟨_, _, ⟨T1, L1, k1, n1⟩, -, X1, ⟨Lc1, hQ1, l1, y1, z1⟩, st1⟩ := X0.virtualBackUp hx (x := (⟨"com/example/querent/querent/translation/Aggregation", "ordinal", "()I"⟩ : MethodName)) (y := (⟨"java/lang/Enum", "ordinal", "()I"⟩ : MethodName)) (owner := "java/lang/Enum") hown (mvT hZ (hw _ (List.mem_of_getElem? (i := 75) rfl))) (mvT hZ (hw _ (List.mem_of_getElem? (i := 76) rfl))) (mvT hZ (hw _ (List.mem_of_getElem? (i := 77) rfl))) (by decide) (mvT hZ (hw _ (List.mem_of_getElem? (i := 79) rfl))) (mvT hZ (hw _ (List.mem_of_getElem? (i := 78) rfl))) (backOf (W := 0) (rm4 l Z a0 hw [] a (5 : Int32) h0 n0 O F_ordinal_a) hZ (hw _ (List.mem_of_getElem? (i := 81) rfl)) (hw _ (List.mem_of_getElem? (i := 80) rfl)) (by decide) (by decide)) q1a q1c (g := (mkF m 1 #[.val (.ref a)] [(.ref a)])) rfl (by rw [hml]; rfl) (Steps.refl _) (argsL := []) (rest := []) (lenOf pd__40_41I rfl) rfl (by show 2 * 0 + _ ≤ _; exact Nat.le_of_eq rfl) (hb hby d3_1) (fun _ _ => ⟨rfl, e0, (by decide : 0 + 0 ≤ _), (by decide : 0 + 0 ≤ _)⟩)
  dsimp only [Pt.U, Pt.locs, Pt.cells, Pt.slots] at X1 l1 y1 z1 st1 hQ1
  have X1 := own_un X1 l1 y1 z1
  obtain ⟨rfl, N1q, eh1⟩ := hQ1
  have N1 := Fr.app N0 N1q
  obtain ⟨a2, T2, h2, kk2, b2, kb2, X2, e2, E2, hS, hk', hZ, hown, Ex2, Fc2, Fv2, Av2, -, -, R2, -, Sf2, st2⟩ := ldcCH X1 hx hZ hown (hw _ (List.mem_of_getElem? (i := 126) rfl)) hSA eh1 hS hk hEL (List.mem_of_getElem? (i := 5) rfl) C.1 (vs := [(.int (109 : Int32)), (.int (105 : Int32)), (.int (110 : Int32))]) (z := (3 : Int32)) ⟨by decide +kernel, by decide +kernel⟩ (by decide) rfl (g := (mkF m 87 #[.val (.ref a)] [])) rfl (hb hby d3_87) (n := 12) (by decide +kernel) (by decide) (by decide) (by decide)
  have R := R2
  have C := C.trans R
  have hk := hk'
  have E_a := E_a.ext E2
  have F_ordinal_a := F_ordinal_a.ext E2
  have O := O.ext E2
  have K := K.ext E2
  have w3 : ∀ t, Steps p.tables e below (T2.setTop (mkF m 99 #[.val (.ref a)] [(.ref a2)])) t → Steps p.tables e below (s₁.setTop (entryFrame m #[(.ref a)] 1)) t := fun t k => by
    refine pre0 t ?_
    refine XS.aloadN X0.here hx rfl (hb hby d3_0) rfl rfl ?_
    show Steps p.tables e below (s₁.setTop (mkF m 1 #[.val (.ref a)] [(.ref a)])) _
    refine st1.trans ?_
    show Steps p.tables e below (T1.setTop (mkF m 4 #[.val (.ref a)] [(.int (5 : Int32))])) _
    refine XS.tswIn X1.here hx rfl (o := 83) (pc0 := 4) (pc' := 87) rfl (hb hby d3_4) rfl (by decide) rfl (by decide) (by decide) ?_
    show Steps p.tables e below (T1.setTop (mkF m 87 #[.val (.ref a)] [])) _
    refine st2 _ ?_
    show Steps p.tables e below (T2.setTop (mkF m 89 #[.val (.ref a)] [(.ref a2)])) _
    refine XS.goto X2.here hx rfl (pc0 := 89) (pc' := 99) rfl (hb hby d3_89) (by decide) (by decide) ?_
    show Steps p.tables e below (T2.setTop (mkF m 99 #[.val (.ref a)] [(.ref a2)])) _
    exact k
  obtain ⟨fs, hr, hrun, hended, hE⟩ := Stand.leaveW (s := s) (vm₁ := T2.vm) X2 hS (by rw [e2]; exact hk) (v := some (.ref a2)) (fun h => by rw [Bd.returns] at h; cases h)
  refine ⟨_, _, w3 _ ?_, hrun, hended, _, _, rfl, ?_, ?_, own_mono hE (by decide) (by decide)⟩
  · jvm_step X2.here [X2.here.top, hx, (hb hby d3_99), X2.method', Bd.returns, Value.isRef, FieldType.isReference]
    first | (intro acts; rw [hr _ acts rfl rfl rfl]) | rw [hr _ _ rfl rfl rfl]
    exact Steps.refl _
  · show Q3_5 Z a  h0 n0 _ T2.heap _
    rw [e2]
    exact ⟨a2, b2, kb2, rfl, N1, K, Ex2, Fc2, Fv2, Av2⟩
  · rw [hh]; show CHr Z consts_1 s.vm h0 T2.vm T2.heap; rw [e2]; exact C.trans (CHv.at X2 hZ hEL C.1)
theorem d3_92 : decode prog_1_method_5_code 92 = .ok (.ldc 92, 2) := by decide +kernel
theorem d3_94 : decode prog_1_method_5_code 94 = .ok (.goto 5, 3) := by decide +kernel
theorem ef_3_6 (m : MethodId) (x0 : Addr) : entryFrame m #[(.ref x0)] 1 = mkF m 0 #[.val (.ref x0)] [] := by first | (simp [entryFrame, mkF, argsToLocals, Value.category]; done) | rfl
def Q3_6 (Z : State) (a : Addr) (h0 : Heap) (n0 : Nat) (v : Option Value) (h : Heap) (L : List Loc) : Prop := ∃ z : Addr, ∃ t1 : Addr, ∃ kb : ClassId, v = some (.ref z) ∧ Fr n0 L ∧ Keep h0 h [] ∧ Exa Z h z "java/lang/String" ∧ Fld Z h z "java/lang/String" "coder" "B" (.int (0 : Int32)) ∧ Fld Z h z "java/lang/String" "value" "[B" (.ref t1) ∧ Arv Z h t1 kb .byte (3 : Int32) [(.int (109 : Int32)), (.int (97 : Int32)), (.int (120 : Int32))] (.int (0 : Int32))
set_option maxRecDepth 65536 in
set_option maxHeartbeats 40000000 in
theorem rm3_6 (l : Launch) (Z : State) (a0 : Array Value) (hw : ∀ d ∈ tables_1, d.before a0 Z = true) (ws : List Jvm.Cond) (a : Addr) (h0 : Heap) (n0 : Nat) (O0 : Old Z n0 h0) (E_a : Exa Z h0 a "com/example/querent/querent/translation/Aggregation") (F_ordinal_a : Fld Z h0 a "java/lang/Enum" "ordinal" "I" (.int (6 : Int32))) :
    MetFree l (⟨"com/example/querent/querent/translation/Aggregation", "operation", "()Ljava/lang/String;"⟩ : MethodName) (head1 (Jvm.Cond.code (⟨"com/example/querent/querent/translation/Aggregation", "operation", "()Ljava/lang/String;"⟩ : MethodName) prog_1_method_5_code 1 (some (.object "java/lang/String")) :: ws) ({ frames := 1, cells := 2, slots := 16, locals := 12 } : Room)) (fun aA uU => aA = #[(.ref a)] ∧ Z.Warmed39 uU.vm ∧ uU.heap = h0 ∧ CHv Z consts_1 uU.vm h0) (fun _ _ _ _ _ => True) (fun _ uU oO uU' => ∃ vV lL, oO = .returned vV ∧ Q3_6 Z a  h0 n0 vV uU'.heap lL ∧ CHr Z consts_1 uU.vm uU.heap uU'.vm uU'.heap ∧ ReturnedEndW uU oO uU' lL ({ frames := 1, cells := 2, slots := 16, locals := 12 } : Room).cells ({ frames := 1, cells := 2, slots := 16, locals := 12 } : Room).slots) := by
  refine MetFree.of_bodySF (plainFor_of_name pn_com_example_querent_querent_translation_Aggregation) hisR ?_
  intro p e s m args below meth c s₁ Bd hml0 hP hK
  obtain ⟨rfl, hZ, hh, H0⟩ := hP
  have hx := Bd.exec
  have hby := Bd.bytes
  have hml : c.maxLocals = 1 := hml0
  have hown : s.vm.findClass "com/example/querent/querent/translation/Aggregation" = some m.cls := findClass_of_methodNamed Bd.named
  have hnm := (name_of_methodNamed Bd.named Bd.method).1
  have X0 : Stand p l e ({ frames := 1, cells := 2, slots := 16, locals := 12 } : Room) (s.setVm s.vm) m #[(.ref a)] below meth c s₁ [] 0 0 := Stand.of_body Bd
  have e0 : s₁.heap = h0 := by rw [← hh, Bd.state]; rfl
  have N0 := Fr.nil n0
  have O := O0
  have K := Keep.refl h0 []
  have hS : s.Since s.vm h0.size := own_since s _
  have hk : h0.size ≤ h0.size := Nat.le_refl _
  have C : CHr Z consts_1 s.vm h0 s.vm h0 := CHr.refl H0
  have hEL := own_EW hw
  have hSA := own_wS hw
  have pre0 : ∀ t, Steps p.tables e below (s₁.setTop (mkF m 0 #[.val (.ref a)] [])) t → Steps p.tables e below (s₁.setTop (entryFrame m #[(.ref a)] 1)) t := fun t k => castTop (ef_3_6 m a) k
  obtain ⟨cq1, kq1, q1a, q1b, q1c⟩ := isOf hZ e0 E_a
  obtain ⟨_, _, ⟨T1, L1, k1, n1⟩, -, X1, ⟨Lc1, hQ1, l1, y1, z1⟩, st1⟩ := X0.virtualBackUp hx (x := (⟨"com/example/querent/querent/translation/Aggregation", "ordinal", "()I"⟩ : MethodName)) (y := (⟨"java/lang/Enum", "ordinal", "()I"⟩ : MethodName)) (owner := "java/lang/Enum") hown (mvT hZ (hw _ (List.mem_of_getElem? (i := 75) rfl))) (mvT hZ (hw _ (List.mem_of_getElem? (i := 76) rfl))) (mvT hZ (hw _ (List.mem_of_getElem? (i := 77) rfl))) (by decide) (mvT hZ (hw _ (List.mem_of_getElem? (i := 79) rfl))) (mvT hZ (hw _ (List.mem_of_getElem? (i := 78) rfl))) (backOf (W := 0) (rm4 l Z a0 hw [] a (6 : Int32) h0 n0 O F_ordinal_a) hZ (hw _ (List.mem_of_getElem? (i := 81) rfl)) (hw _ (List.mem_of_getElem? (i := 80) rfl)) (by decide) (by decide)) q1a q1c (g := (mkF m 1 #[.val (.ref a)] [(.ref a)])) rfl (by rw [hml]; rfl) (Steps.refl _) (argsL := []) (rest := []) (lenOf pd__40_41I rfl) rfl (by show 2 * 0 + _ ≤ _; exact Nat.le_of_eq rfl) (hb hby d3_1) (fun _ _ => ⟨rfl, e0, (by decide : 0 + 0 ≤ _), (by decide : 0 + 0 ≤ _)⟩)
  dsimp only [Pt.U, Pt.locs, Pt.cells, Pt.slots] at X1 l1 y1 z1 st1 hQ1
  have X1 := own_un X1 l1 y1 z1
  obtain ⟨rfl, N1q, eh1⟩ := hQ1
  have N1 := Fr.app N0 N1q
  obtain ⟨a2, T2, h2, kk2, b2, kb2, X2, e2, E2, hS, hk', hZ, hown, Ex2, Fc2, Fv2, Av2, -, -, R2, -, Sf2, st2⟩ := ldcCH X1 hx hZ hown (hw _ (List.mem_of_getElem? (i := 127) rfl)) hSA eh1 hS hk hEL (List.mem_of_getElem? (i := 6) rfl) C.1 (vs := [(.int (109 : Int32)), (.int (97 : Int32)), (.int (120 : Int32))]) (z := (3 : Int32)) ⟨by decide +kernel, by decide +kernel⟩ (by decide) rfl (g := (mkF m 92 #[.val (.ref a)] [])) rfl (hb hby d3_92) (n := 12) (by decide +kernel) (by decide) (by decide) (by decide)
  have R := R2
  have C := C.trans R
  have hk := hk'
  have E_a := E_a.ext E2
  have F_ordinal_a := F_ordinal_a.ext E2
  have O := O.ext E2
  have K := K.ext E2
  have w3 : ∀ t, Steps p.tables e below (T2.setTop (mkF m 99 #[.val (.ref a)] [(.ref a2)])) t → Steps p.tables e below (s₁.setTop (entryFrame m #[(.ref a)] 1)) t := fun t k => by
    refine pre0 t ?_
    refine XS.aloadN X0.here hx rfl (hb hby d3_0) rfl rfl ?_
    show Steps p.tables e below (s₁.setTop (mkF m 1 #[.val (.ref a)] [(.ref a)])) _
    refine st1.trans ?_
    show Steps p.tables e below (T1.setTop (mkF m 4 #[.val (.ref a)] [(.int (6 : Int32))])) _
    refine XS.tswIn X1.here hx rfl (o := 88) (pc0 := 4) (pc' := 92) rfl (hb hby d3_4) rfl (by decide) rfl (by decide) (by decide) ?_
    show Steps p.tables e below (T1.setTop (mkF m 92 #[.val (.ref a)] [])) _
    refine st2 _ ?_
    show Steps p.tables e below (T2.setTop (mkF m 94 #[.val (.ref a)] [(.ref a2)])) _
    refine XS.goto X2.here hx rfl (pc0 := 94) (pc' := 99) rfl (hb hby d3_94) (by decide) (by decide) ?_
    show Steps p.tables e below (T2.setTop (mkF m 99 #[.val (.ref a)] [(.ref a2)])) _
    exact k
  obtain ⟨fs, hr, hrun, hended, hE⟩ := Stand.leaveW (s := s) (vm₁ := T2.vm) X2 hS (by rw [e2]; exact hk) (v := some (.ref a2)) (fun h => by rw [Bd.returns] at h; cases h)
  refine ⟨_, _, w3 _ ?_, hrun, hended, _, _, rfl, ?_, ?_, own_mono hE (by decide) (by decide)⟩
  · jvm_step X2.here [X2.here.top, hx, (hb hby d3_99), X2.method', Bd.returns, Value.isRef, FieldType.isReference]
    first | (intro acts; rw [hr _ acts rfl rfl rfl]) | rw [hr _ _ rfl rfl rfl]
    exact Steps.refl _
  · show Q3_6 Z a  h0 n0 _ T2.heap _
    rw [e2]
    exact ⟨a2, b2, kb2, rfl, N1, K, Ex2, Fc2, Fv2, Av2⟩
  · rw [hh]; show CHr Z consts_1 s.vm h0 T2.vm T2.heap; rw [e2]; exact C.trans (CHv.at X2 hZ hEL C.1)
theorem d3_97 : decode prog_1_method_5_code 97 = .ok (.ldc 94, 2) := by decide +kernel
theorem ef_3_7 (m : MethodId) (x0 : Addr) : entryFrame m #[(.ref x0)] 1 = mkF m 0 #[.val (.ref x0)] [] := by first | (simp [entryFrame, mkF, argsToLocals, Value.category]; done) | rfl
def Q3_7 (Z : State) (a : Addr) (h0 : Heap) (n0 : Nat) (v : Option Value) (h : Heap) (L : List Loc) : Prop := ∃ z : Addr, ∃ t1 : Addr, ∃ kb : ClassId, v = some (.ref z) ∧ Fr n0 L ∧ Keep h0 h [] ∧ Exa Z h z "java/lang/String" ∧ Fld Z h z "java/lang/String" "coder" "B" (.int (0 : Int32)) ∧ Fld Z h z "java/lang/String" "value" "[B" (.ref t1) ∧ Arv Z h t1 kb .byte (3 : Int32) [(.int (97 : Int32)), (.int (118 : Int32)), (.int (103 : Int32))] (.int (0 : Int32))
set_option maxRecDepth 65536 in
set_option maxHeartbeats 40000000 in
theorem rm3_7 (l : Launch) (Z : State) (a0 : Array Value) (hw : ∀ d ∈ tables_1, d.before a0 Z = true) (ws : List Jvm.Cond) (a : Addr) (h0 : Heap) (n0 : Nat) (O0 : Old Z n0 h0) (E_a : Exa Z h0 a "com/example/querent/querent/translation/Aggregation") (F_ordinal_a : Fld Z h0 a "java/lang/Enum" "ordinal" "I" (.int (7 : Int32))) :
    MetFree l (⟨"com/example/querent/querent/translation/Aggregation", "operation", "()Ljava/lang/String;"⟩ : MethodName) (head1 (Jvm.Cond.code (⟨"com/example/querent/querent/translation/Aggregation", "operation", "()Ljava/lang/String;"⟩ : MethodName) prog_1_method_5_code 1 (some (.object "java/lang/String")) :: ws) ({ frames := 1, cells := 2, slots := 16, locals := 12 } : Room)) (fun aA uU => aA = #[(.ref a)] ∧ Z.Warmed39 uU.vm ∧ uU.heap = h0 ∧ CHv Z consts_1 uU.vm h0) (fun _ _ _ _ _ => True) (fun _ uU oO uU' => ∃ vV lL, oO = .returned vV ∧ Q3_7 Z a  h0 n0 vV uU'.heap lL ∧ CHr Z consts_1 uU.vm uU.heap uU'.vm uU'.heap ∧ ReturnedEndW uU oO uU' lL ({ frames := 1, cells := 2, slots := 16, locals := 12 } : Room).cells ({ frames := 1, cells := 2, slots := 16, locals := 12 } : Room).slots) := by
  refine MetFree.of_bodySF (plainFor_of_name pn_com_example_querent_querent_translation_Aggregation) hisR ?_
  intro p e s m args below meth c s₁ Bd hml0 hP hK
  obtain ⟨rfl, hZ, hh, H0⟩ := hP
  have hx := Bd.exec
  have hby := Bd.bytes
  have hml : c.maxLocals = 1 := hml0
  have hown : s.vm.findClass "com/example/querent/querent/translation/Aggregation" = some m.cls := findClass_of_methodNamed Bd.named
  have hnm := (name_of_methodNamed Bd.named Bd.method).1
  have X0 : Stand p l e ({ frames := 1, cells := 2, slots := 16, locals := 12 } : Room) (s.setVm s.vm) m #[(.ref a)] below meth c s₁ [] 0 0 := Stand.of_body Bd
  have e0 : s₁.heap = h0 := by rw [← hh, Bd.state]; rfl
  have N0 := Fr.nil n0
  have O := O0
  have K := Keep.refl h0 []
  have hS : s.Since s.vm h0.size := own_since s _
  have hk : h0.size ≤ h0.size := Nat.le_refl _
  have C : CHr Z consts_1 s.vm h0 s.vm h0 := CHr.refl H0
  have hEL := own_EW hw
  have hSA := own_wS hw
  have pre0 : ∀ t, Steps p.tables e below (s₁.setTop (mkF m 0 #[.val (.ref a)] [])) t → Steps p.tables e below (s₁.setTop (entryFrame m #[(.ref a)] 1)) t := fun t k => castTop (ef_3_7 m a) k
  obtain ⟨cq1, kq1, q1a, q1b, q1c⟩ := isOf hZ e0 E_a
  obtain ⟨_, _, ⟨T1, L1, k1, n1⟩, -, X1, ⟨Lc1, hQ1, l1, y1, z1⟩, st1⟩ := X0.virtualBackUp hx (x := (⟨"com/example/querent/querent/translation/Aggregation", "ordinal", "()I"⟩ : MethodName)) (y := (⟨"java/lang/Enum", "ordinal", "()I"⟩ : MethodName)) (owner := "java/lang/Enum") hown (mvT hZ (hw _ (List.mem_of_getElem? (i := 75) rfl))) (mvT hZ (hw _ (List.mem_of_getElem? (i := 76) rfl))) (mvT hZ (hw _ (List.mem_of_getElem? (i := 77) rfl))) (by decide) (mvT hZ (hw _ (List.mem_of_getElem? (i := 79) rfl))) (mvT hZ (hw _ (List.mem_of_getElem? (i := 78) rfl))) (backOf (W := 0) (rm4 l Z a0 hw [] a (7 : Int32) h0 n0 O F_ordinal_a) hZ (hw _ (List.mem_of_getElem? (i := 81) rfl)) (hw _ (List.mem_of_getElem? (i := 80) rfl)) (by decide) (by decide)) q1a q1c (g := (mkF m 1 #[.val (.ref a)] [(.ref a)])) rfl (by rw [hml]; rfl) (Steps.refl _) (argsL := []) (rest := []) (lenOf pd__40_41I rfl) rfl (by show 2 * 0 + _ ≤ _; exact Nat.le_of_eq rfl) (hb hby d3_1) (fun _ _ => ⟨rfl, e0, (by decide : 0 + 0 ≤ _), (by decide : 0 + 0 ≤ _)⟩)
  dsimp only [Pt.U, Pt.locs, Pt.cells, Pt.slots] at X1 l1 y1 z1 st1 hQ1
  have X1 := own_un X1 l1 y1 z1
  obtain ⟨rfl, N1q, eh1⟩ := hQ1
  have N1 := Fr.app N0 N1q
  obtain ⟨a2, T2, h2, kk2, b2, kb2, X2, e2, E2, hS, hk', hZ, hown, Ex2, Fc2, Fv2, Av2, -, -, R2, -, Sf2, st2⟩ := ldcCH X1 hx hZ hown (hw _ (List.mem_of_getElem? (i := 128) rfl)) hSA eh1 hS hk hEL (List.mem_of_getElem? (i := 7) rfl) C.1 (vs := [(.int (97 : Int32)), (.int (118 : Int32)), (.int (103 : Int32))]) (z := (3 : Int32)) ⟨by decide +kernel, by decide +kernel⟩ (by decide) rfl (g := (mkF m 97 #[.val (.ref a)] [])) rfl (hb hby d3_97) (n := 12) (by decide +kernel) (by decide) (by decide) (by decide)
  have R := R2
  have C := C.trans R
  have hk := hk'
  have E_a := E_a.ext E2
  have F_ordinal_a := F_ordinal_a.ext E2
  have O := O.ext E2
  have K := K.ext E2
  have w3 : ∀ t, Steps p.tables e below (T2.setTop (mkF m 99 #[.val (.ref a)] [(.ref a2)])) t → Steps p.tables e below (s₁.setTop (entryFrame m #[(.ref a)] 1)) t := fun t k => by
    refine pre0 t ?_
    refine XS.aloadN X0.here hx rfl (hb hby d3_0) rfl rfl ?_
    show Steps p.tables e below (s₁.setTop (mkF m 1 #[.val (.ref a)] [(.ref a)])) _
    refine st1.trans ?_
    show Steps p.tables e below (T1.setTop (mkF m 4 #[.val (.ref a)] [(.int (7 : Int32))])) _
    refine XS.tswIn X1.here hx rfl (o := 93) (pc0 := 4) (pc' := 97) rfl (hb hby d3_4) rfl (by decide) rfl (by decide) (by decide) ?_
    show Steps p.tables e below (T1.setTop (mkF m 97 #[.val (.ref a)] [])) _
    refine st2 _ ?_
    show Steps p.tables e below (T2.setTop (mkF m 99 #[.val (.ref a)] [(.ref a2)])) _
    exact k
  obtain ⟨fs, hr, hrun, hended, hE⟩ := Stand.leaveW (s := s) (vm₁ := T2.vm) X2 hS (by rw [e2]; exact hk) (v := some (.ref a2)) (fun h => by rw [Bd.returns] at h; cases h)
  refine ⟨_, _, w3 _ ?_, hrun, hended, _, _, rfl, ?_, ?_, own_mono hE (by decide) (by decide)⟩
  · jvm_step X2.here [X2.here.top, hx, (hb hby d3_99), X2.method', Bd.returns, Value.isRef, FieldType.isReference]
    first | (intro acts; rw [hr _ acts rfl rfl rfl]) | rw [hr _ _ rfl rfl rfl]
    exact Steps.refl _
  · show Q3_7 Z a  h0 n0 _ T2.heap _
    rw [e2]
    exact ⟨a2, b2, kb2, rfl, N1, K, Ex2, Fc2, Fv2, Av2⟩
  · rw [hh]; show CHr Z consts_1 s.vm h0 T2.vm T2.heap; rw [e2]; exact C.trans (CHv.at X2 hZ hEL C.1)
theorem d5_0 : decode jdk_42_method_66_code 0 = .ok (.aload_n 0, 1) := by decide +kernel
theorem d5_1 : decode jdk_42_method_66_code 1 = .ok (.aload_n 1, 1) := by decide +kernel
theorem d5_2 : decode jdk_42_method_66_code 2 = .ok (.if_acmp .ne 5, 3) := by decide +kernel
theorem d5_7 : decode jdk_42_method_66_code 7 = .ok (.aload_n 1, 1) := by decide +kernel
theorem d5_8 : decode jdk_42_method_66_code 8 = .ok (.instanceof 10, 3) := by decide +kernel
theorem d5_11 : decode jdk_42_method_66_code 11 = .ok (.ifCond .eq 43, 3) := by decide +kernel
theorem d5_54 : decode jdk_42_method_66_code 54 = .ok (.iconst 0, 1) := by decide +kernel
theorem d5_55 : decode jdk_42_method_66_code 55 = .ok (.ireturn, 1) := by decide +kernel
theorem pn_java_lang_String : plainName "java/lang/String" = true := by first | (simp [plainName, overriddenIn]; done) | decide +kernel
theorem ef_5_n (m : MethodId) (x0 : Addr) : entryFrame m #[(.ref x0), .null] 3 = mkF m 0 #[.val (.ref x0), .val .null, .unset] [] := by first | (simp [entryFrame, mkF, argsToLocals, Value.category]; done) | rfl
def Q5_n (Z : State) (a : Addr) (h0 : Heap) (n0 : Nat) (v : Option Value) (h : Heap) (L : List Loc) : Prop := v = some (.int (0 : Int32)) ∧ Fr n0 L ∧ h = h0
set_option maxRecDepth 65536 in
set_option maxHeartbeats 40000000 in
theorem rm5_n (l : Launch) (Z : State) (a0 : Array Value) (hw : ∀ d ∈ tables_1, d.before a0 Z = true) (ws : List Jvm.Cond) (a : Addr) (h0 : Heap) (n0 : Nat) (O0 : Old Z n0 h0) :
    MetFree l (⟨"java/lang/String", "equals", "(Ljava/lang/Object;)Z"⟩ : MethodName) (head1 (Jvm.Cond.code (⟨"java/lang/String", "equals", "(Ljava/lang/Object;)Z"⟩ : MethodName) jdk_42_method_66_code 3 (some .boolean) :: ws) ({ frames := 0, cells := 0, slots := 0, locals := 0 } : Room)) (fun aA uU => aA = #[(.ref a), .null] ∧ Z.Warmed39 uU.vm ∧ uU.heap = h0) (fun _ _ _ _ _ => True) (fun _ uU oO uU' => ∃ vV lL, oO = .returned vV ∧ Q5_n Z a  h0 n0 vV uU'.heap lL ∧ FrameEnd uU oO uU' lL ({ frames := 0, cells := 0, slots := 0, locals := 0 } : Room).cells ({ frames := 0, cells := 0, slots := 0, locals := 0 } : Room).slots) := by
  refine MetFree.of_bodySF (plainFor_of_name pn_java_lang_String) hisR ?_
  intro p e s m args below meth c s₁ Bd hml0 hP hK
  obtain ⟨rfl, hZ, hh⟩ := hP
  have hx := Bd.exec
  have hby := Bd.bytes
  have hml : c.maxLocals = 3 := hml0
  have hown : s.vm.findClass "java/lang/String" = some m.cls := findClass_of_methodNamed Bd.named
  have hnm := (name_of_methodNamed Bd.named Bd.method).1
  have X0 : Stand p l e ({ frames := 0, cells := 0, slots := 0, locals := 0 } : Room) s m #[(.ref a), .null] below meth c s₁ [] 0 0 := Stand.of_body Bd
  have e0 : s₁.heap = h0 := by rw [← hh, Bd.state]; rfl
  have N0 := Fr.nil n0
  have O := O0
  have pre0 : ∀ t, Steps p.tables e below (s₁.setTop (mkF m 0 #[.val (.ref a), .val .null, .unset] [])) t → Steps p.tables e below (s₁.setTop (entryFrame m #[(.ref a), .null] 3)) t := fun t k => castTop (ef_5_n m a) k
  have w1 : ∀ t, Steps p.tables e below (s₁.setTop (mkF m 55 #[.val (.ref a), .val .null, .unset] [(.int (0 : Int32))])) t → Steps p.tables e below (s₁.setTop (entryFrame m #[(.ref a), .null] 3)) t := fun t k => by
    refine pre0 t ?_
    refine XS.aloadN X0.here hx rfl (hb hby d5_0) rfl rfl ?_
    show Steps p.tables e below (s₁.setTop (mkF m 1 #[.val (.ref a), .val .null, .unset] [(.ref a)])) _
    refine XS.aloadN X0.here hx rfl (hb hby d5_1) rfl rfl ?_
    show Steps p.tables e below (s₁.setTop (mkF m 2 #[.val (.ref a), .val .null, .unset] [.null, (.ref a)])) _
    refine Jvm.RoadKit.acmp (g := (mkF m 2 #[.val (.ref a), .val .null, .unset] [.null, (.ref a)])) X0 hx rfl rfl rfl (pc0 := 2) (pc' := 7) (same := false) rfl (hb hby d5_2) rfl (decide_eq_false nofun) (by decide) (by decide) ?_
    show Steps p.tables e below (s₁.setTop (mkF m 7 #[.val (.ref a), .val .null, .unset] [])) _
    refine XS.aloadN X0.here hx rfl (hb hby d5_7) rfl rfl ?_
    show Steps p.tables e below (s₁.setTop (mkF m 8 #[.val (.ref a), .val .null, .unset] [.null])) _
    refine X0.instanceofNull hx (g := (mkF m 8 #[.val (.ref a), .val .null, .unset] [.null])) rfl rfl (hb hby d5_8) _ ?_
    show Steps p.tables e below (s₁.setTop (mkF m 11 #[.val (.ref a), .val .null, .unset] [(.int (0 : Int32))])) _
    refine XS.ifYes X0.here hx rfl (pc0 := 11) (pc' := 54) rfl (hb hby d5_11) rfl ((if0 _ _).trans (teq (rfl : (0 : Int32) = (0 : Int32))).1) (by decide) (by decide) ?_
    show Steps p.tables e below (s₁.setTop (mkF m 54 #[.val (.ref a), .val .null, .unset] [])) _
    refine XS.iconst X0.here hx rfl (hb hby d5_54) ?_
    show Steps p.tables e below (s₁.setTop (mkF m 55 #[.val (.ref a), .val .null, .unset] [(.int (0 : Int32))])) _
    exact k
  obtain ⟨fs, hr, hrun, hended, hW, hsame⟩ := X0.leave (v := some (.int (0 : Int32))) (fun h => by rw [Bd.returns] at h; cases h)
  refine ⟨_, _, w1 _ ?_, hrun, hended, _, _, rfl, ?_, ⟨_, rfl⟩, hW, hsame.mono (by decide) (by decide)⟩
  · exact retN X0 hx (t := .boolean) Bd.returns (by simp) (hb hby d5_55) hr
  · show Q5_n Z a  h0 n0 _ s₁.heap _
    rw [e0]
    exact ⟨rfl, N0, rfl⟩
theorem d7_0 : decode jdk_31_method_10_code 0 = .ok (.aload_n 0, 1) := by decide +kernel
theorem d7_1 : decode jdk_31_method_10_code 1 = .ok (.ifnonnull 11, 3) := by decide +kernel
theorem d7_12 : decode jdk_31_method_10_code 12 = .ok (.aload_n 0, 1) := by decide +kernel
theorem d7_13 : decode jdk_31_method_10_code 13 = .ok (.areturn, 1) := by decide +kernel
theorem pn_java_util_Objects : plainName "java/util/Objects" = true := by first | (simp [plainName, overriddenIn]; done) | decide +kernel
theorem ef_7 (m : MethodId) (x0 : Addr) : entryFrame m #[(.ref x0)] 1 = mkF m 0 #[.val (.ref x0)] [] := by first | (simp [entryFrame, mkF, argsToLocals, Value.category]; done) | rfl
def Q7 (Z : State) (y : Addr) (h0 : Heap) (n0 : Nat) (v : Option Value) (h : Heap) (L : List Loc) : Prop := v = some (.ref y) ∧ Fr n0 L ∧ h = h0
set_option maxRecDepth 65536 in
set_option maxHeartbeats 40000000 in
theorem rm7 (l : Launch) (Z : State) (a0 : Array Value) (hw : ∀ d ∈ tables_1, d.before a0 Z = true) (ws : List Jvm.Cond) (y : Addr) (h0 : Heap) (n0 : Nat) (O0 : Old Z n0 h0) :
    MetFree l (⟨"java/util/Objects", "requireNonNull", "(Ljava/lang/Object;)Ljava/lang/Object;"⟩ : MethodName) (head1 (Jvm.Cond.code (⟨"java/util/Objects", "requireNonNull", "(Ljava/lang/Object;)Ljava/lang/Object;"⟩ : MethodName) jdk_31_method_10_code 1 (some (.object "java/lang/Object")) :: ws) ({ frames := 0, cells := 0, slots := 0, locals := 0 } : Room)) (fun aA uU => aA = #[(.ref y)] ∧ Z.Warmed39 uU.vm ∧ uU.heap = h0) (fun _ _ _ _ _ => True) (fun _ uU oO uU' => ∃ vV lL, oO = .returned vV ∧ Q7 Z y  h0 n0 vV uU'.heap lL ∧ FrameEnd uU oO uU' lL ({ frames := 0, cells := 0, slots := 0, locals := 0 } : Room).cells ({ frames := 0, cells := 0, slots := 0, locals := 0 } : Room).slots) := by
  refine MetFree.of_bodySF (plainFor_of_name pn_java_util_Objects) hisR ?_
  intro p e s m args below meth c s₁ Bd hml0 hP hK
  obtain ⟨rfl, hZ, hh⟩ := hP
  have hx := Bd.exec
  have hby := Bd.bytes
  have hml : c.maxLocals = 1 := hml0
  have hown : s.vm.findClass "java/util/Objects" = some m.cls := findClass_of_methodNamed Bd.named
  have hnm := (name_of_methodNamed Bd.named Bd.method).1
  have X0 : Stand p l e ({ frames := 0, cells := 0, slots := 0, locals := 0 } : Room) s m #[(.ref y)] below meth c s₁ [] 0 0 := Stand.of_body Bd
  have e0 : s₁.heap = h0 := by rw [← hh, Bd.state]; rfl
  have N0 := Fr.nil n0
  have O := O0
  have pre0 : ∀ t, Steps p.tables e below (s₁.setTop (mkF m 0 #[.val (.ref y)] [])) t → Steps p.tables e below (s₁.setTop (entryFrame m #[(.ref y)] 1)) t := fun t k => castTop (ef_7 m y) k
  have w1 : ∀ t, Steps p.tables e below (s₁.setTop (mkF m 13 #[.val (.ref y)] [(.ref y)])) t → Steps p.tables e below (s₁.setTop (entryFrame m #[(.ref y)] 1)) t := fun t k => by
    refine pre0 t ?_
    refine XS.aloadN X0.here hx rfl (hb hby d7_0) rfl rfl ?_
    show Steps p.tables e below (s₁.setTop (mkF m 1 #[.val (.ref y)] [(.ref y)])) _
    refine XS.ifnonnullYes X0.here hx rfl (pc0 := 1) (pc' := 12) rfl (hb hby d7_1) rfl (by decide) (by decide) ?_
    show Steps p.tables e below (s₁.setTop (mkF m 12 #[.val (.ref y)] [])) _
    refine XS.aloadN X0.here hx rfl (hb hby d7_12) rfl rfl ?_
    show Steps p.tables e below (s₁.setTop (mkF m 13 #[.val (.ref y)] [(.ref y)])) _
    exact k
  obtain ⟨fs, hr, hrun, hended, hW, hsame⟩ := X0.leave (v := some (.ref y)) (fun h => by rw [Bd.returns] at h; cases h)
  refine ⟨_, _, w1 _ ?_, hrun, hended, _, _, rfl, ?_, ⟨_, rfl⟩, hW, hsame.mono (by decide) (by decide)⟩
  · jvm_step X0.here [X0.here.top, hx, (hb hby d7_13), X0.method', Bd.returns, Value.isRef, FieldType.isReference]
    first | (intro acts; rw [hr _ acts rfl rfl rfl]) | rw [hr _ _ rfl rfl rfl]
    exact Steps.refl _
  · show Q7 Z y  h0 n0 _ s₁.heap _
    rw [e0]
    exact ⟨rfl, N0, rfl⟩
theorem d8_0 : decode jdk_32_method_2_code 0 = .ok (.aload_n 0, 1) := by decide +kernel
theorem d8_1 : decode jdk_32_method_2_code 1 = .ok (.invokespecial 7, 3) := by decide +kernel
theorem d8_4 : decode jdk_32_method_2_code 4 = .ok (.aload_n 0, 1) := by decide +kernel
theorem d8_5 : decode jdk_32_method_2_code 5 = .ok (.aload_n 1, 1) := by decide +kernel
theorem d8_6 : decode jdk_32_method_2_code 6 = .ok (.putfield 13, 3) := by decide +kernel
theorem d8_9 : decode jdk_32_method_2_code 9 = .ok (.return_, 1) := by decide +kernel
theorem pn_java_util_Optional : plainName "java/util/Optional" = true := by first | (simp [plainName, overriddenIn]; done) | decide +kernel
theorem ef_8 (m : MethodId) (x0 : Addr) (x1 : Addr) : entryFrame m #[(.ref x0), (.ref x1)] 2 = mkF m 0 #[.val (.ref x0), .val (.ref x1)] [] := by first | (simp [entryFrame, mkF, argsToLocals, Value.category]; done) | rfl
def Q8 (Z : State) (a : Addr) (y : Addr) (h0 : Heap) (n0 : Nat) (v : Option Value) (h : Heap) (L : List Loc) : Prop := v = none ∧ Fr n0 L ∧ Keep h0 h [a] ∧ Fld Z h a "java/util/Optional" "value" "Ljava/lang/Object;" (.ref y)
set_option maxRecDepth 65536 in
set_option maxHeartbeats 40000000 in
theorem rm8 (l : Launch) (Z : State) (a0 : Array Value) (hw : ∀ d ∈ tables_1, d.before a0 Z = true) (ws : List Jvm.Cond) (a : Addr) (y : Addr) (h0 : Heap) (n0 : Nat) (O0 : Old Z n0 h0) (E_a : Exa Z h0 a "java/util/Optional") (F_o_a : Fld Z h0 a "java/util/Optional" "value" "Ljava/lang/Object;" .null) (g_a : n0 ≤ a) :
    MetFree l (⟨"java/util/Optional", "<init>", "(Ljava/lang/Object;)V"⟩ : MethodName) (head1 (Jvm.Cond.code (⟨"java/util/Optional", "<init>", "(Ljava/lang/Object;)V"⟩ : MethodName) jdk_32_method_2_code 2 none :: ws) ({ frames := 1, cells := 0, slots := 0, locals := 12 } : Room)) (fun aA uU => aA = #[(.ref a), (.ref y)] ∧ Z.Warmed39 uU.vm ∧ uU.heap = h0) (fun _ _ _ _ _ => True) (fun _ uU oO uU' => ∃ vV lL, oO = .returned vV ∧ Q8 Z a y  h0 n0 vV uU'.heap lL ∧ FrameEnd uU oO uU' lL ({ frames := 1, cells := 0, slots := 0, locals := 12 } : Room).cells ({ frames := 1, cells := 0, slots := 0, locals := 12 } : Room).slots) := by
  refine MetFree.of_bodySF (plainFor_of_name pn_java_util_Optional) hisR ?_
  intro p e s m args below meth c s₁ Bd hml0 hP hK
  obtain ⟨rfl, hZ, hh⟩ := hP
  have hx := Bd.exec
  have hby := Bd.bytes
  have hml : c.maxLocals = 2 := hml0
  have hown : s.vm.findClass "java/util/Optional" = some m.cls := findClass_of_methodNamed Bd.named
  have hnm := (name_of_methodNamed Bd.named Bd.method).1
  have X0 : Stand p l e ({ frames := 1, cells := 0, slots := 0, locals := 12 } : Room) s m #[(.ref a), (.ref y)] below meth c s₁ [] 0 0 := Stand.of_body Bd
  have e0 : s₁.heap = h0 := by rw [← hh, Bd.state]; rfl
  have N0 := Fr.nil n0
  have O := O0
  have K := Keep.refl h0 [a]
  have pre0 : ∀ t, Steps p.tables e below (s₁.setTop (mkF m 0 #[.val (.ref a), .val (.ref y)] [])) t → Steps p.tables e below (s₁.setTop (entryFrame m #[(.ref a), (.ref y)] 2)) t := fun t k => castTop (ef_8 m a y) k
  obtain ⟨T1, X1, e1, st1⟩ := initO X0 hx hZ hown (hw _ (List.mem_of_getElem? (i := 104) rfl)) (hw _ (List.mem_of_getElem? (i := 105) rfl)) (hw _ (List.mem_of_getElem? (i := 106) rfl)) e0 (g := (mkF m 1 #[.val (.ref a), .val (.ref y)] [(.ref a)])) rfl (by rw [hml]; rfl) rfl (hb hby d8_1) (by decide) (W := 0) (by show 2 * 0 + _ ≤ _; exact Nat.le_of_eq rfl) (by decide)
  obtain ⟨T2, h2, X2, e2, W2, st2⟩ := putF X1 hx hZ hown (host := "") (Or.inl (hw _ (List.mem_of_getElem? (i := 107) rfl))) Via.refl e1 F_o_a E_a (Or.inr ⟨(hw _ (List.mem_of_getElem? (i := 108) rfl)), rfl, hnm⟩) (hw _ (List.mem_of_getElem? (i := 95) rfl)) (ty := (.object "java/lang/Object")) (by decide) rfl rfl (g := (mkF m 6 #[.val (.ref a), .val (.ref y)] [(.ref y), (.ref a)])) rfl rfl (hb hby d8_6)
  have F_o_a := F_o_a.same W2
  have E_a := E_a.wr W2
  have O := O.wr W2 g_a
  have K := K.wr W2 (Or.inl (List.mem_of_getElem? (i := 0) rfl))
  have N2 := Fr.snoc X2 N0 g_a
  have w3 : ∀ t, Steps p.tables e below (T2.setTop (mkF m 9 #[.val (.ref a), .val (.ref y)] [])) t → Steps p.tables e below (s₁.setTop (entryFrame m #[(.ref a), (.ref y)] 2)) t := fun t k => by
    refine pre0 t ?_
    refine XS.aloadN X0.here hx rfl (hb hby d8_0) rfl rfl ?_
    show Steps p.tables e below (s₁.setTop (mkF m 1 #[.val (.ref a), .val (.ref y)] [(.ref a)])) _
    refine st1 _ ?_
    show Steps p.tables e below (T1.setTop (mkF m 4 #[.val (.ref a), .val (.ref y)] [])) _
    refine XS.aloadN X1.here hx rfl (hb hby d8_4) rfl rfl ?_
    show Steps p.tables e below (T1.setTop (mkF m 5 #[.val (.ref a), .val (.ref y)] [(.ref a)])) _
    refine XS.aloadN X1.here hx rfl (hb hby d8_5) rfl rfl ?_
    show Steps p.tables e below (T1.setTop (mkF m 6 #[.val (.ref a), .val (.ref y)] [(.ref y), (.ref a)])) _
    refine st2 _ ?_
    show Steps p.tables e below (T2.setTop (mkF m 9 #[.val (.ref a), .val (.ref y)] [])) _
    exact k
  obtain ⟨fs, hr, hrun, hended, hW, hsame⟩ := X2.leave (v := none) (fun _ => rfl)
  refine ⟨_, _, w3 _ ?_, hrun, hended, _, _, rfl, ?_, ⟨_, rfl⟩, hW, hsame.mono (by decide) (by decide)⟩
  · exact X2.returnOut hx Bd.returns (hb hby d8_9) hr
  · show Q8 Z a y  h0 n0 _ T2.heap _
    rw [e2]
    exact ⟨rfl, N2, K, F_o_a⟩
theorem d6_0 : decode jdk_32_method_3_code 0 = .ok (.new 2, 3) := by decide +kernel
theorem d6_3 : decode jdk_32_method_3_code 3 = .ok (.dup, 1) := by decide +kernel
theorem d6_4 : decode jdk_32_method_3_code 4 = .ok (.aload_n 0, 1) := by decide +kernel
theorem d6_5 : decode jdk_32_method_3_code 5 = .ok (.invokestatic 17, 3) := by decide +kernel
theorem pd__40Ljava_47lang_47Object_59_41Ljava_47lang_47Object_59 : parseMethodDescriptor "(Ljava/lang/Object;)Ljava/lang/Object;" = some ⟨[(.object "java/lang/Object")], some (.object "java/lang/Object")⟩ := by decide +kernel
theorem d6_8 : decode jdk_32_method_3_code 8 = .ok (.invokespecial 23, 3) := by decide +kernel
theorem pd__40Ljava_47lang_47Object_59_41V : parseMethodDescriptor "(Ljava/lang/Object;)V" = some ⟨[(.object "java/lang/Object")], none⟩ := by decide +kernel
theorem d6_11 : decode jdk_32_method_3_code 11 = .ok (.areturn, 1) := by decide +kernel
theorem ef_6 (m : MethodId) (x0 : Addr) : entryFrame m #[(.ref x0)] 1 = mkF m 0 #[.val (.ref x0)] [] := by first | (simp [entryFrame, mkF, argsToLocals, Value.category]; done) | rfl
def Q6 (Z : State) (y : Addr) (h0 : Heap) (n0 : Nat) (v : Option Value) (h : Heap) (L : List Loc) : Prop := ∃ z : Addr, v = some (.ref z) ∧ Fr n0 L ∧ Keep h0 h [] ∧ Exa Z h z "java/util/Optional" ∧ Fld Z h z "java/util/Optional" "value" "Ljava/lang/Object;" (.ref y)
set_option maxRecDepth 65536 in
set_option maxHeartbeats 40000000 in
theorem rm6 (l : Launch) (Z : State) (a0 : Array Value) (hw : ∀ d ∈ tables_1, d.before a0 Z = true) (ws : List Jvm.Cond) (y : Addr) (h0 : Heap) (n0 : Nat) (O0 : Old Z n0 h0) :
    MetFree l (⟨"java/util/Optional", "of", "(Ljava/lang/Object;)Ljava/util/Optional;"⟩ : MethodName) (head1 (Jvm.Cond.code (⟨"java/util/Optional", "of", "(Ljava/lang/Object;)Ljava/util/Optional;"⟩ : MethodName) jdk_32_method_3_code 1 (some (.object "java/util/Optional")) :: ws) ({ frames := 2, cells := 1, slots := 1, locals := 26 } : Room)) (fun aA uU => aA = #[(.ref y)] ∧ Z.Warmed39 uU.vm ∧ uU.heap = h0) (fun _ _ _ _ _ => True) (fun _ uU oO uU' => ∃ vV lL, oO = .returned vV ∧ Q6 Z y  h0 n0 vV uU'.heap lL ∧ FrameEnd uU oO uU' lL ({ frames := 2, cells := 1, slots := 1, locals := 26 } : Room).cells ({ frames := 2, cells := 1, slots := 1, locals := 26 } : Room).slots) := by
  refine MetFree.of_bodySF (plainFor_of_name pn_java_util_Optional) hisR ?_
  intro p e s m args below meth c s₁ Bd hml0 hP hK
  obtain ⟨rfl, hZ, hh⟩ := hP
  have hx := Bd.exec
  have hby := Bd.bytes
  have hml : c.maxLocals = 1 := hml0
  have hown : s.vm.findClass "java/util/Optional" = some m.cls := findClass_of_methodNamed Bd.named
  have hnm := (name_of_methodNamed Bd.named Bd.method).1
  have X0 : Stand p l e ({ frames := 2, cells := 1, slots := 1, locals := 26 } : Room) s m #[(.ref y)] below meth c s₁ [] 0 0 := Stand.of_body Bd
  have e0 : s₁.heap = h0 := by rw [← hh, Bd.state]; rfl
  have N0 := Fr.nil n0
  have O := O0
  have K := Keep.refl h0 []
  have pre0 : ∀ t, Steps p.tables e below (s₁.setTop (mkF m 0 #[.val (.ref y)] [])) t → Steps p.tables e below (s₁.setTop (entryFrame m #[(.ref y)] 1)) t := fun t k => castTop (ef_6 m y) k
  obtain ⟨T1, h1, X1, e1, E1, A1, D1, -, st1⟩ := newO X0 hx hZ hown (hw _ (List.mem_of_getElem? (i := 94) rfl)) (hw _ (List.mem_of_getElem? (i := 95) rfl)) (hw _ (List.mem_of_getElem? (i := 92) rfl)) e0 (g := (mkF m 0 #[.val (.ref y)] [])) rfl (hb hby d6_0) (by decide) (by decide)
  obtain ⟨b1, gq1⟩ : ∃ z, z = Array.size h0 := ⟨_, rfl⟩
  rw [← gq1] at A1 D1 st1
  have g_b1 : n0 ≤ b1 := Nat.le_trans (O.1 ▸ O.2.1) (Nat.le_of_eq gq1.symm)
  have z_b1 : h0.size ≤ b1 := Nat.le_trans K.1 (Nat.le_of_eq gq1.symm)
  have O := O.ext E1
  have K := K.ext E1
  have F_value_b1 : Fld Z h1 b1 "java/util/Optional" "value" "Ljava/lang/Object;" .null := D1 (Or.inr (hw _ (List.mem_of_getElem? (i := 108) rfl))) (ty := (.object "java/lang/Object")) (by decide)
  obtain ⟨_, _, ⟨T2, L2, k2, n2⟩, -, X2, ⟨Lc2, hQ2, l2, y2, z2⟩, st2⟩ := Jvm.LawKit.callS X1 hx (y := (⟨"java/util/Objects", "requireNonNull", "(Ljava/lang/Object;)Ljava/lang/Object;"⟩ : MethodName)) hown (mvT hZ (hw _ (List.mem_of_getElem? (i := 96) rfl))) (mvT hZ (hw _ (List.mem_of_getElem? (i := 97) rfl))) (mvT hZ (hw _ (List.mem_of_getElem? (i := 98) rfl))) (mvT hZ (hw _ (List.mem_of_getElem? (i := 99) rfl))) (by decide) (backOf (W := 2) (rm7 l Z a0 hw [] y h1 n0 O ) hZ (hw _ (List.mem_of_getElem? (i := 99) rfl)) (hw _ (List.mem_of_getElem? (i := 98) rfl)) (by decide) (by decide)) (g := (mkF m 5 #[.val (.ref y)] [(.ref y), (.ref b1), (.ref b1)])) rfl (by rw [hml]; rfl) (argsL := [(.ref y)]) (rest := [(.ref b1), (.ref b1)]) (lenOf pd__40Ljava_47lang_47Object_59_41Ljava_47lang_47Object_59 rfl) rfl (by show 2 * 0 + _ ≤ _; exact Nat.le_of_eq rfl) (hb hby d6_5) (fun _ _ => ⟨rfl, e1, (by decide : 1 + 0 ≤ _), (by decide : 1 + 0 ≤ _)⟩)
  dsimp only [Pt.U, Pt.locs, Pt.cells, Pt.slots] at X2 l2 y2 z2 st2 hQ2
  have X2 := own_un X2 l2 y2 z2
  obtain ⟨rfl, N2q, eh2⟩ := hQ2
  have N2 := Fr.app N0 N2q
  obtain ⟨_, _, ⟨T3, L3, k3, n3⟩, -, X3, ⟨Lc3, hQ3, l3, y3, z3⟩, st3⟩ := X2.specialBack hx (y := (⟨"java/util/Optional", "<init>", "(Ljava/lang/Object;)V"⟩ : MethodName)) rfl hown (mvT hZ (hw _ (List.mem_of_getElem? (i := 100) rfl))) (mvT hZ (hw _ (List.mem_of_getElem? (i := 101) rfl))) (mvT hZ (hw _ (List.mem_of_getElem? (i := 103) rfl))) (by decide) (backOf (W := 1) (rm8 l Z a0 hw [] b1 y h1 n0 O A1 F_value_b1 g_b1) hZ (hw _ (List.mem_of_getElem? (i := 103) rfl)) (hw _ (List.mem_of_getElem? (i := 92) rfl)) (by decide) (by decide)) (g := (mkF m 8 #[.val (.ref y)] [(.ref y), (.ref b1), (.ref b1)])) rfl (by rw [hml]; rfl) (Steps.refl _) (a := b1) (argsL := [(.ref y)]) (rest := [(.ref b1)]) (lenOf pd__40Ljava_47lang_47Object_59_41V rfl) rfl (by show 2 * 0 + _ ≤ _; exact Nat.le_of_eq rfl) (hb hby d6_8) (fun _ _ => ⟨rfl, eh2, (by decide : 1 + 0 ≤ _), (by decide : 1 + 0 ≤ _)⟩)
  dsimp only [Pt.U, Pt.locs, Pt.cells, Pt.slots] at X3 l3 y3 z3 st3 hQ3
  have X3 := own_un X3 l3 y3 z3
  obtain ⟨rfl, N3q, K3, F_o_a_c3⟩ := hQ3
  have N3 := Fr.app N2 N3q
  have A1 := A1.keep K3
  have O := O.keep K3 (allS g_b1 all0)
  have K := K.trans K3 (allS (Or.inr z_b1) all0)
  have w4 : ∀ t, Steps p.tables e below (T3.setTop (mkF m 11 #[.val (.ref y)] [(.ref b1)])) t → Steps p.tables e below (s₁.setTop (entryFrame m #[(.ref y)] 1)) t := fun t k => by
    refine pre0 t ?_
    refine st1 _ ?_
    show Steps p.tables e below (T1.setTop (mkF m 3 #[.val (.ref y)] [(.ref b1)])) _
    refine XS.dup X1.here hx rfl (hb hby d6_3) rfl rfl ?_
    show Steps p.tables e below (T1.setTop (mkF m 4 #[.val (.ref y)] [(.ref b1), (.ref b1)])) _
    refine XS.aloadN X1.here hx rfl (hb hby d6_4) rfl rfl ?_
    show Steps p.tables e below (T1.setTop (mkF m 5 #[.val (.ref y)] [(.ref y), (.ref b1), (.ref b1)])) _
    refine st2 _ ?_
    show Steps p.tables e below (T2.setTop (mkF m 8 #[.val (.ref y)] [(.ref y), (.ref b1), (.ref b1)])) _
    refine st3.trans ?_
    show Steps p.tables e below (T3.setTop (mkF m 11 #[.val (.ref y)] [(.ref b1)])) _
    exact k
  obtain ⟨fs, hr, hrun, hended, hW, hsame⟩ := X3.leave (v := some (.ref b1)) (fun h => by rw [Bd.returns] at h; cases h)
  refine ⟨_, _, w4 _ ?_, hrun, hended, _, _, rfl, ?_, ⟨_, rfl⟩, hW, hsame.mono (by decide) (by decide)⟩
  · jvm_step X3.here [X3.here.top, hx, (hb hby d6_11), X3.method', Bd.returns, Value.isRef, FieldType.isReference]
    first | (intro acts; rw [hr _ acts rfl rfl rfl]) | rw [hr _ _ rfl rfl rfl]
    exact Steps.refl _
  · show Q6 Z y  h0 n0 _ T3.heap _
    exact ⟨b1, rfl, N3, K, A1, F_o_a_c3⟩
theorem d12_0 : decode jdk_32_method_1_code 0 = .ok (.getstatic 1, 3) := by decide +kernel
theorem d12_3 : decode jdk_32_method_1_code 3 = .ok (.astore_n 0, 1) := by decide +kernel
theorem d12_4 : decode jdk_32_method_1_code 4 = .ok (.aload_n 0, 1) := by decide +kernel
theorem d12_5 : decode jdk_32_method_1_code 5 = .ok (.areturn, 1) := by decide +kernel
theorem ef_12 (m : MethodId) : entryFrame m #[] 1 = mkF m 0 #[.unset] [] := by first | (simp [entryFrame, mkF, argsToLocals, Value.category]; done) | rfl
def Q12 (Z : State) (s_EMPTY : Addr) (h0 : Heap) (n0 : Nat) (v : Option Value) (h : Heap) (L : List Loc) : Prop := v = some (.ref s_EMPTY) ∧ Fr n0 L ∧ h = h0
set_option maxRecDepth 65536 in
set_option maxHeartbeats 40000000 in
theorem rm12 (l : Launch) (Z : State) (a0 : Array Value) (hw : ∀ d ∈ tables_1, d.before a0 Z = true) (ws : List Jvm.Cond) (s_EMPTY : Addr) (h0 : Heap) (n0 : Nat) (O0 : Old Z n0 h0) (S_s_EMPTY : Sta Z Z.heap "java/util/Optional" "EMPTY" "Ljava/util/Optional;" (.ref s_EMPTY)) :
    MetFree l (⟨"java/util/Optional", "empty", "()Ljava/util/Optional;"⟩ : MethodName) (head1 (Jvm.Cond.code (⟨"java/util/Optional", "empty", "()Ljava/util/Optional;"⟩ : MethodName) jdk_32_method_1_code 1 (some (.object "java/util/Optional")) :: ws) ({ frames := 0, cells := 0, slots := 0, locals := 0 } : Room)) (fun aA uU => aA = #[] ∧ Z.Warmed39 uU.vm ∧ uU.heap = h0) (fun _ _ _ _ _ => True) (fun _ uU oO uU' => ∃ vV lL, oO = .returned vV ∧ Q12 Z  s_EMPTY h0 n0 vV uU'.heap lL ∧ FrameEnd uU oO uU' lL ({ frames := 0, cells := 0, slots := 0, locals := 0 } : Room).cells ({ frames := 0, cells := 0, slots := 0, locals := 0 } : Room).slots) := by
  refine MetFree.of_bodySF (plainFor_of_name pn_java_util_Optional) hisR ?_
  intro p e s m args below meth c s₁ Bd hml0 hP hK
  obtain ⟨rfl, hZ, hh⟩ := hP
  have hx := Bd.exec
  have hby := Bd.bytes
  have hml : c.maxLocals = 1 := hml0
  have hown : s.vm.findClass "java/util/Optional" = some m.cls := findClass_of_methodNamed Bd.named
  have hnm := (name_of_methodNamed Bd.named Bd.method).1
  have X0 : Stand p l e ({ frames := 0, cells := 0, slots := 0, locals := 0 } : Room) s m #[] below meth c s₁ [] 0 0 := Stand.of_body Bd
  have e0 : s₁.heap = h0 := by rw [← hh, Bd.state]; rfl
  have N0 := Fr.nil n0
  have O := O0
  have pre0 : ∀ t, Steps p.tables e below (s₁.setTop (mkF m 0 #[.unset] [])) t → Steps p.tables e below (s₁.setTop (entryFrame m #[] 1)) t := fun t k => castTop (ef_12 m ) k
  obtain ⟨T1, X1, e1, st1⟩ := getS2 X0 hx hZ hown (host := "") (Or.inl (hw _ (List.mem_of_getElem? (i := 132) rfl))) Via.refl e0 (S_s_EMPTY.ext O.2) (g := (mkF m 0 #[.unset] [])) rfl (hb hby d12_0)
  have w2 : ∀ t, Steps p.tables e below (T1.setTop (mkF m 5 #[.val (.ref s_EMPTY)] [(.ref s_EMPTY)])) t → Steps p.tables e below (s₁.setTop (entryFrame m #[] 1)) t := fun t k => by
    refine pre0 t ?_
    refine st1 _ ?_
    show Steps p.tables e below (T1.setTop (mkF m 3 #[.unset] [(.ref s_EMPTY)])) _
    refine XS.astoreN X1.here hx rfl (hb hby d12_3) rfl rfl (l' := #[.val (.ref s_EMPTY)]) rfl ?_
    show Steps p.tables e below (T1.setTop (mkF m 4 #[.val (.ref s_EMPTY)] [])) _
    refine XS.aloadN X1.here hx rfl (hb hby d12_4) rfl rfl ?_
    show Steps p.tables e below (T1.setTop (mkF m 5 #[.val (.ref s_EMPTY)] [(.ref s_EMPTY)])) _
    exact k
  obtain ⟨fs, hr, hrun, hended, hW, hsame⟩ := X1.leave (v := some (.ref s_EMPTY)) (fun h => by rw [Bd.returns] at h; cases h)
  refine ⟨_, _, w2 _ ?_, hrun, hended, _, _, rfl, ?_, ⟨_, rfl⟩, hW, hsame.mono (by decide) (by decide)⟩
  · jvm_step X1.here [X1.here.top, hx, (hb hby d12_5), X1.method', Bd.returns, Value.isRef, FieldType.isReference]
    first | (intro acts; rw [hr _ acts rfl rfl rfl]) | rw [hr _ _ rfl rfl rfl]
    exact Steps.refl _
  · show Q12 Z  s_EMPTY h0 n0 _ T1.heap _
    rw [e1]
    exact ⟨rfl, N0, rfl⟩
theorem d10_0 : decode jdk_32_method_15_code 0 = .ok (.aload_n 0, 1) := by decide +kernel
theorem d10_1 : decode jdk_32_method_15_code 1 = .ok (.getfield 13, 3) := by decide +kernel
theorem d10_4 : decode jdk_32_method_15_code 4 = .ok (.ifnull 10, 3) := by decide +kernel
theorem d10_7 : decode jdk_32_method_15_code 7 = .ok (.aload_n 0, 1) := by decide +kernel
theorem d10_8 : decode jdk_32_method_15_code 8 = .ok (.getfield 13, 3) := by decide +kernel
theorem d10_11 : decode jdk_32_method_15_code 11 = .ok (.goto 4, 3) := by decide +kernel
theorem d10_15 : decode jdk_32_method_15_code 15 = .ok (.areturn, 1) := by decide +kernel
theorem ef_10_y (m : MethodId) (x0 : Addr) : entryFrame m #[(.ref x0), .null] 2 = mkF m 0 #[.val (.ref x0), .val .null] [] := by first | (simp [entryFrame, mkF, argsToLocals, Value.category]; done) | rfl
def Q10_y (Z : State) (a : Addr) (y : Addr) (h0 : Heap) (n0 : Nat) (v : Option Value) (h : Heap) (L : List Loc) : Prop := v = some (.ref y) ∧ Fr n0 L ∧ h = h0
set_option maxRecDepth 65536 in
set_option maxHeartbeats 40000000 in
theorem rm10_y (l : Launch) (Z : State) (a0 : Array Value) (hw : ∀ d ∈ tables_1, d.before a0 Z = true) (ws : List Jvm.Cond) (a : Addr) (y : Addr) (h0 : Heap) (n0 : Nat) (O0 : Old Z n0 h0) (F_o_a : Fld Z h0 a "java/util/Optional" "value" "Ljava/lang/Object;" (.ref y)) :
    MetFree l (⟨"java/util/Optional", "orElse", "(Ljava/lang/Object;)Ljava/lang/Object;"⟩ : MethodName) (head1 (Jvm.Cond.code (⟨"java/util/Optional", "orElse", "(Ljava/lang/Object;)Ljava/lang/Object;"⟩ : MethodName) jdk_32_method_15_code 2 (some (.object "java/lang/Object")) :: ws) ({ frames := 0, cells := 0, slots := 0, locals := 0 } : Room)) (fun aA uU => aA = #[(.ref a), .null] ∧ Z.Warmed39 uU.vm ∧ uU.heap = h0) (fun _ _ _ _ _ => True) (fun _ uU oO uU' => ∃ vV lL, oO = .returned vV ∧ Q10_y Z a y  h0 n0 vV uU'.heap lL ∧ FrameEnd uU oO uU' lL ({ frames := 0, cells := 0, slots := 0, locals := 0 } : Room).cells ({ frames := 0, cells := 0, slots := 0, locals := 0 } : Room).slots) := by
  refine MetFree.of_bodySF (plainFor_of_name pn_java_util_Optional) hisR ?_
  intro p e s m args below meth c s₁ Bd hml0 hP hK
  obtain ⟨rfl, hZ, hh⟩ := hP
  have hx := Bd.exec
  have hby := Bd.bytes
  have hml : c.maxLocals = 2 := hml0
  have hown : s.vm.findClass "java/util/Optional" = some m.cls := findClass_of_methodNamed Bd.named
  have hnm := (name_of_methodNamed Bd.named Bd.method).1
  have X0 : Stand p l e ({ frames := 0, cells := 0, slots := 0, locals := 0 } : Room) s m #[(.ref a), .null] below meth c s₁ [] 0 0 := Stand.of_body Bd
  have e0 : s₁.heap = h0 := by rw [← hh, Bd.state]; rfl
  have N0 := Fr.nil n0
  have O := O0
  have pre0 : ∀ t, Steps p.tables e below (s₁.setTop (mkF m 0 #[.val (.ref a), .val .null] [])) t → Steps p.tables e below (s₁.setTop (entryFrame m #[(.ref a), .null] 2)) t := fun t k => castTop (ef_10_y m a) k
  obtain ⟨T1, X1, e1, st1⟩ := getF X0 hx hZ hown (host := "") (Or.inl (hw _ (List.mem_of_getElem? (i := 107) rfl))) Via.refl e0 F_o_a (g := (mkF m 1 #[.val (.ref a), .val .null] [(.ref a)])) rfl rfl (hb hby d10_1)
  obtain ⟨T2, X2, e2, st2⟩ := getF X1 hx hZ hown (host := "") (Or.inl (hw _ (List.mem_of_getElem? (i := 107) rfl))) Via.refl e1 F_o_a (g := (mkF m 8 #[.val (.ref a), .val .null] [(.ref a)])) rfl rfl (hb hby d10_8)
  have w3 : ∀ t, Steps p.tables e below (T2.setTop (mkF m 15 #[.val (.ref a), .val .null] [(.ref y)])) t → Steps p.tables e below (s₁.setTop (entryFrame m #[(.ref a), .null] 2)) t := fun t k => by
    refine pre0 t ?_
    refine XS.aloadN X0.here hx rfl (hb hby d10_0) rfl rfl ?_
    show Steps p.tables e below (s₁.setTop (mkF m 1 #[.val (.ref a), .val .null] [(.ref a)])) _
    refine st1 _ ?_
    show Steps p.tables e below (T1.setTop (mkF m 4 #[.val (.ref a), .val .null] [(.ref y)])) _
    refine XS.ifnullNo X1.here hx rfl (hb hby d10_4) rfl ?_
    show Steps p.tables e below (T1.setTop (mkF m 7 #[.val (.ref a), .val .null] [])) _
    refine XS.aloadN X1.here hx rfl (hb hby d10_7) rfl rfl ?_
    show Steps p.tables e below (T1.setTop (mkF m 8 #[.val (.ref a), .val .null] [(.ref a)])) _
    refine st2 _ ?_
    show Steps p.tables e below (T2.setTop (mkF m 11 #[.val (.ref a), .val .null] [(.ref y)])) _
    refine XS.goto X2.here hx rfl (pc0 := 11) (pc' := 15) rfl (hb hby d10_11) (by decide) (by decide) ?_
    show Steps p.tables e below (T2.setTop (mkF m 15 #[.val (.ref a), .val .null] [(.ref y)])) _
    exact k
  obtain ⟨fs, hr, hrun, hended, hW, hsame⟩ := X2.leave (v := some (.ref y)) (fun h => by rw [Bd.returns] at h; cases h)
  refine ⟨_, _, w3 _ ?_, hrun, hended, _, _, rfl, ?_, ⟨_, rfl⟩, hW, hsame.mono (by decide) (by decide)⟩
  · jvm_step X2.here [X2.here.top, hx, (hb hby d10_15), X2.method', Bd.returns, Value.isRef, FieldType.isReference]
    first | (intro acts; rw [hr _ acts rfl rfl rfl]) | rw [hr _ _ rfl rfl rfl]
    exact Steps.refl _
  · show Q10_y Z a y  h0 n0 _ T2.heap _
    rw [e2]
    exact ⟨rfl, N0, rfl⟩
theorem d10_14 : decode jdk_32_method_15_code 14 = .ok (.aload_n 1, 1) := by decide +kernel
theorem ef_10_n (m : MethodId) (x0 : Addr) : entryFrame m #[(.ref x0), .null] 2 = mkF m 0 #[.val (.ref x0), .val .null] [] := by first | (simp [entryFrame, mkF, argsToLocals, Value.category]; done) | rfl
def Q10_n (Z : State) (a : Addr) (h0 : Heap) (n0 : Nat) (v : Option Value) (h : Heap) (L : List Loc) : Prop := v = some .null ∧ Fr n0 L ∧ h = h0
set_option maxRecDepth 65536 in
set_option maxHeartbeats 40000000 in
theorem rm10_n (l : Launch) (Z : State) (a0 : Array Value) (hw : ∀ d ∈ tables_1, d.before a0 Z = true) (ws : List Jvm.Cond) (a : Addr) (h0 : Heap) (n0 : Nat) (O0 : Old Z n0 h0) (F_o_a : Fld Z h0 a "java/util/Optional" "value" "Ljava/lang/Object;" .null) :
    MetFree l (⟨"java/util/Optional", "orElse", "(Ljava/lang/Object;)Ljava/lang/Object;"⟩ : MethodName) (head1 (Jvm.Cond.code (⟨"java/util/Optional", "orElse", "(Ljava/lang/Object;)Ljava/lang/Object;"⟩ : MethodName) jdk_32_method_15_code 2 (some (.object "java/lang/Object")) :: ws) ({ frames := 0, cells := 0, slots := 0, locals := 0 } : Room)) (fun aA uU => aA = #[(.ref a), .null] ∧ Z.Warmed39 uU.vm ∧ uU.heap = h0) (fun _ _ _ _ _ => True) (fun _ uU oO uU' => ∃ vV lL, oO = .returned vV ∧ Q10_n Z a  h0 n0 vV uU'.heap lL ∧ FrameEnd uU oO uU' lL ({ frames := 0, cells := 0, slots := 0, locals := 0 } : Room).cells ({ frames := 0, cells := 0, slots := 0, locals := 0 } : Room).slots) := by
  refine MetFree.of_bodySF (plainFor_of_name pn_java_util_Optional) hisR ?_
  intro p e s m args below meth c s₁ Bd hml0 hP hK
  obtain ⟨rfl, hZ, hh⟩ := hP
  have hx := Bd.exec
  have hby := Bd.bytes
  have hml : c.maxLocals = 2 := hml0
  have hown : s.vm.findClass "java/util/Optional" = some m.cls := findClass_of_methodNamed Bd.named
  have hnm := (name_of_methodNamed Bd.named Bd.method).1
  have X0 : Stand p l e ({ frames := 0, cells := 0, slots := 0, locals := 0 } : Room) s m #[(.ref a), .null] below meth c s₁ [] 0 0 := Stand.of_body Bd
  have e0 : s₁.heap = h0 := by rw [← hh, Bd.state]; rfl
  have N0 := Fr.nil n0
  have O := O0
  have pre0 : ∀ t, Steps p.tables e below (s₁.setTop (mkF m 0 #[.val (.ref a), .val .null] [])) t → Steps p.tables e below (s₁.setTop (entryFrame m #[(.ref a), .null] 2)) t := fun t k => castTop (ef_10_n m a) k
  obtain ⟨T1, X1, e1, st1⟩ := getF X0 hx hZ hown (host := "") (Or.inl (hw _ (List.mem_of_getElem? (i := 107) rfl))) Via.refl e0 F_o_a (g := (mkF m 1 #[.val (.ref a), .val .null] [(.ref a)])) rfl rfl (hb hby d10_1)
  have w2 : ∀ t, Steps p.tables e below (T1.setTop (mkF m 15 #[.val (.ref a), .val .null] [.null])) t → Steps p.tables e below (s₁.setTop (entryFrame m #[(.ref a), .null] 2)) t := fun t k => by
    refine pre0 t ?_
    refine XS.aloadN X0.here hx rfl (hb hby d10_0) rfl rfl ?_
    show Steps p.tables e below (s₁.setTop (mkF m 1 #[.val (.ref a), .val .null] [(.ref a)])) _
    refine st1 _ ?_
    show Steps p.tables e below (T1.setTop (mkF m 4 #[.val (.ref a), .val .null] [.null])) _
    refine XS.ifnullYes X1.here hx rfl (pc0 := 4) (pc' := 14) rfl (hb hby d10_4) rfl (by decide) (by decide) ?_
    show Steps p.tables e below (T1.setTop (mkF m 14 #[.val (.ref a), .val .null] [])) _
    refine XS.aloadN X1.here hx rfl (hb hby d10_14) rfl rfl ?_
    show Steps p.tables e below (T1.setTop (mkF m 15 #[.val (.ref a), .val .null] [.null])) _
    exact k
  obtain ⟨fs, hr, hrun, hended, hW, hsame⟩ := X1.leave (v := some .null) (fun h => by rw [Bd.returns] at h; cases h)
  refine ⟨_, _, w2 _ ?_, hrun, hended, _, _, rfl, ?_, ⟨_, rfl⟩, hW, hsame.mono (by decide) (by decide)⟩
  · jvm_step X1.here [X1.here.top, hx, (hb hby d10_15), X1.method', Bd.returns, Value.isRef, FieldType.isReference]
    first | (intro acts; rw [hr _ acts rfl rfl rfl]) | rw [hr _ _ rfl rfl rfl]
    exact Steps.refl _
  · show Q10_n Z a  h0 n0 _ T1.heap _
    rw [e1]
    exact ⟨rfl, N0, rfl⟩
theorem d1_0 : decode prog_1_method_4_code 0 = .ok (.invokestatic 47, 3) := by decide +kernel
theorem pd__40_41_91Lcom_47example_47querent_47querent_47translation_47Aggregation_59 : parseMethodDescriptor "()[Lcom/example/querent/querent/translation/Aggregation;" = some ⟨[], some (.array (.object "com/example/querent/querent/translation/Aggregation"))⟩ := by decide +kernel
theorem d1_3 : decode prog_1_method_4_code 3 = .ok (.astore_n 1, 1) := by decide +kernel
theorem d1_4 : decode prog_1_method_4_code 4 = .ok (.aload_n 1, 1) := by decide +kernel
theorem d1_5 : decode prog_1_method_4_code 5 = .ok (.arraylength, 1) := by decide +kernel
theorem d1_6 : decode prog_1_method_4_code 6 = .ok (.istore_n 2, 1) := by decide +kernel
theorem d1_7 : decode prog_1_method_4_code 7 = .ok (.iconst 0, 1) := by decide +kernel
theorem d1_8 : decode prog_1_method_4_code 8 = .ok (.istore_n 3, 1) := by decide +kernel
theorem d1_9 : decode prog_1_method_4_code 9 = .ok (.iload_n 3, 1) := by decide +kernel
theorem d1_10 : decode prog_1_method_4_code 10 = .ok (.iload_n 2, 1) := by decide +kernel
theorem d1_11 : decode prog_1_method_4_code 11 = .ok (.if_icmp .ge 32, 3) := by decide +kernel
theorem d1_14 : decode prog_1_method_4_code 14 = .ok (.aload_n 1, 1) := by decide +kernel
theorem d1_15 : decode prog_1_method_4_code 15 = .ok (.iload_n 3, 1) := by decide +kernel
theorem d1_16 : decode prog_1_method_4_code 16 = .ok (.aaload, 1) := by decide +kernel
theorem d1_17 : decode prog_1_method_4_code 17 = .ok (.astore 4, 2) := by decide +kernel
theorem d1_19 : decode prog_1_method_4_code 19 = .ok (.aload 4, 2) := by decide +kernel
theorem d1_21 : decode prog_1_method_4_code 21 = .ok (.invokevirtual 51, 3) := by decide +kernel
theorem pd__40_41Ljava_47lang_47String_59 : parseMethodDescriptor "()Ljava/lang/String;" = some ⟨[], some (.object "java/lang/String")⟩ := by decide +kernel
theorem d1_24 : decode prog_1_method_4_code 24 = .ok (.aload_n 0, 1) := by decide +kernel
theorem d1_25 : decode prog_1_method_4_code 25 = .ok (.invokevirtual 55, 3) := by decide +kernel
theorem own_cod_99_111_117_110_116 : StrChars.Road.CodA ([(99 : Int32), (111 : Int32), (117 : Int32), (110 : Int32), (116 : Int32)] : List Int32) 0 (5 : Int32) [(.int (99 : Int32)), (.int (111 : Int32)), (.int (117 : Int32)), (.int (110 : Int32)), (.int (116 : Int32))] := Or.inl ⟨rfl, rfl, by decide +kernel, by decide +kernel⟩
theorem own_cod_99_111_117_110_116b : ∀ c ∈ ([(99 : Int32), (111 : Int32), (117 : Int32), (110 : Int32), (116 : Int32)] : List Int32), ¬ c < 0 ∧ ¬ (65535 : Int32) < c := by decide +kernel
theorem pd__40Ljava_47lang_47Object_59_41Z : parseMethodDescriptor "(Ljava/lang/Object;)Z" = some ⟨[(.object "java/lang/Object")], some .boolean⟩ := by decide +kernel
theorem d1_28 : decode prog_1_method_4_code 28 = .ok (.ifCond .eq 9, 3) := by decide +kernel
theorem d1_37 : decode prog_1_method_4_code 37 = .ok (.iinc 3 1, 3) := by decide +kernel
theorem d1_40 : decode prog_1_method_4_code 40 = .ok (.goto (-31), 3) := by decide +kernel
theorem own_cod_115_117_109_73_110_116_101_103_101_114 : StrChars.Road.CodA ([(115 : Int32), (117 : Int32), (109 : Int32), (73 : Int32), (110 : Int32), (116 : Int32), (101 : Int32), (103 : Int32), (101 : Int32), (114 : Int32)] : List Int32) 0 (10 : Int32) [(.int (115 : Int32)), (.int (117 : Int32)), (.int (109 : Int32)), (.int (73 : Int32)), (.int (110 : Int32)), (.int (116 : Int32)), (.int (101 : Int32)), (.int (103 : Int32)), (.int (101 : Int32)), (.int (114 : Int32))] := Or.inl ⟨rfl, rfl, by decide +kernel, by decide +kernel⟩
theorem own_cod_115_117_109_73_110_116_101_103_101_114b : ∀ c ∈ ([(115 : Int32), (117 : Int32), (109 : Int32), (73 : Int32), (110 : Int32), (116 : Int32), (101 : Int32), (103 : Int32), (101 : Int32), (114 : Int32)] : List Int32), ¬ c < 0 ∧ ¬ (65535 : Int32) < c := by decide +kernel
theorem own_cod_115_117_109_76_111_110_103 : StrChars.Road.CodA ([(115 : Int32), (117 : Int32), (109 : Int32), (76 : Int32), (111 : Int32), (110 : Int32), (103 : Int32)] : List Int32) 0 (7 : Int32) [(.int (115 : Int32)), (.int (117 : Int32)), (.int (109 : Int32)), (.int (76 : Int32)), (.int (111 : Int32)), (.int (110 : Int32)), (.int (103 : Int32))] := Or.inl ⟨rfl, rfl, by decide +kernel, by decide +kernel⟩
theorem own_cod_115_117_109_76_111_110_103b : ∀ c ∈ ([(115 : Int32), (117 : Int32), (109 : Int32), (76 : Int32), (111 : Int32), (110 : Int32), (103 : Int32)] : List Int32), ¬ c < 0 ∧ ¬ (65535 : Int32) < c := by decide +kernel
theorem own_cod_115_117_109_68_111_117_98_108_101 : StrChars.Road.CodA ([(115 : Int32), (117 : Int32), (109 : Int32), (68 : Int32), (111 : Int32), (117 : Int32), (98 : Int32), (108 : Int32), (101 : Int32)] : List Int32) 0 (9 : Int32) [(.int (115 : Int32)), (.int (117 : Int32)), (.int (109 : Int32)), (.int (68 : Int32)), (.int (111 : Int32)), (.int (117 : Int32)), (.int (98 : Int32)), (.int (108 : Int32)), (.int (101 : Int32))] := Or.inl ⟨rfl, rfl, by decide +kernel, by decide +kernel⟩
theorem own_cod_115_117_109_68_111_117_98_108_101b : ∀ c ∈ ([(115 : Int32), (117 : Int32), (109 : Int32), (68 : Int32), (111 : Int32), (117 : Int32), (98 : Int32), (108 : Int32), (101 : Int32)] : List Int32), ¬ c < 0 ∧ ¬ (65535 : Int32) < c := by decide +kernel
theorem own_cod_115_117_109_66_105_103_68_101_99_105_109_97_108 : StrChars.Road.CodA ([(115 : Int32), (117 : Int32), (109 : Int32), (66 : Int32), (105 : Int32), (103 : Int32), (68 : Int32), (101 : Int32), (99 : Int32), (105 : Int32), (109 : Int32), (97 : Int32), (108 : Int32)] : List Int32) 0 (13 : Int32) [(.int (115 : Int32)), (.int (117 : Int32)), (.int (109 : Int32)), (.int (66 : Int32)), (.int (105 : Int32)), (.int (103 : Int32)), (.int (68 : Int32)), (.int (101 : Int32)), (.int (99 : Int32)), (.int (105 : Int32)), (.int (109 : Int32)), (.int (97 : Int32)), (.int (108 : Int32))] := Or.inl ⟨rfl, rfl, by decide +kernel, by decide +kernel⟩
theorem own_cod_115_117_109_66_105_103_68_101_99_105_109_97_108b : ∀ c ∈ ([(115 : Int32), (117 : Int32), (109 : Int32), (66 : Int32), (105 : Int32), (103 : Int32), (68 : Int32), (101 : Int32), (99 : Int32), (105 : Int32), (109 : Int32), (97 : Int32), (108 : Int32)] : List Int32), ¬ c < 0 ∧ ¬ (65535 : Int32) < c := by decide +kernel
theorem own_cod_109_105_110 : StrChars.Road.CodA ([(109 : Int32), (105 : Int32), (110 : Int32)] : List Int32) 0 (3 : Int32) [(.int (109 : Int32)), (.int (105 : Int32)), (.int (110 : Int32))] := Or.inl ⟨rfl, rfl, by decide +kernel, by decide +kernel⟩
theorem own_cod_109_105_110b : ∀ c ∈ ([(109 : Int32), (105 : Int32), (110 : Int32)] : List Int32), ¬ c < 0 ∧ ¬ (65535 : Int32) < c := by decide +kernel
theorem own_cod_109_97_120 : StrChars.Road.CodA ([(109 : Int32), (97 : Int32), (120 : Int32)] : List Int32) 0 (3 : Int32) [(.int (109 : Int32)), (.int (97 : Int32)), (.int (120 : Int32))] := Or.inl ⟨rfl, rfl, by decide +kernel, by decide +kernel⟩
theorem own_cod_109_97_120b : ∀ c ∈ ([(109 : Int32), (97 : Int32), (120 : Int32)] : List Int32), ¬ c < 0 ∧ ¬ (65535 : Int32) < c := by decide +kernel
theorem own_cod_97_118_103 : StrChars.Road.CodA ([(97 : Int32), (118 : Int32), (103 : Int32)] : List Int32) 0 (3 : Int32) [(.int (97 : Int32)), (.int (118 : Int32)), (.int (103 : Int32))] := Or.inl ⟨rfl, rfl, by decide +kernel, by decide +kernel⟩
theorem own_cod_97_118_103b : ∀ c ∈ ([(97 : Int32), (118 : Int32), (103 : Int32)] : List Int32), ¬ c < 0 ∧ ¬ (65535 : Int32) < c := by decide +kernel
theorem d1_43 : decode prog_1_method_4_code 43 = .ok (.invokestatic 67, 3) := by decide +kernel
theorem pd__40_41Ljava_47util_47Optional_59 : parseMethodDescriptor "()Ljava/util/Optional;" = some ⟨[], some (.object "java/util/Optional")⟩ := by decide +kernel
theorem d1_46 : decode prog_1_method_4_code 46 = .ok (.areturn, 1) := by decide +kernel
theorem d1_31 : decode prog_1_method_4_code 31 = .ok (.aload 4, 2) := by decide +kernel
theorem d1_33 : decode prog_1_method_4_code 33 = .ok (.invokestatic 61, 3) := by decide +kernel
theorem pd__40Ljava_47lang_47Object_59_41Ljava_47util_47Optional_59 : parseMethodDescriptor "(Ljava/lang/Object;)Ljava/util/Optional;" = some ⟨[(.object "java/lang/Object")], some (.object "java/util/Optional")⟩ := by decide +kernel
theorem d1_36 : decode prog_1_method_4_code 36 = .ok (.areturn, 1) := by decide +kernel
theorem ef_1 (m : MethodId) (x0 : Addr) : entryFrame m #[(.ref x0)] 5 = mkF m 0 #[.val (.ref x0), .unset, .unset, .unset, .unset] [] := by first | (simp [entryFrame, mkF, argsToLocals, Value.category]; done) | rfl
def Q1 (Z : State) (a : Addr) (t1 : Addr) (kb : ClassId) (cs : List Int32) (nn : Int32) (vs : List Value) (kv : ClassId) (zc : Int32) (s_VALUES : Addr) (s_COUNT : Addr) (s_SUM_INTEGER : Addr) (s_SUM_LONG : Addr) (s_SUM_DOUBLE : Addr) (s_SUM_BIG_DECIMAL : Addr) (s_MIN : Addr) (s_MAX : Addr) (s_AVG : Addr) (s_EMPTY : Addr) (h0 : Heap) (n0 : Nat) (v : Option Value) (h : Heap) (L : List Loc) : Prop := ∃ z : Addr, v = some (.ref z) ∧ Fr n0 L ∧ Keep h0 h [] ∧ Exa Z h z "java/util/Optional" ∧ Fld Z h z "java/util/Optional" "value" "Ljava/lang/Object;" (own_ag cs (.ref s_COUNT) (.ref s_SUM_INTEGER) (.ref s_SUM_LONG) (.ref s_SUM_DOUBLE) (.ref s_SUM_BIG_DECIMAL) (.ref s_MIN) (.ref s_MAX) (.ref s_AVG))
set_option maxRecDepth 65536 in
set_option maxHeartbeats 40000000 in
theorem rm1 (l : Launch) (Z : State) (a0 : Array Value) (hw : ∀ d ∈ tables_1, d.before a0 Z = true) (ws : List Jvm.Cond) (a : Addr) (t1 : Addr) (kb : ClassId) (cs : List Int32) (nn : Int32) (vs : List Value) (kv : ClassId) (zc : Int32) (s_VALUES : Addr) (s_COUNT : Addr) (s_SUM_INTEGER : Addr) (s_SUM_LONG : Addr) (s_SUM_DOUBLE : Addr) (s_SUM_BIG_DECIMAL : Addr) (s_MIN : Addr) (s_MAX : Addr) (s_AVG : Addr) (s_EMPTY : Addr) (h0 : Heap) (n0 : Nat) (O0 : Old Z n0 h0) (S_s_VALUES : Sta Z Z.heap "com/example/querent/querent/translation/Aggregation" "$VALUES" "[Lcom/example/querent/querent/translation/Aggregation;" (.ref s_VALUES)) (S_s_COUNT : Sta Z Z.heap "com/example/querent/querent/translation/Aggregation" "COUNT" "Lcom/example/querent/querent/translation/Aggregation;" (.ref s_COUNT)) (S_s_SUM_INTEGER : Sta Z Z.heap "com/example/querent/querent/translation/Aggregation" "SUM_INTEGER" "Lcom/example/querent/querent/translation/Aggregation;" (.ref s_SUM_INTEGER)) (S_s_SUM_LONG : Sta Z Z.heap "com/example/querent/querent/translation/Aggregation" "SUM_LONG" "Lcom/example/querent/querent/translation/Aggregation;" (.ref s_SUM_LONG)) (S_s_SUM_DOUBLE : Sta Z Z.heap "com/example/querent/querent/translation/Aggregation" "SUM_DOUBLE" "Lcom/example/querent/querent/translation/Aggregation;" (.ref s_SUM_DOUBLE)) (S_s_SUM_BIG_DECIMAL : Sta Z Z.heap "com/example/querent/querent/translation/Aggregation" "SUM_BIG_DECIMAL" "Lcom/example/querent/querent/translation/Aggregation;" (.ref s_SUM_BIG_DECIMAL)) (S_s_MIN : Sta Z Z.heap "com/example/querent/querent/translation/Aggregation" "MIN" "Lcom/example/querent/querent/translation/Aggregation;" (.ref s_MIN)) (S_s_MAX : Sta Z Z.heap "com/example/querent/querent/translation/Aggregation" "MAX" "Lcom/example/querent/querent/translation/Aggregation;" (.ref s_MAX)) (S_s_AVG : Sta Z Z.heap "com/example/querent/querent/translation/Aggregation" "AVG" "Lcom/example/querent/querent/translation/Aggregation;" (.ref s_AVG)) (S_s_EMPTY : Sta Z Z.heap "java/util/Optional" "EMPTY" "Ljava/util/Optional;" (.ref s_EMPTY)) (E_a : Exa Z h0 a "java/lang/String") (F_v_a : Fld Z h0 a "java/lang/String" "value" "[B" (.ref t1)) (F_c_a : Fld Z h0 a "java/lang/String" "coder" "B" (.int (0 : Int32))) (V_t1 : Arv Z h0 t1 kb .byte nn vs (.int (0 : Int32))) (cod : StrChars.Road.CodA cs 0 nn vs) (bd : ∀ c ∈ cs, ¬ c < 0 ∧ ¬ (65535 : Int32) < c) (hl : cs.length ≤ 4000) (o_E_s_VALUES : Exa Z Z.heap s_VALUES "[Lcom/example/querent/querent/translation/Aggregation;") (o_V_s_VALUES : Arv Z Z.heap s_VALUES kv (.object "com/example/querent/querent/translation/Aggregation") (8 : Int32) [(.ref s_COUNT), (.ref s_SUM_INTEGER), (.ref s_SUM_LONG), (.ref s_SUM_DOUBLE), (.ref s_SUM_BIG_DECIMAL), (.ref s_MIN), (.ref s_MAX), (.ref s_AVG)] .null) (o_E_s_EMPTY : Exa Z Z.heap s_EMPTY "java/util/Optional") (o_F_o_s_EMPTY : Fld Z Z.heap s_EMPTY "java/util/Optional" "value" "Ljava/lang/Object;" .null) (o_E_s_COUNT : Exa Z Z.heap s_COUNT "com/example/querent/querent/translation/Aggregation") (o_F_ordinal_s_COUNT : Fld Z Z.heap s_COUNT "java/lang/Enum" "ordinal" "I" (.int (0 : Int32))) (o_E_s_SUM_INTEGER : Exa Z Z.heap s_SUM_INTEGER "com/example/querent/querent/translation/Aggregation") (o_F_ordinal_s_SUM_INTEGER : Fld Z Z.heap s_SUM_INTEGER "java/lang/Enum" "ordinal" "I" (.int (1 : Int32))) (o_E_s_SUM_LONG : Exa Z Z.heap s_SUM_LONG "com/example/querent/querent/translation/Aggregation") (o_F_ordinal_s_SUM_LONG : Fld Z Z.heap s_SUM_LONG "java/lang/Enum" "ordinal" "I" (.int (2 : Int32))) (o_E_s_SUM_DOUBLE : Exa Z Z.heap s_SUM_DOUBLE "com/example/querent/querent/translation/Aggregation") (o_F_ordinal_s_SUM_DOUBLE : Fld Z Z.heap s_SUM_DOUBLE "java/lang/Enum" "ordinal" "I" (.int (3 : Int32))) (o_E_s_SUM_BIG_DECIMAL : Exa Z Z.heap s_SUM_BIG_DECIMAL "com/example/querent/querent/translation/Aggregation") (o_F_ordinal_s_SUM_BIG_DECIMAL : Fld Z Z.heap s_SUM_BIG_DECIMAL "java/lang/Enum" "ordinal" "I" (.int (4 : Int32))) (o_E_s_MIN : Exa Z Z.heap s_MIN "com/example/querent/querent/translation/Aggregation") (o_F_ordinal_s_MIN : Fld Z Z.heap s_MIN "java/lang/Enum" "ordinal" "I" (.int (5 : Int32))) (o_E_s_MAX : Exa Z Z.heap s_MAX "com/example/querent/querent/translation/Aggregation") (o_F_ordinal_s_MAX : Fld Z Z.heap s_MAX "java/lang/Enum" "ordinal" "I" (.int (6 : Int32))) (o_E_s_AVG : Exa Z Z.heap s_AVG "com/example/querent/querent/translation/Aggregation") (o_F_ordinal_s_AVG : Fld Z Z.heap s_AVG "java/lang/Enum" "ordinal" "I" (.int (7 : Int32))) (SC : Sta Z Z.heap "java/lang/String" "COMPACT_STRINGS" "Z" (.int zc)) (hzc : ¬ zc = 0) :
    MetFree l (⟨"com/example/querent/querent/translation/Aggregation", "of", "(Ljava/lang/String;)Ljava/util/Optional;"⟩ : MethodName) (head1 (Jvm.Cond.code (⟨"com/example/querent/querent/translation/Aggregation", "of", "(Ljava/lang/String;)Ljava/util/Optional;"⟩ : MethodName) prog_1_method_4_code 5 (some (.object "java/util/Optional")) :: ws) ({ frames := 3, cells := 18, slots := 253, locals := 38 } : Room)) (fun aA uU => aA = #[(.ref a)] ∧ Z.Warmed39 uU.vm ∧ uU.heap = h0 ∧ CHv Z consts_1 uU.vm h0) (fun _ _ _ _ _ => True) (fun _ uU oO uU' => ∃ vV lL, oO = .returned vV ∧ Q1 Z a t1 kb cs nn vs kv zc s_VALUES s_COUNT s_SUM_INTEGER s_SUM_LONG s_SUM_DOUBLE s_SUM_BIG_DECIMAL s_MIN s_MAX s_AVG s_EMPTY h0 n0 vV uU'.heap lL ∧ CHr Z consts_1 uU.vm uU.heap uU'.vm uU'.heap ∧ ReturnedEndW uU oO uU' lL ({ frames := 3, cells := 18, slots := 253, locals := 38 } : Room).cells ({ frames := 3, cells := 18, slots := 253, locals := 38 } : Room).slots) := by
  refine MetFree.of_bodySF (plainFor_of_name pn_com_example_querent_querent_translation_Aggregation) hisR ?_
  intro p e s m args below meth c s₁ Bd hml0 hP hK
  obtain ⟨rfl, hZ, hh, H0⟩ := hP
  have hx := Bd.exec
  have hby := Bd.bytes
  have hml : c.maxLocals = 5 := hml0
  have hown : s.vm.findClass "com/example/querent/querent/translation/Aggregation" = some m.cls := findClass_of_methodNamed Bd.named
  have hnm := (name_of_methodNamed Bd.named Bd.method).1
  have X0 : Stand p l e ({ frames := 3, cells := 18, slots := 253, locals := 38 } : Room) (s.setVm s.vm) m #[(.ref a)] below meth c s₁ [] 0 0 := Stand.of_body Bd
  have e0 : s₁.heap = h0 := by rw [← hh, Bd.state]; rfl
  have N0 := Fr.nil n0
  have O := O0
  have K := Keep.refl h0 []
  have hS : s.Since s.vm h0.size := own_since s _
  have hk : h0.size ≤ h0.size := Nat.le_refl _
  have C : CHr Z consts_1 s.vm h0 s.vm h0 := CHr.refl H0
  have hEL := own_EW hw
  have hSA := own_wS hw
  have pre0 : ∀ t, Steps p.tables e below (s₁.setTop (mkF m 0 #[.val (.ref a), .unset, .unset, .unset, .unset] [])) t → Steps p.tables e below (s₁.setTop (entryFrame m #[(.ref a)] 5)) t := fun t k => castTop (ef_1 m a) k
  have E_s_VALUES := o_E_s_VALUES.ext O.2
  have V_s_VALUES := o_V_s_VALUES.ext O.2
  have lt1_a := E_a.lt
  have lt1_t1 := V_t1.lt
  obtain ⟨_, _, ⟨T1, L1, k1, n1⟩, -, X1, ⟨Lc1, hQ1, l1, y1, z1⟩, st1⟩ := Jvm.LawKit.callS X0 hx (y := (⟨"com/example/querent/querent/translation/Aggregation", "values", "()[Lcom/example/querent/querent/translation/Aggregation;"⟩ : MethodName)) hown (mvT hZ (hw _ (List.mem_of_getElem? (i := 55) rfl))) (mvT hZ (hw _ (List.mem_of_getElem? (i := 56) rfl))) (mvT hZ (hw _ (List.mem_of_getElem? (i := 35) rfl))) (mvT hZ (hw _ (List.mem_of_getElem? (i := 57) rfl))) (by decide) (backOf (W := 0) (rm2 l Z a0 hw [] kv s_VALUES s_COUNT s_SUM_INTEGER s_SUM_LONG s_SUM_DOUBLE s_SUM_BIG_DECIMAL s_MIN s_MAX s_AVG h0 n0 O S_s_VALUES S_s_COUNT S_s_SUM_INTEGER S_s_SUM_LONG S_s_SUM_DOUBLE S_s_SUM_BIG_DECIMAL S_s_MIN S_s_MAX S_s_AVG V_s_VALUES E_s_VALUES) hZ (hw _ (List.mem_of_getElem? (i := 57) rfl)) (hw _ (List.mem_of_getElem? (i := 35) rfl)) (by decide) (by decide)) (g := (mkF m 0 #[.val (.ref a), .unset, .unset, .unset, .unset] [])) rfl (by rw [hml]; rfl) (argsL := []) (rest := []) (lenOf pd__40_41_91Lcom_47example_47querent_47querent_47translation_47Aggregation_59 rfl) rfl (by show 2 * 0 + _ ≤ _; exact Nat.le_of_eq rfl) (hb hby d1_0) (fun _ _ => ⟨rfl, e0, (by decide : 0 + 1 ≤ _), (by decide : 0 + 8 ≤ _)⟩)
  dsimp only [Pt.U, Pt.locs, Pt.cells, Pt.slots] at X1 l1 y1 z1 st1 hQ1
  have X1 := own_un X1 l1 y1 z1
  obtain ⟨z_1, rfl, N1q, K1, V_z_c1, gz_1, gn_1⟩ := hQ1
  have N1 := Fr.app N0 N1q
  have R := CHr.keep K1 all0 C.1
  have C := C.trans R
  have hk := Nat.le_trans hk K1.1
  have E_a := E_a.keep K1
  have F_v_a := F_v_a.keep K1 nin0
  have F_c_a := F_c_a.keep K1 nin0
  have V_t1 := V_t1.keep K1 nin0
  have E_s_VALUES := E_s_VALUES.keep K1
  have V_s_VALUES := V_s_VALUES.keep K1 nin0
  have ne_a_z_1 : a ≠ z_1 := Nat.ne_of_lt (Nat.lt_of_lt_of_le lt1_a gz_1)
  have ne_t1_z_1 : t1 ≠ z_1 := Nat.ne_of_lt (Nat.lt_of_lt_of_le lt1_t1 gz_1)
  have g_z_1 := gn_1
  have z_z_1 : h0.size ≤ z_1 := Nat.le_trans K.1 gz_1
  have O := O.keep K1 all0
  have K := K.trans K1 all0
  obtain ⟨cl2, Ar2, -, Z2, N2, -, -⟩ := id V_z_c1
  obtain ⟨cl3, Ar3, q3, Z3, N3, H3, G3⟩ := id V_z_c1
  have hin3 : ¬ ((0 : Int32) < 0 ∨ cl3.slots.size ≤ ((0 : Int32)).toNatClampNeg) := inb_of Z3 ⟨by decide, by decide⟩
  have hat3 : cl3.slots[((0 : Int32)).toNatClampNeg]? = some (.ref s_COUNT) := H3.at hin3 rfl
  have E_s_COUNT := o_E_s_COUNT.ext O.2
  have F_ordinal_s_COUNT := o_F_ordinal_s_COUNT.ext O.2
  have w4 : ∀ t, Steps p.tables e below (T1.setTop (mkF m 21 #[.val (.ref a), .val (.ref z_1), .val (.int (8 : Int32)), .val (.int (0 : Int32)), .val (.ref s_COUNT)] [(.ref s_COUNT)])) t → Steps p.tables e below (s₁.setTop (entryFrame m #[(.ref a)] 5)) t := fun t k => by
    refine pre0 t ?_
    refine st1 _ ?_
    show Steps p.tables e below (T1.setTop (mkF m 3 #[.val (.ref a), .unset, .unset, .unset, .unset] [(.ref z_1)])) _
    refine XS.astoreN X1.here hx rfl (hb hby d1_3) rfl rfl (l' := #[.val (.ref a), .val (.ref z_1), .unset, .unset, .unset]) rfl ?_
    show Steps p.tables e below (T1.setTop (mkF m 4 #[.val (.ref a), .val (.ref z_1), .unset, .unset, .unset] [])) _
    refine XS.aloadN X1.here hx rfl (hb hby d1_4) rfl rfl ?_
    show Steps p.tables e below (T1.setTop (mkF m 5 #[.val (.ref a), .val (.ref z_1), .unset, .unset, .unset] [(.ref z_1)])) _
    refine X1.arraylength hx (by exact Ar2.1) (State.isArrayOf_alike hZ.alike Ar2.2.1) (g := (mkF m 5 #[.val (.ref a), .val (.ref z_1), .unset, .unset, .unset] [(.ref z_1)])) rfl rfl (hb hby d1_5) _ ?_
    rw [len_of Z2 N2]
    show Steps p.tables e below (T1.setTop (mkF m 6 #[.val (.ref a), .val (.ref z_1), .unset, .unset, .unset] [(.int (8 : Int32))])) _
    refine XS.istoreN X1.here hx rfl (hb hby d1_6) rfl (l' := #[.val (.ref a), .val (.ref z_1), .val (.int (8 : Int32)), .unset, .unset]) rfl ?_
    show Steps p.tables e below (T1.setTop (mkF m 7 #[.val (.ref a), .val (.ref z_1), .val (.int (8 : Int32)), .unset, .unset] [])) _
    refine XS.iconst X1.here hx rfl (hb hby d1_7) ?_
    show Steps p.tables e below (T1.setTop (mkF m 8 #[.val (.ref a), .val (.ref z_1), .val (.int (8 : Int32)), .unset, .unset] [(.int (0 : Int32))])) _
    refine XS.istoreN X1.here hx rfl (hb hby d1_8) rfl (l' := #[.val (.ref a), .val (.ref z_1), .val (.int (8 : Int32)), .val (.int (0 : Int32)), .unset]) rfl ?_
    show Steps p.tables e below (T1.setTop (mkF m 9 #[.val (.ref a), .val (.ref z_1), .val (.int (8 : Int32)), .val (.int (0 : Int32)), .unset] [])) _
    refine XS.iloadN X1.here hx rfl (hb hby d1_9) rfl ?_
    show Steps p.tables e below (T1.setTop (mkF m 10 #[.val (.ref a), .val (.ref z_1), .val (.int (8 : Int32)), .val (.int (0 : Int32)), .unset] [(.int (0 : Int32))])) _
    refine XS.iloadN X1.here hx rfl (hb hby d1_10) rfl ?_
    show Steps p.tables e below (T1.setTop (mkF m 11 #[.val (.ref a), .val (.ref z_1), .val (.int (8 : Int32)), .val (.int (0 : Int32)), .unset] [(.int (8 : Int32)), (.int (0 : Int32))])) _
    refine XS.icmpNo X1.here hx rfl (hb hby d1_11) rfl (tlt ((by decide) : (0 : Int32) < (8 : Int32))).2.1 ?_
    show Steps p.tables e below (T1.setTop (mkF m 14 #[.val (.ref a), .val (.ref z_1), .val (.int (8 : Int32)), .val (.int (0 : Int32)), .unset] [])) _
    refine XS.aloadN X1.here hx rfl (hb hby d1_14) rfl rfl ?_
    show Steps p.tables e below (T1.setTop (mkF m 15 #[.val (.ref a), .val (.ref z_1), .val (.int (8 : Int32)), .val (.int (0 : Int32)), .unset] [(.ref z_1)])) _
    refine XS.iloadN X1.here hx rfl (hb hby d1_15) rfl ?_
    show Steps p.tables e below (T1.setTop (mkF m 16 #[.val (.ref a), .val (.ref z_1), .val (.int (8 : Int32)), .val (.int (0 : Int32)), .unset] [(.int (0 : Int32)), (.ref z_1)])) _
    refine X1.aaload hx (j := (0 : Int32)) (v := (.ref s_COUNT)) (by exact Ar3.1) (State.isArrayOf_alike hZ.alike Ar3.2.1) rfl Ar3.2.2 hin3 hat3 (g := (mkF m 16 #[.val (.ref a), .val (.ref z_1), .val (.int (8 : Int32)), .val (.int (0 : Int32)), .unset] [(.int (0 : Int32)), (.ref z_1)])) rfl rfl (hb hby d1_16) _ ?_
    show Steps p.tables e below (T1.setTop (mkF m 17 #[.val (.ref a), .val (.ref z_1), .val (.int (8 : Int32)), .val (.int (0 : Int32)), .unset] [(.ref s_COUNT)])) _
    refine XS.astore X1.here hx rfl (hb hby d1_17) rfl rfl (l' := #[.val (.ref a), .val (.ref z_1), .val (.int (8 : Int32)), .val (.int (0 : Int32)), .val (.ref s_COUNT)]) rfl ?_
    show Steps p.tables e below (T1.setTop (mkF m 19 #[.val (.ref a), .val (.ref z_1), .val (.int (8 : Int32)), .val (.int (0 : Int32)), .val (.ref s_COUNT)] [])) _
    refine XS.aload X1.here hx rfl (hb hby d1_19) rfl rfl ?_
    show Steps p.tables e below (T1.setTop (mkF m 21 #[.val (.ref a), .val (.ref z_1), .val (.int (8 : Int32)), .val (.int (0 : Int32)), .val (.ref s_COUNT)] [(.ref s_COUNT)])) _
    exact k
  obtain ⟨cq5, kq5, q5a, q5b, q5c⟩ := isOf hZ rfl E_s_COUNT
  obtain ⟨_, _, ⟨T5, L5, k5, n5⟩, -, X5, sn5, gr5, ⟨Lc5, hQ5, l5, y5, z5, R5⟩, st5⟩ := X1.virtualBackS hx (y := (⟨"com/example/querent/querent/translation/Aggregation", "operation", "()Ljava/lang/String;"⟩ : MethodName)) (z := (⟨"com/example/querent/querent/translation/Aggregation", "operation", "()Ljava/lang/String;"⟩ : MethodName)) hown (mvT hZ (hw _ (List.mem_of_getElem? (i := 70) rfl))) (mvT hZ (hw _ (List.mem_of_getElem? (i := 71) rfl))) (notFace_of_selects (args := #[]) (mvT hZ (hw _ (List.mem_of_getElem? (i := 73) rfl)))) (mvT hZ (hw _ (List.mem_of_getElem? (i := 73) rfl))) (mvT hZ (hw _ (List.mem_of_getElem? (i := 72) rfl))) (by decide) (backOfSH (W := 0) (rm3_0 l Z a0 hw [] s_COUNT T1.heap n0 O E_s_COUNT F_ordinal_s_COUNT) hZ (hw _ (List.mem_of_getElem? (i := 74) rfl)) (hw _ (List.mem_of_getElem? (i := 35) rfl)) (by decide) (by decide) hEL C.1) q5a q5c (g := (mkF m 21 #[.val (.ref a), .val (.ref z_1), .val (.int (8 : Int32)), .val (.int (0 : Int32)), .val (.ref s_COUNT)] [(.ref s_COUNT)])) rfl (by rw [hml]; rfl) (Steps.refl _) (argsL := []) (rest := []) (lenOf pd__40_41Ljava_47lang_47String_59 rfl) rfl (by show 2 * 0 + _ ≤ _; exact Nat.le_of_eq rfl) (hb hby d1_21) (fun _ _ => ⟨rfl, rfl, (by decide : 1 + 2 ≤ _), (by decide : 8 + 24 ≤ _)⟩)
  dsimp only [Pt.U, Pt.locs, Pt.cells, Pt.slots] at X5 l5 y5 z5 st5 hQ5 sn5 gr5 R5
  have X5 := own_un X5 l5 y5 z5
  obtain ⟨X5, hS, hZ, hown⟩ := rebS hS (by exact hk) X5 sn5 gr5 hZ hown
  obtain ⟨z_5, t1_5, kb_5, rfl, N5q, K5, E_z_c5, F_c_z_c5, F_v_z_c5, V_t_c5⟩ := hQ5
  have N5 := Fr.app N1 N5q
  have R := R5
  have C := C.trans R
  have hk : T5.heap.size ≤ T5.heap.size := Nat.le_refl _
  have E_a := E_a.keep K5
  have F_v_a := F_v_a.keep K5 nin0
  have F_c_a := F_c_a.keep K5 nin0
  have V_t1 := V_t1.keep K5 nin0
  have V_z_c1 := V_z_c1.keep K5 nin0
  have E_s_COUNT := E_s_COUNT.keep K5
  have F_ordinal_s_COUNT := F_ordinal_s_COUNT.keep K5 nin0
  have O := O.keep K5 all0
  have K := K.trans K5 all0
  obtain ⟨cq6, kq6, q6a, q6b, q6c⟩ := isOf hZ rfl E_z_c5
  obtain ⟨v6, _, ⟨T6, L6, k6, n6⟩, -, X6, ⟨Lc6, hQ6, l6, y6, z6⟩, st6⟩ := X5.virtualBack hx (y := (⟨"java/lang/String", "equals", "(Ljava/lang/Object;)Z"⟩ : MethodName)) (z := (⟨"java/lang/String", "equals", "(Ljava/lang/Object;)Z"⟩ : MethodName)) hown (mvT hZ (hw _ (List.mem_of_getElem? (i := 85) rfl))) (mvT hZ (hw _ (List.mem_of_getElem? (i := 86) rfl))) (notFace_of_selects (args := #[]) (mvT hZ (hw _ (List.mem_of_getElem? (i := 88) rfl)))) (mvT hZ (hw _ (List.mem_of_getElem? (i := 88) rfl))) (mvT hZ (hw _ (List.mem_of_getElem? (i := 87) rfl))) (by decide) (StrChars.Road.eqW (W := 0) hZ (own_wEq hw) (kI := 4) (hw _ (List.mem_of_getElem? (i := 4) rfl)) E_z_c5 F_v_z_c5 F_c_z_c5 V_t_c5 own_cod_99_111_117_110_116 own_cod_99_111_117_110_116b (Nat.le_of_ble_eq_true rfl) E_a F_v_a F_c_a V_t1 cod bd hl (SC.ext O.2) hzc (by decide) (by decide)) q6a q6c (g := (mkF m 25 #[.val (.ref a), .val (.ref z_1), .val (.int (8 : Int32)), .val (.int (0 : Int32)), .val (.ref s_COUNT)] [(.ref a), (.ref z_5)])) rfl (by rw [hml]; rfl) (Steps.refl _) (argsL := [(.ref a)]) (rest := []) (lenOf pd__40Ljava_47lang_47Object_59_41Z rfl) rfl (by show 2 * 0 + _ ≤ _; exact Nat.le_of_eq rfl) (hb hby d1_25) (fun _ _ => ⟨rfl, rfl, (by decide : 3 + 0 ≤ _), (by decide : 32 + 0 ≤ _)⟩)
  dsimp only [Pt.U, Pt.locs, Pt.cells, Pt.slots] at X6 l6 y6 z6 st6 hQ6
  have X6 := own_un X6 l6 y6 z6
  obtain ⟨hv6, rfl, eh6⟩ := hQ6
  obtain rfl : v6 = some (.int (own_eqs ([(99 : Int32), (111 : Int32), (117 : Int32), (110 : Int32), (116 : Int32)] : List Int32) cs)) := by rcases hv6 with ⟨h1, h2⟩ | ⟨h1, h2⟩ <;> rw [h1] <;> simp only [own_eqs, h2, if_true, if_false]
  have N6 := Fr.app N5 (Fr.nil n0)
  have w7 : ∀ t, Steps p.tables e below (T6.setTop (mkF m 28 #[.val (.ref a), .val (.ref z_1), .val (.int (8 : Int32)), .val (.int (0 : Int32)), .val (.ref s_COUNT)] [(.int (own_eqs ([(99 : Int32), (111 : Int32), (117 : Int32), (110 : Int32), (116 : Int32)] : List Int32) cs))])) t → Steps p.tables e below (s₁.setTop (entryFrame m #[(.ref a)] 5)) t := fun t k => by
    refine w4 t ?_
    refine st5.trans ?_
    show Steps p.tables e below (T5.setTop (mkF m 24 #[.val (.ref a), .val (.ref z_1), .val (.int (8 : Int32)), .val (.int (0 : Int32)), .val (.ref s_COUNT)] [(.ref z_5)])) _
    refine XS.aloadN X5.here hx rfl (hb hby d1_24) rfl rfl ?_
    show Steps p.tables e below (T5.setTop (mkF m 25 #[.val (.ref a), .val (.ref z_1), .val (.int (8 : Int32)), .val (.int (0 : Int32)), .val (.ref s_COUNT)] [(.ref a), (.ref z_5)])) _
    refine st6.trans ?_
    show Steps p.tables e below (T6.setTop (mkF m 28 #[.val (.ref a), .val (.ref z_1), .val (.int (8 : Int32)), .val (.int (0 : Int32)), .val (.ref s_COUNT)] [(.int (own_eqs ([(99 : Int32), (111 : Int32), (117 : Int32), (110 : Int32), (116 : Int32)] : List Int32) cs))])) _
    exact k
  by_cases hc28_8 : (own_eqs ([(99 : Int32), (111 : Int32), (117 : Int32), (110 : Int32), (116 : Int32)] : List Int32) cs) = (0 : Int32)
  · obtain ⟨cl9, Ar9, q9, Z9, N9, H9, G9⟩ := id V_z_c1
    have hin9 : ¬ ((1 : Int32) < 0 ∨ cl9.slots.size ≤ ((1 : Int32)).toNatClampNeg) := inb_of Z9 ⟨by decide, by decide⟩
    have hat9 : cl9.slots[((1 : Int32)).toNatClampNeg]? = some (.ref s_SUM_INTEGER) := H9.at hin9 rfl
    have E_s_SUM_INTEGER := o_E_s_SUM_INTEGER.ext O.2
    have F_ordinal_s_SUM_INTEGER := o_F_ordinal_s_SUM_INTEGER.ext O.2
    have w10 : ∀ t, Steps p.tables e below (T6.setTop (mkF m 21 #[.val (.ref a), .val (.ref z_1), .val (.int (8 : Int32)), .val (.int (1 : Int32)), .val (.ref s_SUM_INTEGER)] [(.ref s_SUM_INTEGER)])) t → Steps p.tables e below (s₁.setTop (entryFrame m #[(.ref a)] 5)) t := fun t k => by
      refine w7 t ?_
      refine XS.ifYes X6.here hx rfl (pc0 := 28) (pc' := 37) rfl (hb hby d1_28) rfl ((if0 _ _).trans (teq hc28_8).1) (by decide) (by decide) ?_
      show Steps p.tables e below (T6.setTop (mkF m 37 #[.val (.ref a), .val (.ref z_1), .val (.int (8 : Int32)), .val (.int (0 : Int32)), .val (.ref s_COUNT)] [])) _
      refine XS.iinc X6.here hx rfl (hb hby d1_37) rfl (l' := #[.val (.ref a), .val (.ref z_1), .val (.int (8 : Int32)), .val (.int (1 : Int32)), .val (.ref s_COUNT)]) rfl ?_
      show Steps p.tables e below (T6.setTop (mkF m 40 #[.val (.ref a), .val (.ref z_1), .val (.int (8 : Int32)), .val (.int (1 : Int32)), .val (.ref s_COUNT)] [])) _
      refine XS.goto X6.here hx rfl (pc0 := 40) (pc' := 9) rfl (hb hby d1_40) (by decide) (by decide) ?_
      show Steps p.tables e below (T6.setTop (mkF m 9 #[.val (.ref a), .val (.ref z_1), .val (.int (8 : Int32)), .val (.int (1 : Int32)), .val (.ref s_COUNT)] [])) _
      refine XS.iloadN X6.here hx rfl (hb hby d1_9) rfl ?_
      show Steps p.tables e below (T6.setTop (mkF m 10 #[.val (.ref a), .val (.ref z_1), .val (.int (8 : Int32)), .val (.int (1 : Int32)), .val (.ref s_COUNT)] [(.int (1 : Int32))])) _
      refine XS.iloadN X6.here hx rfl (hb hby d1_10) rfl ?_
      show Steps p.tables e below (T6.setTop (mkF m 11 #[.val (.ref a), .val (.ref z_1), .val (.int (8 : Int32)), .val (.int (1 : Int32)), .val (.ref s_COUNT)] [(.int (8 : Int32)), (.int (1 : Int32))])) _
      refine XS.icmpNo X6.here hx rfl (hb hby d1_11) rfl (tlt ((by decide) : (1 : Int32) < (8 : Int32))).2.1 ?_
      show Steps p.tables e below (T6.setTop (mkF m 14 #[.val (.ref a), .val (.ref z_1), .val (.int (8 : Int32)), .val (.int (1 : Int32)), .val (.ref s_COUNT)] [])) _
      refine XS.aloadN X6.here hx rfl (hb hby d1_14) rfl rfl ?_
      show Steps p.tables e below (T6.setTop (mkF m 15 #[.val (.ref a), .val (.ref z_1), .val (.int (8 : Int32)), .val (.int (1 : Int32)), .val (.ref s_COUNT)] [(.ref z_1)])) _
      refine XS.iloadN X6.here hx rfl (hb hby d1_15) rfl ?_
      show Steps p.tables e below (T6.setTop (mkF m 16 #[.val (.ref a), .val (.ref z_1), .val (.int (8 : Int32)), .val (.int (1 : Int32)), .val (.ref s_COUNT)] [(.int (1 : Int32)), (.ref z_1)])) _
      refine X6.aaload hx (j := (1 : Int32)) (v := (.ref s_SUM_INTEGER)) (by rw [eh6]; exact Ar9.1) (State.isArrayOf_alike hZ.alike Ar9.2.1) rfl Ar9.2.2 hin9 hat9 (g := (mkF m 16 #[.val (.ref a), .val (.ref z_1), .val (.int (8 : Int32)), .val (.int (1 : Int32)), .val (.ref s_COUNT)] [(.int (1 : Int32)), (.ref z_1)])) rfl rfl (hb hby d1_16) _ ?_
      show Steps p.tables e below (T6.setTop (mkF m 17 #[.val (.ref a), .val (.ref z_1), .val (.int (8 : Int32)), .val (.int (1 : Int32)), .val (.ref s_COUNT)] [(.ref s_SUM_INTEGER)])) _
      refine XS.astore X6.here hx rfl (hb hby d1_17) rfl rfl (l' := #[.val (.ref a), .val (.ref z_1), .val (.int (8 : Int32)), .val (.int (1 : Int32)), .val (.ref s_SUM_INTEGER)]) rfl ?_
      show Steps p.tables e below (T6.setTop (mkF m 19 #[.val (.ref a), .val (.ref z_1), .val (.int (8 : Int32)), .val (.int (1 : Int32)), .val (.ref s_SUM_INTEGER)] [])) _
      refine XS.aload X6.here hx rfl (hb hby d1_19) rfl rfl ?_
      show Steps p.tables e below (T6.setTop (mkF m 21 #[.val (.ref a), .val (.ref z_1), .val (.int (8 : Int32)), .val (.int (1 : Int32)), .val (.ref s_SUM_INTEGER)] [(.ref s_SUM_INTEGER)])) _
      exact k
    obtain ⟨cq11, kq11, q11a, q11b, q11c⟩ := isOf hZ eh6 E_s_SUM_INTEGER
    obtain ⟨_, _, ⟨T11, L11, k11, n11⟩, -, X11, sn11, gr11, ⟨Lc11, hQ11, l11, y11, z11, R11⟩, st11⟩ := X6.virtualBackS hx (y := (⟨"com/example/querent/querent/translation/Aggregation", "operation", "()Ljava/lang/String;"⟩ : MethodName)) (z := (⟨"com/example/querent/querent/translation/Aggregation", "operation", "()Ljava/lang/String;"⟩ : MethodName)) hown (mvT hZ (hw _ (List.mem_of_getElem? (i := 70) rfl))) (mvT hZ (hw _ (List.mem_of_getElem? (i := 71) rfl))) (notFace_of_selects (args := #[]) (mvT hZ (hw _ (List.mem_of_getElem? (i := 73) rfl)))) (mvT hZ (hw _ (List.mem_of_getElem? (i := 73) rfl))) (mvT hZ (hw _ (List.mem_of_getElem? (i := 72) rfl))) (by decide) (backOfSH (W := 0) (rm3_1 l Z a0 hw [] s_SUM_INTEGER T5.heap n0 O E_s_SUM_INTEGER F_ordinal_s_SUM_INTEGER) hZ (hw _ (List.mem_of_getElem? (i := 74) rfl)) (hw _ (List.mem_of_getElem? (i := 35) rfl)) (by decide) (by decide) hEL C.1) q11a q11c (g := (mkF m 21 #[.val (.ref a), .val (.ref z_1), .val (.int (8 : Int32)), .val (.int (1 : Int32)), .val (.ref s_SUM_INTEGER)] [(.ref s_SUM_INTEGER)])) rfl (by rw [hml]; rfl) (Steps.refl _) (argsL := []) (rest := []) (lenOf pd__40_41Ljava_47lang_47String_59 rfl) rfl (by show 2 * 0 + _ ≤ _; exact Nat.le_of_eq rfl) (hb hby d1_21) (fun _ _ => ⟨rfl, eh6, (by decide : 3 + 2 ≤ _), (by decide : 32 + 44 ≤ _)⟩)
    dsimp only [Pt.U, Pt.locs, Pt.cells, Pt.slots] at X11 l11 y11 z11 st11 hQ11 sn11 gr11 R11
    have X11 := own_un X11 l11 y11 z11
    obtain ⟨X11, hS, hZ, hown⟩ := rebS hS (by rw [eh6]; exact hk) X11 sn11 gr11 hZ hown
    obtain ⟨z_11, t1_11, kb_11, rfl, N11q, K11, E_z_c11, F_c_z_c11, F_v_z_c11, V_t_c11⟩ := hQ11
    have N11 := Fr.app N6 N11q
    have R := R11
    have C := C.trans R
    have hk : T11.heap.size ≤ T11.heap.size := Nat.le_refl _
    have E_a := E_a.keep K11
    have F_v_a := F_v_a.keep K11 nin0
    have F_c_a := F_c_a.keep K11 nin0
    have V_t1 := V_t1.keep K11 nin0
    have V_z_c1 := V_z_c1.keep K11 nin0
    have E_s_SUM_INTEGER := E_s_SUM_INTEGER.keep K11
    have F_ordinal_s_SUM_INTEGER := F_ordinal_s_SUM_INTEGER.keep K11 nin0
    have O := O.keep K11 all0
    have K := K.trans K11 all0
    obtain ⟨cq12, kq12, q12a, q12b, q12c⟩ := isOf hZ rfl E_z_c11
    obtain ⟨v12, _, ⟨T12, L12, k12, n12⟩, -, X12, ⟨Lc12, hQ12, l12, y12, z12⟩, st12⟩ := X11.virtualBack hx (y := (⟨"java/lang/String", "equals", "(Ljava/lang/Object;)Z"⟩ : MethodName)) (z := (⟨"java/lang/String", "equals", "(Ljava/lang/Object;)Z"⟩ : MethodName)) hown (mvT hZ (hw _ (List.mem_of_getElem? (i := 85) rfl))) (mvT hZ (hw _ (List.mem_of_getElem? (i := 86) rfl))) (notFace_of_selects (args := #[]) (mvT hZ (hw _ (List.mem_of_getElem? (i := 88) rfl)))) (mvT hZ (hw _ (List.mem_of_getElem? (i := 88) rfl))) (mvT hZ (hw _ (List.mem_of_getElem? (i := 87) rfl))) (by decide) (StrChars.Road.eqW (W := 0) hZ (own_wEq hw) (kI := 4) (hw _ (List.mem_of_getElem? (i := 4) rfl)) E_z_c11 F_v_z_c11 F_c_z_c11 V_t_c11 own_cod_115_117_109_73_110_116_101_103_101_114 own_cod_115_117_109_73_110_116_101_103_101_114b (Nat.le_of_ble_eq_true rfl) E_a F_v_a F_c_a V_t1 cod bd hl (SC.ext O.2) hzc (by decide) (by decide)) q12a q12c (g := (mkF m 25 #[.val (.ref a), .val (.ref z_1), .val (.int (8 : Int32)), .val (.int (1 : Int32)), .val (.ref s_SUM_INTEGER)] [(.ref a), (.ref z_11)])) rfl (by rw [hml]; rfl) (Steps.refl _) (argsL := [(.ref a)]) (rest := []) (lenOf pd__40Ljava_47lang_47Object_59_41Z rfl) rfl (by show 2 * 0 + _ ≤ _; exact Nat.le_of_eq rfl) (hb hby d1_25) (fun _ _ => ⟨rfl, rfl, (by decide : 5 + 0 ≤ _), (by decide : 76 + 0 ≤ _)⟩)
    dsimp only [Pt.U, Pt.locs, Pt.cells, Pt.slots] at X12 l12 y12 z12 st12 hQ12
    have X12 := own_un X12 l12 y12 z12
    obtain ⟨hv12, rfl, eh12⟩ := hQ12
    obtain rfl : v12 = some (.int (own_eqs ([(115 : Int32), (117 : Int32), (109 : Int32), (73 : Int32), (110 : Int32), (116 : Int32), (101 : Int32), (103 : Int32), (101 : Int32), (114 : Int32)] : List Int32) cs)) := by rcases hv12 with ⟨h1, h2⟩ | ⟨h1, h2⟩ <;> rw [h1] <;> simp only [own_eqs, h2, if_true, if_false]
    have N12 := Fr.app N11 (Fr.nil n0)
    have w13 : ∀ t, Steps p.tables e below (T12.setTop (mkF m 28 #[.val (.ref a), .val (.ref z_1), .val (.int (8 : Int32)), .val (.int (1 : Int32)), .val (.ref s_SUM_INTEGER)] [(.int (own_eqs ([(115 : Int32), (117 : Int32), (109 : Int32), (73 : Int32), (110 : Int32), (116 : Int32), (101 : Int32), (103 : Int32), (101 : Int32), (114 : Int32)] : List Int32) cs))])) t → Steps p.tables e below (s₁.setTop (entryFrame m #[(.ref a)] 5)) t := fun t k => by
      refine w10 t ?_
      refine st11.trans ?_
      show Steps p.tables e below (T11.setTop (mkF m 24 #[.val (.ref a), .val (.ref z_1), .val (.int (8 : Int32)), .val (.int (1 : Int32)), .val (.ref s_SUM_INTEGER)] [(.ref z_11)])) _
      refine XS.aloadN X11.here hx rfl (hb hby d1_24) rfl rfl ?_
      show Steps p.tables e below (T11.setTop (mkF m 25 #[.val (.ref a), .val (.ref z_1), .val (.int (8 : Int32)), .val (.int (1 : Int32)), .val (.ref s_SUM_INTEGER)] [(.ref a), (.ref z_11)])) _
      refine st12.trans ?_
      show Steps p.tables e below (T12.setTop (mkF m 28 #[.val (.ref a), .val (.ref z_1), .val (.int (8 : Int32)), .val (.int (1 : Int32)), .val (.ref s_SUM_INTEGER)] [(.int (own_eqs ([(115 : Int32), (117 : Int32), (109 : Int32), (73 : Int32), (110 : Int32), (116 : Int32), (101 : Int32), (103 : Int32), (101 : Int32), (114 : Int32)] : List Int32) cs))])) _
      exact k
    by_cases hc28_14 : (own_eqs ([(115 : Int32), (117 : Int32), (109 : Int32), (73 : Int32), (110 : Int32), (116 : Int32), (101 : Int32), (103 : Int32), (101 : Int32), (114 : Int32)] : List Int32) cs) = (0 : Int32)
    · obtain ⟨cl15, Ar15, q15, Z15, N15, H15, G15⟩ := id V_z_c1
      have hin15 : ¬ ((2 : Int32) < 0 ∨ cl15.slots.size ≤ ((2 : Int32)).toNatClampNeg) := inb_of Z15 ⟨by decide, by decide⟩
      have hat15 : cl15.slots[((2 : Int32)).toNatClampNeg]? = some (.ref s_SUM_LONG) := H15.at hin15 rfl
      have E_s_SUM_LONG := o_E_s_SUM_LONG.ext O.2
      have F_ordinal_s_SUM_LONG := o_F_ordinal_s_SUM_LONG.ext O.2
      have w16 : ∀ t, Steps p.tables e below (T12.setTop (mkF m 21 #[.val (.ref a), .val (.ref z_1), .val (.int (8 : Int32)), .val (.int (2 : Int32)), .val (.ref s_SUM_LONG)] [(.ref s_SUM_LONG)])) t → Steps p.tables e below (s₁.setTop (entryFrame m #[(.ref a)] 5)) t := fun t k => by
        refine w13 t ?_
        refine XS.ifYes X12.here hx rfl (pc0 := 28) (pc' := 37) rfl (hb hby d1_28) rfl ((if0 _ _).trans (teq hc28_14).1) (by decide) (by decide) ?_
        show Steps p.tables e below (T12.setTop (mkF m 37 #[.val (.ref a), .val (.ref z_1), .val (.int (8 : Int32)), .val (.int (1 : Int32)), .val (.ref s_SUM_INTEGER)] [])) _
        refine XS.iinc X12.here hx rfl (hb hby d1_37) rfl (l' := #[.val (.ref a), .val (.ref z_1), .val (.int (8 : Int32)), .val (.int (2 : Int32)), .val (.ref s_SUM_INTEGER)]) rfl ?_
        show Steps p.tables e below (T12.setTop (mkF m 40 #[.val (.ref a), .val (.ref z_1), .val (.int (8 : Int32)), .val (.int (2 : Int32)), .val (.ref s_SUM_INTEGER)] [])) _
        refine XS.goto X12.here hx rfl (pc0 := 40) (pc' := 9) rfl (hb hby d1_40) (by decide) (by decide) ?_
        show Steps p.tables e below (T12.setTop (mkF m 9 #[.val (.ref a), .val (.ref z_1), .val (.int (8 : Int32)), .val (.int (2 : Int32)), .val (.ref s_SUM_INTEGER)] [])) _
        refine XS.iloadN X12.here hx rfl (hb hby d1_9) rfl ?_
        show Steps p.tables e below (T12.setTop (mkF m 10 #[.val (.ref a), .val (.ref z_1), .val (.int (8 : Int32)), .val (.int (2 : Int32)), .val (.ref s_SUM_INTEGER)] [(.int (2 : Int32))])) _
        refine XS.iloadN X12.here hx rfl (hb hby d1_10) rfl ?_
        show Steps p.tables e below (T12.setTop (mkF m 11 #[.val (.ref a), .val (.ref z_1), .val (.int (8 : Int32)), .val (.int (2 : Int32)), .val (.ref s_SUM_INTEGER)] [(.int (8 : Int32)), (.int (2 : Int32))])) _
        refine XS.icmpNo X12.here hx rfl (hb hby d1_11) rfl (tlt ((by decide) : (2 : Int32) < (8 : Int32))).2.1 ?_
        show Steps p.tables e below (T12.setTop (mkF m 14 #[.val (.ref a), .val (.ref z_1), .val (.int (8 : Int32)), .val (.int (2 : Int32)), .val (.ref s_SUM_INTEGER)] [])) _
        refine XS.aloadN X12.here hx rfl (hb hby d1_14) rfl rfl ?_
        show Steps p.tables e below (T12.setTop (mkF m 15 #[.val (.ref a), .val (.ref z_1), .val (.int (8 : Int32)), .val (.int (2 : Int32)), .val (.ref s_SUM_INTEGER)] [(.ref z_1)])) _
        refine XS.iloadN X12.here hx rfl (hb hby d1_15) rfl ?_
        show Steps p.tables e below (T12.setTop (mkF m 16 #[.val (.ref a), .val (.ref z_1), .val (.int (8 : Int32)), .val (.int (2 : Int32)), .val (.ref s_SUM_INTEGER)] [(.int (2 : Int32)), (.ref z_1)])) _
        refine X12.aaload hx (j := (2 : Int32)) (v := (.ref s_SUM_LONG)) (by rw [eh12]; exact Ar15.1) (State.isArrayOf_alike hZ.alike Ar15.2.1) rfl Ar15.2.2 hin15 hat15 (g := (mkF m 16 #[.val (.ref a), .val (.ref z_1), .val (.int (8 : Int32)), .val (.int (2 : Int32)), .val (.ref s_SUM_INTEGER)] [(.int (2 : Int32)), (.ref z_1)])) rfl rfl (hb hby d1_16) _ ?_
        show Steps p.tables e below (T12.setTop (mkF m 17 #[.val (.ref a), .val (.ref z_1), .val (.int (8 : Int32)), .val (.int (2 : Int32)), .val (.ref s_SUM_INTEGER)] [(.ref s_SUM_LONG)])) _
        refine XS.astore X12.here hx rfl (hb hby d1_17) rfl rfl (l' := #[.val (.ref a), .val (.ref z_1), .val (.int (8 : Int32)), .val (.int (2 : Int32)), .val (.ref s_SUM_LONG)]) rfl ?_
        show Steps p.tables e below (T12.setTop (mkF m 19 #[.val (.ref a), .val (.ref z_1), .val (.int (8 : Int32)), .val (.int (2 : Int32)), .val (.ref s_SUM_LONG)] [])) _
        refine XS.aload X12.here hx rfl (hb hby d1_19) rfl rfl ?_
        show Steps p.tables e below (T12.setTop (mkF m 21 #[.val (.ref a), .val (.ref z_1), .val (.int (8 : Int32)), .val (.int (2 : Int32)), .val (.ref s_SUM_LONG)] [(.ref s_SUM_LONG)])) _
        exact k
      obtain ⟨cq17, kq17, q17a, q17b, q17c⟩ := isOf hZ eh12 E_s_SUM_LONG
      obtain ⟨_, _, ⟨T17, L17, k17, n17⟩, -, X17, sn17, gr17, ⟨Lc17, hQ17, l17, y17, z17, R17⟩, st17⟩ := X12.virtualBackS hx (y := (⟨"com/example/querent/querent/translation/Aggregation", "operation", "()Ljava/lang/String;"⟩ : MethodName)) (z := (⟨"com/example/querent/querent/translation/Aggregation", "operation", "()Ljava/lang/String;"⟩ : MethodName)) hown (mvT hZ (hw _ (List.mem_of_getElem? (i := 70) rfl))) (mvT hZ (hw _ (List.mem_of_getElem? (i := 71) rfl))) (notFace_of_selects (args := #[]) (mvT hZ (hw _ (List.mem_of_getElem? (i := 73) rfl)))) (mvT hZ (hw _ (List.mem_of_getElem? (i := 73) rfl))) (mvT hZ (hw _ (List.mem_of_getElem? (i := 72) rfl))) (by decide) (backOfSH (W := 0) (rm3_2 l Z a0 hw [] s_SUM_LONG T11.heap n0 O E_s_SUM_LONG F_ordinal_s_SUM_LONG) hZ (hw _ (List.mem_of_getElem? (i := 74) rfl)) (hw _ (List.mem_of_getElem? (i := 35) rfl)) (by decide) (by decide) hEL C.1) q17a q17c (g := (mkF m 21 #[.val (.ref a), .val (.ref z_1), .val (.int (8 : Int32)), .val (.int (2 : Int32)), .val (.ref s_SUM_LONG)] [(.ref s_SUM_LONG)])) rfl (by rw [hml]; rfl) (Steps.refl _) (argsL := []) (rest := []) (lenOf pd__40_41Ljava_47lang_47String_59 rfl) rfl (by show 2 * 0 + _ ≤ _; exact Nat.le_of_eq rfl) (hb hby d1_21) (fun _ _ => ⟨rfl, eh12, (by decide : 5 + 2 ≤ _), (by decide : 76 + 32 ≤ _)⟩)
      dsimp only [Pt.U, Pt.locs, Pt.cells, Pt.slots] at X17 l17 y17 z17 st17 hQ17 sn17 gr17 R17
      have X17 := own_un X17 l17 y17 z17
      obtain ⟨X17, hS, hZ, hown⟩ := rebS hS (by rw [eh12]; exact hk) X17 sn17 gr17 hZ hown
      obtain ⟨z_17, t1_17, kb_17, rfl, N17q, K17, E_z_c17, F_c_z_c17, F_v_z_c17, V_t_c17⟩ := hQ17
      have N17 := Fr.app N12 N17q
      have R := R17
      have C := C.trans R
      have hk : T17.heap.size ≤ T17.heap.size := Nat.le_refl _
      have E_a := E_a.keep K17
      have F_v_a := F_v_a.keep K17 nin0
      have F_c_a := F_c_a.keep K17 nin0
      have V_t1 := V_t1.keep K17 nin0
      have V_z_c1 := V_z_c1.keep K17 nin0
      have E_s_SUM_LONG := E_s_SUM_LONG.keep K17
      have F_ordinal_s_SUM_LONG := F_ordinal_s_SUM_LONG.keep K17 nin0
      have O := O.keep K17 all0
      have K := K.trans K17 all0
      obtain ⟨cq18, kq18, q18a, q18b, q18c⟩ := isOf hZ rfl E_z_c17
      obtain ⟨v18, _, ⟨T18, L18, k18, n18⟩, -, X18, ⟨Lc18, hQ18, l18, y18, z18⟩, st18⟩ := X17.virtualBack hx (y := (⟨"java/lang/String", "equals", "(Ljava/lang/Object;)Z"⟩ : MethodName)) (z := (⟨"java/lang/String", "equals", "(Ljava/lang/Object;)Z"⟩ : MethodName)) hown (mvT hZ (hw _ (List.mem_of_getElem? (i := 85) rfl))) (mvT hZ (hw _ (List.mem_of_getElem? (i := 86) rfl))) (notFace_of_selects (args := #[]) (mvT hZ (hw _ (List.mem_of_getElem? (i := 88) rfl)))) (mvT hZ (hw _ (List.mem_of_getElem? (i := 88) rfl))) (mvT hZ (hw _ (List.mem_of_getElem? (i := 87) rfl))) (by decide) (StrChars.Road.eqW (W := 0) hZ (own_wEq hw) (kI := 4) (hw _ (List.mem_of_getElem? (i := 4) rfl)) E_z_c17 F_v_z_c17 F_c_z_c17 V_t_c17 own_cod_115_117_109_76_111_110_103 own_cod_115_117_109_76_111_110_103b (Nat.le_of_ble_eq_true rfl) E_a F_v_a F_c_a V_t1 cod bd hl (SC.ext O.2) hzc (by decide) (by decide)) q18a q18c (g := (mkF m 25 #[.val (.ref a), .val (.ref z_1), .val (.int (8 : Int32)), .val (.int (2 : Int32)), .val (.ref s_SUM_LONG)] [(.ref a), (.ref z_17)])) rfl (by rw [hml]; rfl) (Steps.refl _) (argsL := [(.ref a)]) (rest := []) (lenOf pd__40Ljava_47lang_47Object_59_41Z rfl) rfl (by show 2 * 0 + _ ≤ _; exact Nat.le_of_eq rfl) (hb hby d1_25) (fun _ _ => ⟨rfl, rfl, (by decide : 7 + 0 ≤ _), (by decide : 108 + 0 ≤ _)⟩)
      dsimp only [Pt.U, Pt.locs, Pt.cells, Pt.slots] at X18 l18 y18 z18 st18 hQ18
      have X18 := own_un X18 l18 y18 z18
      obtain ⟨hv18, rfl, eh18⟩ := hQ18
      obtain rfl : v18 = some (.int (own_eqs ([(115 : Int32), (117 : Int32), (109 : Int32), (76 : Int32), (111 : Int32), (110 : Int32), (103 : Int32)] : List Int32) cs)) := by rcases hv18 with ⟨h1, h2⟩ | ⟨h1, h2⟩ <;> rw [h1] <;> simp only [own_eqs, h2, if_true, if_false]
      have N18 := Fr.app N17 (Fr.nil n0)
      have w19 : ∀ t, Steps p.tables e below (T18.setTop (mkF m 28 #[.val (.ref a), .val (.ref z_1), .val (.int (8 : Int32)), .val (.int (2 : Int32)), .val (.ref s_SUM_LONG)] [(.int (own_eqs ([(115 : Int32), (117 : Int32), (109 : Int32), (76 : Int32), (111 : Int32), (110 : Int32), (103 : Int32)] : List Int32) cs))])) t → Steps p.tables e below (s₁.setTop (entryFrame m #[(.ref a)] 5)) t := fun t k => by
        refine w16 t ?_
        refine st17.trans ?_
        show Steps p.tables e below (T17.setTop (mkF m 24 #[.val (.ref a), .val (.ref z_1), .val (.int (8 : Int32)), .val (.int (2 : Int32)), .val (.ref s_SUM_LONG)] [(.ref z_17)])) _
        refine XS.aloadN X17.here hx rfl (hb hby d1_24) rfl rfl ?_
        show Steps p.tables e below (T17.setTop (mkF m 25 #[.val (.ref a), .val (.ref z_1), .val (.int (8 : Int32)), .val (.int (2 : Int32)), .val (.ref s_SUM_LONG)] [(.ref a), (.ref z_17)])) _
        refine st18.trans ?_
        show Steps p.tables e below (T18.setTop (mkF m 28 #[.val (.ref a), .val (.ref z_1), .val (.int (8 : Int32)), .val (.int (2 : Int32)), .val (.ref s_SUM_LONG)] [(.int (own_eqs ([(115 : Int32), (117 : Int32), (109 : Int32), (76 : Int32), (111 : Int32), (110 : Int32), (103 : Int32)] : List Int32) cs))])) _
        exact k
      by_cases hc28_20 : (own_eqs ([(115 : Int32), (117 : Int32), (109 : Int32), (76 : Int32), (111 : Int32), (110 : Int32), (103 : Int32)] : List Int32) cs) = (0 : Int32)
      · obtain ⟨cl21, Ar21, q21, Z21, N21, H21, G21⟩ := id V_z_c1
        have hin21 : ¬ ((3 : Int32) < 0 ∨ cl21.slots.size ≤ ((3 : Int32)).toNatClampNeg) := inb_of Z21 ⟨by decide, by decide⟩
        have hat21 : cl21.slots[((3 : Int32)).toNatClampNeg]? = some (.ref s_SUM_DOUBLE) := H21.at hin21 rfl
        have E_s_SUM_DOUBLE := o_E_s_SUM_DOUBLE.ext O.2
        have F_ordinal_s_SUM_DOUBLE := o_F_ordinal_s_SUM_DOUBLE.ext O.2
        have w22 : ∀ t, Steps p.tables e below (T18.setTop (mkF m 21 #[.val (.ref a), .val (.ref z_1), .val (.int (8 : Int32)), .val (.int (3 : Int32)), .val (.ref s_SUM_DOUBLE)] [(.ref s_SUM_DOUBLE)])) t → Steps p.tables e below (s₁.setTop (entryFrame m #[(.ref a)] 5)) t := fun t k => by
          refine w19 t ?_
          refine XS.ifYes X18.here hx rfl (pc0 := 28) (pc' := 37) rfl (hb hby d1_28) rfl ((if0 _ _).trans (teq hc28_20).1) (by decide) (by decide) ?_
          show Steps p.tables e below (T18.setTop (mkF m 37 #[.val (.ref a), .val (.ref z_1), .val (.int (8 : Int32)), .val (.int (2 : Int32)), .val (.ref s_SUM_LONG)] [])) _
          refine XS.iinc X18.here hx rfl (hb hby d1_37) rfl (l' := #[.val (.ref a), .val (.ref z_1), .val (.int (8 : Int32)), .val (.int (3 : Int32)), .val (.ref s_SUM_LONG)]) rfl ?_
          show Steps p.tables e below (T18.setTop (mkF m 40 #[.val (.ref a), .val (.ref z_1), .val (.int (8 : Int32)), .val (.int (3 : Int32)), .val (.ref s_SUM_LONG)] [])) _
          refine XS.goto X18.here hx rfl (pc0 := 40) (pc' := 9) rfl (hb hby d1_40) (by decide) (by decide) ?_
          show Steps p.tables e below (T18.setTop (mkF m 9 #[.val (.ref a), .val (.ref z_1), .val (.int (8 : Int32)), .val (.int (3 : Int32)), .val (.ref s_SUM_LONG)] [])) _
          refine XS.iloadN X18.here hx rfl (hb hby d1_9) rfl ?_
          show Steps p.tables e below (T18.setTop (mkF m 10 #[.val (.ref a), .val (.ref z_1), .val (.int (8 : Int32)), .val (.int (3 : Int32)), .val (.ref s_SUM_LONG)] [(.int (3 : Int32))])) _
          refine XS.iloadN X18.here hx rfl (hb hby d1_10) rfl ?_
          show Steps p.tables e below (T18.setTop (mkF m 11 #[.val (.ref a), .val (.ref z_1), .val (.int (8 : Int32)), .val (.int (3 : Int32)), .val (.ref s_SUM_LONG)] [(.int (8 : Int32)), (.int (3 : Int32))])) _
          refine XS.icmpNo X18.here hx rfl (hb hby d1_11) rfl (tlt ((by decide) : (3 : Int32) < (8 : Int32))).2.1 ?_
          show Steps p.tables e below (T18.setTop (mkF m 14 #[.val (.ref a), .val (.ref z_1), .val (.int (8 : Int32)), .val (.int (3 : Int32)), .val (.ref s_SUM_LONG)] [])) _
          refine XS.aloadN X18.here hx rfl (hb hby d1_14) rfl rfl ?_
          show Steps p.tables e below (T18.setTop (mkF m 15 #[.val (.ref a), .val (.ref z_1), .val (.int (8 : Int32)), .val (.int (3 : Int32)), .val (.ref s_SUM_LONG)] [(.ref z_1)])) _
          refine XS.iloadN X18.here hx rfl (hb hby d1_15) rfl ?_
          show Steps p.tables e below (T18.setTop (mkF m 16 #[.val (.ref a), .val (.ref z_1), .val (.int (8 : Int32)), .val (.int (3 : Int32)), .val (.ref s_SUM_LONG)] [(.int (3 : Int32)), (.ref z_1)])) _
          refine X18.aaload hx (j := (3 : Int32)) (v := (.ref s_SUM_DOUBLE)) (by rw [eh18]; exact Ar21.1) (State.isArrayOf_alike hZ.alike Ar21.2.1) rfl Ar21.2.2 hin21 hat21 (g := (mkF m 16 #[.val (.ref a), .val (.ref z_1), .val (.int (8 : Int32)), .val (.int (3 : Int32)), .val (.ref s_SUM_LONG)] [(.int (3 : Int32)), (.ref z_1)])) rfl rfl (hb hby d1_16) _ ?_
          show Steps p.tables e below (T18.setTop (mkF m 17 #[.val (.ref a), .val (.ref z_1), .val (.int (8 : Int32)), .val (.int (3 : Int32)), .val (.ref s_SUM_LONG)] [(.ref s_SUM_DOUBLE)])) _
          refine XS.astore X18.here hx rfl (hb hby d1_17) rfl rfl (l' := #[.val (.ref a), .val (.ref z_1), .val (.int (8 : Int32)), .val (.int (3 : Int32)), .val (.ref s_SUM_DOUBLE)]) rfl ?_
          show Steps p.tables e below (T18.setTop (mkF m 19 #[.val (.ref a), .val (.ref z_1), .val (.int (8 : Int32)), .val (.int (3 : Int32)), .val (.ref s_SUM_DOUBLE)] [])) _
          refine XS.aload X18.here hx rfl (hb hby d1_19) rfl rfl ?_
          show Steps p.tables e below (T18.setTop (mkF m 21 #[.val (.ref a), .val (.ref z_1), .val (.int (8 : Int32)), .val (.int (3 : Int32)), .val (.ref s_SUM_DOUBLE)] [(.ref s_SUM_DOUBLE)])) _
          exact k
        obtain ⟨cq23, kq23, q23a, q23b, q23c⟩ := isOf hZ eh18 E_s_SUM_DOUBLE
        obtain ⟨_, _, ⟨T23, L23, k23, n23⟩, -, X23, sn23, gr23, ⟨Lc23, hQ23, l23, y23, z23, R23⟩, st23⟩ := X18.virtualBackS hx (y := (⟨"com/example/querent/querent/translation/Aggregation", "operation", "()Ljava/lang/String;"⟩ : MethodName)) (z := (⟨"com/example/querent/querent/translation/Aggregation", "operation", "()Ljava/lang/String;"⟩ : MethodName)) hown (mvT hZ (hw _ (List.mem_of_getElem? (i := 70) rfl))) (mvT hZ (hw _ (List.mem_of_getElem? (i := 71) rfl))) (notFace_of_selects (args := #[]) (mvT hZ (hw _ (List.mem_of_getElem? (i := 73) rfl)))) (mvT hZ (hw _ (List.mem_of_getElem? (i := 73) rfl))) (mvT hZ (hw _ (List.mem_of_getElem? (i := 72) rfl))) (by decide) (backOfSH (W := 0) (rm3_3 l Z a0 hw [] s_SUM_DOUBLE T17.heap n0 O E_s_SUM_DOUBLE F_ordinal_s_SUM_DOUBLE) hZ (hw _ (List.mem_of_getElem? (i := 74) rfl)) (hw _ (List.mem_of_getElem? (i := 35) rfl)) (by decide) (by decide) hEL C.1) q23a q23c (g := (mkF m 21 #[.val (.ref a), .val (.ref z_1), .val (.int (8 : Int32)), .val (.int (3 : Int32)), .val (.ref s_SUM_DOUBLE)] [(.ref s_SUM_DOUBLE)])) rfl (by rw [hml]; rfl) (Steps.refl _) (argsL := []) (rest := []) (lenOf pd__40_41Ljava_47lang_47String_59 rfl) rfl (by show 2 * 0 + _ ≤ _; exact Nat.le_of_eq rfl) (hb hby d1_21) (fun _ _ => ⟨rfl, eh18, (by decide : 7 + 2 ≤ _), (by decide : 108 + 40 ≤ _)⟩)
        dsimp only [Pt.U, Pt.locs, Pt.cells, Pt.slots] at X23 l23 y23 z23 st23 hQ23 sn23 gr23 R23
        have X23 := own_un X23 l23 y23 z23
        obtain ⟨X23, hS, hZ, hown⟩ := rebS hS (by rw [eh18]; exact hk) X23 sn23 gr23 hZ hown
        obtain ⟨z_23, t1_23, kb_23, rfl, N23q, K23, E_z_c23, F_c_z_c23, F_v_z_c23, V_t_c23⟩ := hQ23
        have N23 := Fr.app N18 N23q
        have R := R23
        have C := C.trans R
        have hk : T23.heap.size ≤ T23.heap.size := Nat.le_refl _
        have E_a := E_a.keep K23
        have F_v_a := F_v_a.keep K23 nin0
        have F_c_a := F_c_a.keep K23 nin0
        have V_t1 := V_t1.keep K23 nin0
        have V_z_c1 := V_z_c1.keep K23 nin0
        have E_s_SUM_DOUBLE := E_s_SUM_DOUBLE.keep K23
        have F_ordinal_s_SUM_DOUBLE := F_ordinal_s_SUM_DOUBLE.keep K23 nin0
        have O := O.keep K23 all0
        have K := K.trans K23 all0
        obtain ⟨cq24, kq24, q24a, q24b, q24c⟩ := isOf hZ rfl E_z_c23
        obtain ⟨v24, _, ⟨T24, L24, k24, n24⟩, -, X24, ⟨Lc24, hQ24, l24, y24, z24⟩, st24⟩ := X23.virtualBack hx (y := (⟨"java/lang/String", "equals", "(Ljava/lang/Object;)Z"⟩ : MethodName)) (z := (⟨"java/lang/String", "equals", "(Ljava/lang/Object;)Z"⟩ : MethodName)) hown (mvT hZ (hw _ (List.mem_of_getElem? (i := 85) rfl))) (mvT hZ (hw _ (List.mem_of_getElem? (i := 86) rfl))) (notFace_of_selects (args := #[]) (mvT hZ (hw _ (List.mem_of_getElem? (i := 88) rfl)))) (mvT hZ (hw _ (List.mem_of_getElem? (i := 88) rfl))) (mvT hZ (hw _ (List.mem_of_getElem? (i := 87) rfl))) (by decide) (StrChars.Road.eqW (W := 0) hZ (own_wEq hw) (kI := 4) (hw _ (List.mem_of_getElem? (i := 4) rfl)) E_z_c23 F_v_z_c23 F_c_z_c23 V_t_c23 own_cod_115_117_109_68_111_117_98_108_101 own_cod_115_117_109_68_111_117_98_108_101b (Nat.le_of_ble_eq_true rfl) E_a F_v_a F_c_a V_t1 cod bd hl (SC.ext O.2) hzc (by decide) (by decide)) q24a q24c (g := (mkF m 25 #[.val (.ref a), .val (.ref z_1), .val (.int (8 : Int32)), .val (.int (3 : Int32)), .val (.ref s_SUM_DOUBLE)] [(.ref a), (.ref z_23)])) rfl (by rw [hml]; rfl) (Steps.refl _) (argsL := [(.ref a)]) (rest := []) (lenOf pd__40Ljava_47lang_47Object_59_41Z rfl) rfl (by show 2 * 0 + _ ≤ _; exact Nat.le_of_eq rfl) (hb hby d1_25) (fun _ _ => ⟨rfl, rfl, (by decide : 9 + 0 ≤ _), (by decide : 148 + 0 ≤ _)⟩)
        dsimp only [Pt.U, Pt.locs, Pt.cells, Pt.slots] at X24 l24 y24 z24 st24 hQ24
        have X24 := own_un X24 l24 y24 z24
        obtain ⟨hv24, rfl, eh24⟩ := hQ24
        obtain rfl : v24 = some (.int (own_eqs ([(115 : Int32), (117 : Int32), (109 : Int32), (68 : Int32), (111 : Int32), (117 : Int32), (98 : Int32), (108 : Int32), (101 : Int32)] : List Int32) cs)) := by rcases hv24 with ⟨h1, h2⟩ | ⟨h1, h2⟩ <;> rw [h1] <;> simp only [own_eqs, h2, if_true, if_false]
        have N24 := Fr.app N23 (Fr.nil n0)
        have w25 : ∀ t, Steps p.tables e below (T24.setTop (mkF m 28 #[.val (.ref a), .val (.ref z_1), .val (.int (8 : Int32)), .val (.int (3 : Int32)), .val (.ref s_SUM_DOUBLE)] [(.int (own_eqs ([(115 : Int32), (117 : Int32), (109 : Int32), (68 : Int32), (111 : Int32), (117 : Int32), (98 : Int32), (108 : Int32), (101 : Int32)] : List Int32) cs))])) t → Steps p.tables e below (s₁.setTop (entryFrame m #[(.ref a)] 5)) t := fun t k => by
          refine w22 t ?_
          refine st23.trans ?_
          show Steps p.tables e below (T23.setTop (mkF m 24 #[.val (.ref a), .val (.ref z_1), .val (.int (8 : Int32)), .val (.int (3 : Int32)), .val (.ref s_SUM_DOUBLE)] [(.ref z_23)])) _
          refine XS.aloadN X23.here hx rfl (hb hby d1_24) rfl rfl ?_
          show Steps p.tables e below (T23.setTop (mkF m 25 #[.val (.ref a), .val (.ref z_1), .val (.int (8 : Int32)), .val (.int (3 : Int32)), .val (.ref s_SUM_DOUBLE)] [(.ref a), (.ref z_23)])) _
          refine st24.trans ?_
          show Steps p.tables e below (T24.setTop (mkF m 28 #[.val (.ref a), .val (.ref z_1), .val (.int (8 : Int32)), .val (.int (3 : Int32)), .val (.ref s_SUM_DOUBLE)] [(.int (own_eqs ([(115 : Int32), (117 : Int32), (109 : Int32), (68 : Int32), (111 : Int32), (117 : Int32), (98 : Int32), (108 : Int32), (101 : Int32)] : List Int32) cs))])) _
          exact k
        by_cases hc28_26 : (own_eqs ([(115 : Int32), (117 : Int32), (109 : Int32), (68 : Int32), (111 : Int32), (117 : Int32), (98 : Int32), (108 : Int32), (101 : Int32)] : List Int32) cs) = (0 : Int32)
        · obtain ⟨cl27, Ar27, q27, Z27, N27, H27, G27⟩ := id V_z_c1
          have hin27 : ¬ ((4 : Int32) < 0 ∨ cl27.slots.size ≤ ((4 : Int32)).toNatClampNeg) := inb_of Z27 ⟨by decide, by decide⟩
          have hat27 : cl27.slots[((4 : Int32)).toNatClampNeg]? = some (.ref s_SUM_BIG_DECIMAL) := H27.at hin27 rfl
          have E_s_SUM_BIG_DECIMAL := o_E_s_SUM_BIG_DECIMAL.ext O.2
          have F_ordinal_s_SUM_BIG_DECIMAL := o_F_ordinal_s_SUM_BIG_DECIMAL.ext O.2
          have w28 : ∀ t, Steps p.tables e below (T24.setTop (mkF m 21 #[.val (.ref a), .val (.ref z_1), .val (.int (8 : Int32)), .val (.int (4 : Int32)), .val (.ref s_SUM_BIG_DECIMAL)] [(.ref s_SUM_BIG_DECIMAL)])) t → Steps p.tables e below (s₁.setTop (entryFrame m #[(.ref a)] 5)) t := fun t k => by
            refine w25 t ?_
            refine XS.ifYes X24.here hx rfl (pc0 := 28) (pc' := 37) rfl (hb hby d1_28) rfl ((if0 _ _).trans (teq hc28_26).1) (by decide) (by decide) ?_
            show Steps p.tables e below (T24.setTop (mkF m 37 #[.val (.ref a), .val (.ref z_1), .val (.int (8 : Int32)), .val (.int (3 : Int32)), .val (.ref s_SUM_DOUBLE)] [])) _
            refine XS.iinc X24.here hx rfl (hb hby d1_37) rfl (l' := #[.val (.ref a), .val (.ref z_1), .val (.int (8 : Int32)), .val (.int (4 : Int32)), .val (.ref s_SUM_DOUBLE)]) rfl ?_
            show Steps p.tables e below (T24.setTop (mkF m 40 #[.val (.ref a), .val (.ref z_1), .val (.int (8 : Int32)), .val (.int (4 : Int32)), .val (.ref s_SUM_DOUBLE)] [])) _
            refine XS.goto X24.here hx rfl (pc0 := 40) (pc' := 9) rfl (hb hby d1_40) (by decide) (by decide) ?_
            show Steps p.tables e below (T24.setTop (mkF m 9 #[.val (.ref a), .val (.ref z_1), .val (.int (8 : Int32)), .val (.int (4 : Int32)), .val (.ref s_SUM_DOUBLE)] [])) _
            refine XS.iloadN X24.here hx rfl (hb hby d1_9) rfl ?_
            show Steps p.tables e below (T24.setTop (mkF m 10 #[.val (.ref a), .val (.ref z_1), .val (.int (8 : Int32)), .val (.int (4 : Int32)), .val (.ref s_SUM_DOUBLE)] [(.int (4 : Int32))])) _
            refine XS.iloadN X24.here hx rfl (hb hby d1_10) rfl ?_
            show Steps p.tables e below (T24.setTop (mkF m 11 #[.val (.ref a), .val (.ref z_1), .val (.int (8 : Int32)), .val (.int (4 : Int32)), .val (.ref s_SUM_DOUBLE)] [(.int (8 : Int32)), (.int (4 : Int32))])) _
            refine XS.icmpNo X24.here hx rfl (hb hby d1_11) rfl (tlt ((by decide) : (4 : Int32) < (8 : Int32))).2.1 ?_
            show Steps p.tables e below (T24.setTop (mkF m 14 #[.val (.ref a), .val (.ref z_1), .val (.int (8 : Int32)), .val (.int (4 : Int32)), .val (.ref s_SUM_DOUBLE)] [])) _
            refine XS.aloadN X24.here hx rfl (hb hby d1_14) rfl rfl ?_
            show Steps p.tables e below (T24.setTop (mkF m 15 #[.val (.ref a), .val (.ref z_1), .val (.int (8 : Int32)), .val (.int (4 : Int32)), .val (.ref s_SUM_DOUBLE)] [(.ref z_1)])) _
            refine XS.iloadN X24.here hx rfl (hb hby d1_15) rfl ?_
            show Steps p.tables e below (T24.setTop (mkF m 16 #[.val (.ref a), .val (.ref z_1), .val (.int (8 : Int32)), .val (.int (4 : Int32)), .val (.ref s_SUM_DOUBLE)] [(.int (4 : Int32)), (.ref z_1)])) _
            refine X24.aaload hx (j := (4 : Int32)) (v := (.ref s_SUM_BIG_DECIMAL)) (by rw [eh24]; exact Ar27.1) (State.isArrayOf_alike hZ.alike Ar27.2.1) rfl Ar27.2.2 hin27 hat27 (g := (mkF m 16 #[.val (.ref a), .val (.ref z_1), .val (.int (8 : Int32)), .val (.int (4 : Int32)), .val (.ref s_SUM_DOUBLE)] [(.int (4 : Int32)), (.ref z_1)])) rfl rfl (hb hby d1_16) _ ?_
            show Steps p.tables e below (T24.setTop (mkF m 17 #[.val (.ref a), .val (.ref z_1), .val (.int (8 : Int32)), .val (.int (4 : Int32)), .val (.ref s_SUM_DOUBLE)] [(.ref s_SUM_BIG_DECIMAL)])) _
            refine XS.astore X24.here hx rfl (hb hby d1_17) rfl rfl (l' := #[.val (.ref a), .val (.ref z_1), .val (.int (8 : Int32)), .val (.int (4 : Int32)), .val (.ref s_SUM_BIG_DECIMAL)]) rfl ?_
            show Steps p.tables e below (T24.setTop (mkF m 19 #[.val (.ref a), .val (.ref z_1), .val (.int (8 : Int32)), .val (.int (4 : Int32)), .val (.ref s_SUM_BIG_DECIMAL)] [])) _
            refine XS.aload X24.here hx rfl (hb hby d1_19) rfl rfl ?_
            show Steps p.tables e below (T24.setTop (mkF m 21 #[.val (.ref a), .val (.ref z_1), .val (.int (8 : Int32)), .val (.int (4 : Int32)), .val (.ref s_SUM_BIG_DECIMAL)] [(.ref s_SUM_BIG_DECIMAL)])) _
            exact k
          obtain ⟨cq29, kq29, q29a, q29b, q29c⟩ := isOf hZ eh24 E_s_SUM_BIG_DECIMAL
          obtain ⟨_, _, ⟨T29, L29, k29, n29⟩, -, X29, sn29, gr29, ⟨Lc29, hQ29, l29, y29, z29, R29⟩, st29⟩ := X24.virtualBackS hx (y := (⟨"com/example/querent/querent/translation/Aggregation", "operation", "()Ljava/lang/String;"⟩ : MethodName)) (z := (⟨"com/example/querent/querent/translation/Aggregation", "operation", "()Ljava/lang/String;"⟩ : MethodName)) hown (mvT hZ (hw _ (List.mem_of_getElem? (i := 70) rfl))) (mvT hZ (hw _ (List.mem_of_getElem? (i := 71) rfl))) (notFace_of_selects (args := #[]) (mvT hZ (hw _ (List.mem_of_getElem? (i := 73) rfl)))) (mvT hZ (hw _ (List.mem_of_getElem? (i := 73) rfl))) (mvT hZ (hw _ (List.mem_of_getElem? (i := 72) rfl))) (by decide) (backOfSH (W := 0) (rm3_4 l Z a0 hw [] s_SUM_BIG_DECIMAL T23.heap n0 O E_s_SUM_BIG_DECIMAL F_ordinal_s_SUM_BIG_DECIMAL) hZ (hw _ (List.mem_of_getElem? (i := 74) rfl)) (hw _ (List.mem_of_getElem? (i := 35) rfl)) (by decide) (by decide) hEL C.1) q29a q29c (g := (mkF m 21 #[.val (.ref a), .val (.ref z_1), .val (.int (8 : Int32)), .val (.int (4 : Int32)), .val (.ref s_SUM_BIG_DECIMAL)] [(.ref s_SUM_BIG_DECIMAL)])) rfl (by rw [hml]; rfl) (Steps.refl _) (argsL := []) (rest := []) (lenOf pd__40_41Ljava_47lang_47String_59 rfl) rfl (by show 2 * 0 + _ ≤ _; exact Nat.le_of_eq rfl) (hb hby d1_21) (fun _ _ => ⟨rfl, eh24, (by decide : 9 + 2 ≤ _), (by decide : 148 + 56 ≤ _)⟩)
          dsimp only [Pt.U, Pt.locs, Pt.cells, Pt.slots] at X29 l29 y29 z29 st29 hQ29 sn29 gr29 R29
          have X29 := own_un X29 l29 y29 z29
          obtain ⟨X29, hS, hZ, hown⟩ := rebS hS (by rw [eh24]; exact hk) X29 sn29 gr29 hZ hown
          obtain ⟨z_29, t1_29, kb_29, rfl, N29q, K29, E_z_c29, F_c_z_c29, F_v_z_c29, V_t_c29⟩ := hQ29
          have N29 := Fr.app N24 N29q
          have R := R29
          have C := C.trans R
          have hk : T29.heap.size ≤ T29.heap.size := Nat.le_refl _
          have E_a := E_a.keep K29
          have F_v_a := F_v_a.keep K29 nin0
          have F_c_a := F_c_a.keep K29 nin0
          have V_t1 := V_t1.keep K29 nin0
          have V_z_c1 := V_z_c1.keep K29 nin0
          have E_s_SUM_BIG_DECIMAL := E_s_SUM_BIG_DECIMAL.keep K29
          have F_ordinal_s_SUM_BIG_DECIMAL := F_ordinal_s_SUM_BIG_DECIMAL.keep K29 nin0
          have O := O.keep K29 all0
          have K := K.trans K29 all0
          obtain ⟨cq30, kq30, q30a, q30b, q30c⟩ := isOf hZ rfl E_z_c29
          obtain ⟨v30, _, ⟨T30, L30, k30, n30⟩, -, X30, ⟨Lc30, hQ30, l30, y30, z30⟩, st30⟩ := X29.virtualBack hx (y := (⟨"java/lang/String", "equals", "(Ljava/lang/Object;)Z"⟩ : MethodName)) (z := (⟨"java/lang/String", "equals", "(Ljava/lang/Object;)Z"⟩ : MethodName)) hown (mvT hZ (hw _ (List.mem_of_getElem? (i := 85) rfl))) (mvT hZ (hw _ (List.mem_of_getElem? (i := 86) rfl))) (notFace_of_selects (args := #[]) (mvT hZ (hw _ (List.mem_of_getElem? (i := 88) rfl)))) (mvT hZ (hw _ (List.mem_of_getElem? (i := 88) rfl))) (mvT hZ (hw _ (List.mem_of_getElem? (i := 87) rfl))) (by decide) (StrChars.Road.eqW (W := 0) hZ (own_wEq hw) (kI := 4) (hw _ (List.mem_of_getElem? (i := 4) rfl)) E_z_c29 F_v_z_c29 F_c_z_c29 V_t_c29 own_cod_115_117_109_66_105_103_68_101_99_105_109_97_108 own_cod_115_117_109_66_105_103_68_101_99_105_109_97_108b (Nat.le_of_ble_eq_true rfl) E_a F_v_a F_c_a V_t1 cod bd hl (SC.ext O.2) hzc (by decide) (by decide)) q30a q30c (g := (mkF m 25 #[.val (.ref a), .val (.ref z_1), .val (.int (8 : Int32)), .val (.int (4 : Int32)), .val (.ref s_SUM_BIG_DECIMAL)] [(.ref a), (.ref z_29)])) rfl (by rw [hml]; rfl) (Steps.refl _) (argsL := [(.ref a)]) (rest := []) (lenOf pd__40Ljava_47lang_47Object_59_41Z rfl) rfl (by show 2 * 0 + _ ≤ _; exact Nat.le_of_eq rfl) (hb hby d1_25) (fun _ _ => ⟨rfl, rfl, (by decide : 11 + 0 ≤ _), (by decide : 204 + 0 ≤ _)⟩)
          dsimp only [Pt.U, Pt.locs, Pt.cells, Pt.slots] at X30 l30 y30 z30 st30 hQ30
          have X30 := own_un X30 l30 y30 z30
          obtain ⟨hv30, rfl, eh30⟩ := hQ30
          obtain rfl : v30 = some (.int (own_eqs ([(115 : Int32), (117 : Int32), (109 : Int32), (66 : Int32), (105 : Int32), (103 : Int32), (68 : Int32), (101 : Int32), (99 : Int32), (105 : Int32), (109 : Int32), (97 : Int32), (108 : Int32)] : List Int32) cs)) := by rcases hv30 with ⟨h1, h2⟩ | ⟨h1, h2⟩ <;> rw [h1] <;> simp only [own_eqs, h2, if_true, if_false]
          have N30 := Fr.app N29 (Fr.nil n0)
          have w31 : ∀ t, Steps p.tables e below (T30.setTop (mkF m 28 #[.val (.ref a), .val (.ref z_1), .val (.int (8 : Int32)), .val (.int (4 : Int32)), .val (.ref s_SUM_BIG_DECIMAL)] [(.int (own_eqs ([(115 : Int32), (117 : Int32), (109 : Int32), (66 : Int32), (105 : Int32), (103 : Int32), (68 : Int32), (101 : Int32), (99 : Int32), (105 : Int32), (109 : Int32), (97 : Int32), (108 : Int32)] : List Int32) cs))])) t → Steps p.tables e below (s₁.setTop (entryFrame m #[(.ref a)] 5)) t := fun t k => by
            refine w28 t ?_
            refine st29.trans ?_
            show Steps p.tables e below (T29.setTop (mkF m 24 #[.val (.ref a), .val (.ref z_1), .val (.int (8 : Int32)), .val (.int (4 : Int32)), .val (.ref s_SUM_BIG_DECIMAL)] [(.ref z_29)])) _
            refine XS.aloadN X29.here hx rfl (hb hby d1_24) rfl rfl ?_
            show Steps p.tables e below (T29.setTop (mkF m 25 #[.val (.ref a), .val (.ref z_1), .val (.int (8 : Int32)), .val (.int (4 : Int32)), .val (.ref s_SUM_BIG_DECIMAL)] [(.ref a), (.ref z_29)])) _
            refine st30.trans ?_
            show Steps p.tables e below (T30.setTop (mkF m 28 #[.val (.ref a), .val (.ref z_1), .val (.int (8 : Int32)), .val (.int (4 : Int32)), .val (.ref s_SUM_BIG_DECIMAL)] [(.int (own_eqs ([(115 : Int32), (117 : Int32), (109 : Int32), (66 : Int32), (105 : Int32), (103 : Int32), (68 : Int32), (101 : Int32), (99 : Int32), (105 : Int32), (109 : Int32), (97 : Int32), (108 : Int32)] : List Int32) cs))])) _
            exact k
          by_cases hc28_32 : (own_eqs ([(115 : Int32), (117 : Int32), (109 : Int32), (66 : Int32), (105 : Int32), (103 : Int32), (68 : Int32), (101 : Int32), (99 : Int32), (105 : Int32), (109 : Int32), (97 : Int32), (108 : Int32)] : List Int32) cs) = (0 : Int32)
          · obtain ⟨cl33, Ar33, q33, Z33, N33, H33, G33⟩ := id V_z_c1
            have hin33 : ¬ ((5 : Int32) < 0 ∨ cl33.slots.size ≤ ((5 : Int32)).toNatClampNeg) := inb_of Z33 ⟨by decide, by decide⟩
            have hat33 : cl33.slots[((5 : Int32)).toNatClampNeg]? = some (.ref s_MIN) := H33.at hin33 rfl
            have E_s_MIN := o_E_s_MIN.ext O.2
            have F_ordinal_s_MIN := o_F_ordinal_s_MIN.ext O.2
            have w34 : ∀ t, Steps p.tables e below (T30.setTop (mkF m 21 #[.val (.ref a), .val (.ref z_1), .val (.int (8 : Int32)), .val (.int (5 : Int32)), .val (.ref s_MIN)] [(.ref s_MIN)])) t → Steps p.tables e below (s₁.setTop (entryFrame m #[(.ref a)] 5)) t := fun t k => by
              refine w31 t ?_
              refine XS.ifYes X30.here hx rfl (pc0 := 28) (pc' := 37) rfl (hb hby d1_28) rfl ((if0 _ _).trans (teq hc28_32).1) (by decide) (by decide) ?_
              show Steps p.tables e below (T30.setTop (mkF m 37 #[.val (.ref a), .val (.ref z_1), .val (.int (8 : Int32)), .val (.int (4 : Int32)), .val (.ref s_SUM_BIG_DECIMAL)] [])) _
              refine XS.iinc X30.here hx rfl (hb hby d1_37) rfl (l' := #[.val (.ref a), .val (.ref z_1), .val (.int (8 : Int32)), .val (.int (5 : Int32)), .val (.ref s_SUM_BIG_DECIMAL)]) rfl ?_
              show Steps p.tables e below (T30.setTop (mkF m 40 #[.val (.ref a), .val (.ref z_1), .val (.int (8 : Int32)), .val (.int (5 : Int32)), .val (.ref s_SUM_BIG_DECIMAL)] [])) _
              refine XS.goto X30.here hx rfl (pc0 := 40) (pc' := 9) rfl (hb hby d1_40) (by decide) (by decide) ?_
              show Steps p.tables e below (T30.setTop (mkF m 9 #[.val (.ref a), .val (.ref z_1), .val (.int (8 : Int32)), .val (.int (5 : Int32)), .val (.ref s_SUM_BIG_DECIMAL)] [])) _
              refine XS.iloadN X30.here hx rfl (hb hby d1_9) rfl ?_
              show Steps p.tables e below (T30.setTop (mkF m 10 #[.val (.ref a), .val (.ref z_1), .val (.int (8 : Int32)), .val (.int (5 : Int32)), .val (.ref s_SUM_BIG_DECIMAL)] [(.int (5 : Int32))])) _
              refine XS.iloadN X30.here hx rfl (hb hby d1_10) rfl ?_
              show Steps p.tables e below (T30.setTop (mkF m 11 #[.val (.ref a), .val (.ref z_1), .val (.int (8 : Int32)), .val (.int (5 : Int32)), .val (.ref s_SUM_BIG_DECIMAL)] [(.int (8 : Int32)), (.int (5 : Int32))])) _
              refine XS.icmpNo X30.here hx rfl (hb hby d1_11) rfl (tlt ((by decide) : (5 : Int32) < (8 : Int32))).2.1 ?_
              show Steps p.tables e below (T30.setTop (mkF m 14 #[.val (.ref a), .val (.ref z_1), .val (.int (8 : Int32)), .val (.int (5 : Int32)), .val (.ref s_SUM_BIG_DECIMAL)] [])) _
              refine XS.aloadN X30.here hx rfl (hb hby d1_14) rfl rfl ?_
              show Steps p.tables e below (T30.setTop (mkF m 15 #[.val (.ref a), .val (.ref z_1), .val (.int (8 : Int32)), .val (.int (5 : Int32)), .val (.ref s_SUM_BIG_DECIMAL)] [(.ref z_1)])) _
              refine XS.iloadN X30.here hx rfl (hb hby d1_15) rfl ?_
              show Steps p.tables e below (T30.setTop (mkF m 16 #[.val (.ref a), .val (.ref z_1), .val (.int (8 : Int32)), .val (.int (5 : Int32)), .val (.ref s_SUM_BIG_DECIMAL)] [(.int (5 : Int32)), (.ref z_1)])) _
              refine X30.aaload hx (j := (5 : Int32)) (v := (.ref s_MIN)) (by rw [eh30]; exact Ar33.1) (State.isArrayOf_alike hZ.alike Ar33.2.1) rfl Ar33.2.2 hin33 hat33 (g := (mkF m 16 #[.val (.ref a), .val (.ref z_1), .val (.int (8 : Int32)), .val (.int (5 : Int32)), .val (.ref s_SUM_BIG_DECIMAL)] [(.int (5 : Int32)), (.ref z_1)])) rfl rfl (hb hby d1_16) _ ?_
              show Steps p.tables e below (T30.setTop (mkF m 17 #[.val (.ref a), .val (.ref z_1), .val (.int (8 : Int32)), .val (.int (5 : Int32)), .val (.ref s_SUM_BIG_DECIMAL)] [(.ref s_MIN)])) _
              refine XS.astore X30.here hx rfl (hb hby d1_17) rfl rfl (l' := #[.val (.ref a), .val (.ref z_1), .val (.int (8 : Int32)), .val (.int (5 : Int32)), .val (.ref s_MIN)]) rfl ?_
              show Steps p.tables e below (T30.setTop (mkF m 19 #[.val (.ref a), .val (.ref z_1), .val (.int (8 : Int32)), .val (.int (5 : Int32)), .val (.ref s_MIN)] [])) _
              refine XS.aload X30.here hx rfl (hb hby d1_19) rfl rfl ?_
              show Steps p.tables e below (T30.setTop (mkF m 21 #[.val (.ref a), .val (.ref z_1), .val (.int (8 : Int32)), .val (.int (5 : Int32)), .val (.ref s_MIN)] [(.ref s_MIN)])) _
              exact k
            obtain ⟨cq35, kq35, q35a, q35b, q35c⟩ := isOf hZ eh30 E_s_MIN
            obtain ⟨_, _, ⟨T35, L35, k35, n35⟩, -, X35, sn35, gr35, ⟨Lc35, hQ35, l35, y35, z35, R35⟩, st35⟩ := X30.virtualBackS hx (y := (⟨"com/example/querent/querent/translation/Aggregation", "operation", "()Ljava/lang/String;"⟩ : MethodName)) (z := (⟨"com/example/querent/querent/translation/Aggregation", "operation", "()Ljava/lang/String;"⟩ : MethodName)) hown (mvT hZ (hw _ (List.mem_of_getElem? (i := 70) rfl))) (mvT hZ (hw _ (List.mem_of_getElem? (i := 71) rfl))) (notFace_of_selects (args := #[]) (mvT hZ (hw _ (List.mem_of_getElem? (i := 73) rfl)))) (mvT hZ (hw _ (List.mem_of_getElem? (i := 73) rfl))) (mvT hZ (hw _ (List.mem_of_getElem? (i := 72) rfl))) (by decide) (backOfSH (W := 0) (rm3_5 l Z a0 hw [] s_MIN T29.heap n0 O E_s_MIN F_ordinal_s_MIN) hZ (hw _ (List.mem_of_getElem? (i := 74) rfl)) (hw _ (List.mem_of_getElem? (i := 35) rfl)) (by decide) (by decide) hEL C.1) q35a q35c (g := (mkF m 21 #[.val (.ref a), .val (.ref z_1), .val (.int (8 : Int32)), .val (.int (5 : Int32)), .val (.ref s_MIN)] [(.ref s_MIN)])) rfl (by rw [hml]; rfl) (Steps.refl _) (argsL := []) (rest := []) (lenOf pd__40_41Ljava_47lang_47String_59 rfl) rfl (by show 2 * 0 + _ ≤ _; exact Nat.le_of_eq rfl) (hb hby d1_21) (fun _ _ => ⟨rfl, eh30, (by decide : 11 + 2 ≤ _), (by decide : 204 + 16 ≤ _)⟩)
            dsimp only [Pt.U, Pt.locs, Pt.cells, Pt.slots] at X35 l35 y35 z35 st35 hQ35 sn35 gr35 R35
            have X35 := own_un X35 l35 y35 z35
            obtain ⟨X35, hS, hZ, hown⟩ := rebS hS (by rw [eh30]; exact hk) X35 sn35 gr35 hZ hown
            obtain ⟨z_35, t1_35, kb_35, rfl, N35q, K35, E_z_c35, F_c_z_c35, F_v_z_c35, V_t_c35⟩ := hQ35
            have N35 := Fr.app N30 N35q
            have R := R35
            have C := C.trans R
            have hk : T35.heap.size ≤ T35.heap.size := Nat.le_refl _
            have E_a := E_a.keep K35
            have F_v_a := F_v_a.keep K35 nin0
            have F_c_a := F_c_a.keep K35 nin0
            have V_t1 := V_t1.keep K35 nin0
            have V_z_c1 := V_z_c1.keep K35 nin0
            have E_s_MIN := E_s_MIN.keep K35
            have F_ordinal_s_MIN := F_ordinal_s_MIN.keep K35 nin0
            have O := O.keep K35 all0
            have K := K.trans K35 all0
            obtain ⟨cq36, kq36, q36a, q36b, q36c⟩ := isOf hZ rfl E_z_c35
            obtain ⟨v36, _, ⟨T36, L36, k36, n36⟩, -, X36, ⟨Lc36, hQ36, l36, y36, z36⟩, st36⟩ := X35.virtualBack hx (y := (⟨"java/lang/String", "equals", "(Ljava/lang/Object;)Z"⟩ : MethodName)) (z := (⟨"java/lang/String", "equals", "(Ljava/lang/Object;)Z"⟩ : MethodName)) hown (mvT hZ (hw _ (List.mem_of_getElem? (i := 85) rfl))) (mvT hZ (hw _ (List.mem_of_getElem? (i := 86) rfl))) (notFace_of_selects (args := #[]) (mvT hZ (hw _ (List.mem_of_getElem? (i := 88) rfl)))) (mvT hZ (hw _ (List.mem_of_getElem? (i := 88) rfl))) (mvT hZ (hw _ (List.mem_of_getElem? (i := 87) rfl))) (by decide) (StrChars.Road.eqW (W := 0) hZ (own_wEq hw) (kI := 4) (hw _ (List.mem_of_getElem? (i := 4) rfl)) E_z_c35 F_v_z_c35 F_c_z_c35 V_t_c35 own_cod_109_105_110 own_cod_109_105_110b (Nat.le_of_ble_eq_true rfl) E_a F_v_a F_c_a V_t1 cod bd hl (SC.ext O.2) hzc (by decide) (by decide)) q36a q36c (g := (mkF m 25 #[.val (.ref a), .val (.ref z_1), .val (.int (8 : Int32)), .val (.int (5 : Int32)), .val (.ref s_MIN)] [(.ref a), (.ref z_35)])) rfl (by rw [hml]; rfl) (Steps.refl _) (argsL := [(.ref a)]) (rest := []) (lenOf pd__40Ljava_47lang_47Object_59_41Z rfl) rfl (by show 2 * 0 + _ ≤ _; exact Nat.le_of_eq rfl) (hb hby d1_25) (fun _ _ => ⟨rfl, rfl, (by decide : 13 + 0 ≤ _), (by decide : 220 + 0 ≤ _)⟩)
            dsimp only [Pt.U, Pt.locs, Pt.cells, Pt.slots] at X36 l36 y36 z36 st36 hQ36
            have X36 := own_un X36 l36 y36 z36
            obtain ⟨hv36, rfl, eh36⟩ := hQ36
            obtain rfl : v36 = some (.int (own_eqs ([(109 : Int32), (105 : Int32), (110 : Int32)] : List Int32) cs)) := by rcases hv36 with ⟨h1, h2⟩ | ⟨h1, h2⟩ <;> rw [h1] <;> simp only [own_eqs, h2, if_true, if_false]
            have N36 := Fr.app N35 (Fr.nil n0)
            have w37 : ∀ t, Steps p.tables e below (T36.setTop (mkF m 28 #[.val (.ref a), .val (.ref z_1), .val (.int (8 : Int32)), .val (.int (5 : Int32)), .val (.ref s_MIN)] [(.int (own_eqs ([(109 : Int32), (105 : Int32), (110 : Int32)] : List Int32) cs))])) t → Steps p.tables e below (s₁.setTop (entryFrame m #[(.ref a)] 5)) t := fun t k => by
              refine w34 t ?_
              refine st35.trans ?_
              show Steps p.tables e below (T35.setTop (mkF m 24 #[.val (.ref a), .val (.ref z_1), .val (.int (8 : Int32)), .val (.int (5 : Int32)), .val (.ref s_MIN)] [(.ref z_35)])) _
              refine XS.aloadN X35.here hx rfl (hb hby d1_24) rfl rfl ?_
              show Steps p.tables e below (T35.setTop (mkF m 25 #[.val (.ref a), .val (.ref z_1), .val (.int (8 : Int32)), .val (.int (5 : Int32)), .val (.ref s_MIN)] [(.ref a), (.ref z_35)])) _
              refine st36.trans ?_
              show Steps p.tables e below (T36.setTop (mkF m 28 #[.val (.ref a), .val (.ref z_1), .val (.int (8 : Int32)), .val (.int (5 : Int32)), .val (.ref s_MIN)] [(.int (own_eqs ([(109 : Int32), (105 : Int32), (110 : Int32)] : List Int32) cs))])) _
              exact k
            by_cases hc28_38 : (own_eqs ([(109 : Int32), (105 : Int32), (110 : Int32)] : List Int32) cs) = (0 : Int32)
            · obtain ⟨cl39, Ar39, q39, Z39, N39, H39, G39⟩ := id V_z_c1
              have hin39 : ¬ ((6 : Int32) < 0 ∨ cl39.slots.size ≤ ((6 : Int32)).toNatClampNeg) := inb_of Z39 ⟨by decide, by decide⟩
              have hat39 : cl39.slots[((6 : Int32)).toNatClampNeg]? = some (.ref s_MAX) := H39.at hin39 rfl
              have E_s_MAX := o_E_s_MAX.ext O.2
              have F_ordinal_s_MAX := o_F_ordinal_s_MAX.ext O.2
              have w40 : ∀ t, Steps p.tables e below (T36.setTop (mkF m 21 #[.val (.ref a), .val (.ref z_1), .val (.int (8 : Int32)), .val (.int (6 : Int32)), .val (.ref s_MAX)] [(.ref s_MAX)])) t → Steps p.tables e below (s₁.setTop (entryFrame m #[(.ref a)] 5)) t := fun t k => by
                refine w37 t ?_
                refine XS.ifYes X36.here hx rfl (pc0 := 28) (pc' := 37) rfl (hb hby d1_28) rfl ((if0 _ _).trans (teq hc28_38).1) (by decide) (by decide) ?_
                show Steps p.tables e below (T36.setTop (mkF m 37 #[.val (.ref a), .val (.ref z_1), .val (.int (8 : Int32)), .val (.int (5 : Int32)), .val (.ref s_MIN)] [])) _
                refine XS.iinc X36.here hx rfl (hb hby d1_37) rfl (l' := #[.val (.ref a), .val (.ref z_1), .val (.int (8 : Int32)), .val (.int (6 : Int32)), .val (.ref s_MIN)]) rfl ?_
                show Steps p.tables e below (T36.setTop (mkF m 40 #[.val (.ref a), .val (.ref z_1), .val (.int (8 : Int32)), .val (.int (6 : Int32)), .val (.ref s_MIN)] [])) _
                refine XS.goto X36.here hx rfl (pc0 := 40) (pc' := 9) rfl (hb hby d1_40) (by decide) (by decide) ?_
                show Steps p.tables e below (T36.setTop (mkF m 9 #[.val (.ref a), .val (.ref z_1), .val (.int (8 : Int32)), .val (.int (6 : Int32)), .val (.ref s_MIN)] [])) _
                refine XS.iloadN X36.here hx rfl (hb hby d1_9) rfl ?_
                show Steps p.tables e below (T36.setTop (mkF m 10 #[.val (.ref a), .val (.ref z_1), .val (.int (8 : Int32)), .val (.int (6 : Int32)), .val (.ref s_MIN)] [(.int (6 : Int32))])) _
                refine XS.iloadN X36.here hx rfl (hb hby d1_10) rfl ?_
                show Steps p.tables e below (T36.setTop (mkF m 11 #[.val (.ref a), .val (.ref z_1), .val (.int (8 : Int32)), .val (.int (6 : Int32)), .val (.ref s_MIN)] [(.int (8 : Int32)), (.int (6 : Int32))])) _
                refine XS.icmpNo X36.here hx rfl (hb hby d1_11) rfl (tlt ((by decide) : (6 : Int32) < (8 : Int32))).2.1 ?_
                show Steps p.tables e below (T36.setTop (mkF m 14 #[.val (.ref a), .val (.ref z_1), .val (.int (8 : Int32)), .val (.int (6 : Int32)), .val (.ref s_MIN)] [])) _
                refine XS.aloadN X36.here hx rfl (hb hby d1_14) rfl rfl ?_
                show Steps p.tables e below (T36.setTop (mkF m 15 #[.val (.ref a), .val (.ref z_1), .val (.int (8 : Int32)), .val (.int (6 : Int32)), .val (.ref s_MIN)] [(.ref z_1)])) _
                refine XS.iloadN X36.here hx rfl (hb hby d1_15) rfl ?_
                show Steps p.tables e below (T36.setTop (mkF m 16 #[.val (.ref a), .val (.ref z_1), .val (.int (8 : Int32)), .val (.int (6 : Int32)), .val (.ref s_MIN)] [(.int (6 : Int32)), (.ref z_1)])) _
                refine X36.aaload hx (j := (6 : Int32)) (v := (.ref s_MAX)) (by rw [eh36]; exact Ar39.1) (State.isArrayOf_alike hZ.alike Ar39.2.1) rfl Ar39.2.2 hin39 hat39 (g := (mkF m 16 #[.val (.ref a), .val (.ref z_1), .val (.int (8 : Int32)), .val (.int (6 : Int32)), .val (.ref s_MIN)] [(.int (6 : Int32)), (.ref z_1)])) rfl rfl (hb hby d1_16) _ ?_
                show Steps p.tables e below (T36.setTop (mkF m 17 #[.val (.ref a), .val (.ref z_1), .val (.int (8 : Int32)), .val (.int (6 : Int32)), .val (.ref s_MIN)] [(.ref s_MAX)])) _
                refine XS.astore X36.here hx rfl (hb hby d1_17) rfl rfl (l' := #[.val (.ref a), .val (.ref z_1), .val (.int (8 : Int32)), .val (.int (6 : Int32)), .val (.ref s_MAX)]) rfl ?_
                show Steps p.tables e below (T36.setTop (mkF m 19 #[.val (.ref a), .val (.ref z_1), .val (.int (8 : Int32)), .val (.int (6 : Int32)), .val (.ref s_MAX)] [])) _
                refine XS.aload X36.here hx rfl (hb hby d1_19) rfl rfl ?_
                show Steps p.tables e below (T36.setTop (mkF m 21 #[.val (.ref a), .val (.ref z_1), .val (.int (8 : Int32)), .val (.int (6 : Int32)), .val (.ref s_MAX)] [(.ref s_MAX)])) _
                exact k
              obtain ⟨cq41, kq41, q41a, q41b, q41c⟩ := isOf hZ eh36 E_s_MAX
              obtain ⟨_, _, ⟨T41, L41, k41, n41⟩, -, X41, sn41, gr41, ⟨Lc41, hQ41, l41, y41, z41, R41⟩, st41⟩ := X36.virtualBackS hx (y := (⟨"com/example/querent/querent/translation/Aggregation", "operation", "()Ljava/lang/String;"⟩ : MethodName)) (z := (⟨"com/example/querent/querent/translation/Aggregation", "operation", "()Ljava/lang/String;"⟩ : MethodName)) hown (mvT hZ (hw _ (List.mem_of_getElem? (i := 70) rfl))) (mvT hZ (hw _ (List.mem_of_getElem? (i := 71) rfl))) (notFace_of_selects (args := #[]) (mvT hZ (hw _ (List.mem_of_getElem? (i := 73) rfl)))) (mvT hZ (hw _ (List.mem_of_getElem? (i := 73) rfl))) (mvT hZ (hw _ (List.mem_of_getElem? (i := 72) rfl))) (by decide) (backOfSH (W := 0) (rm3_6 l Z a0 hw [] s_MAX T35.heap n0 O E_s_MAX F_ordinal_s_MAX) hZ (hw _ (List.mem_of_getElem? (i := 74) rfl)) (hw _ (List.mem_of_getElem? (i := 35) rfl)) (by decide) (by decide) hEL C.1) q41a q41c (g := (mkF m 21 #[.val (.ref a), .val (.ref z_1), .val (.int (8 : Int32)), .val (.int (6 : Int32)), .val (.ref s_MAX)] [(.ref s_MAX)])) rfl (by rw [hml]; rfl) (Steps.refl _) (argsL := []) (rest := []) (lenOf pd__40_41Ljava_47lang_47String_59 rfl) rfl (by show 2 * 0 + _ ≤ _; exact Nat.le_of_eq rfl) (hb hby d1_21) (fun _ _ => ⟨rfl, eh36, (by decide : 13 + 2 ≤ _), (by decide : 220 + 16 ≤ _)⟩)
              dsimp only [Pt.U, Pt.locs, Pt.cells, Pt.slots] at X41 l41 y41 z41 st41 hQ41 sn41 gr41 R41
              have X41 := own_un X41 l41 y41 z41
              obtain ⟨X41, hS, hZ, hown⟩ := rebS hS (by rw [eh36]; exact hk) X41 sn41 gr41 hZ hown
              obtain ⟨z_41, t1_41, kb_41, rfl, N41q, K41, E_z_c41, F_c_z_c41, F_v_z_c41, V_t_c41⟩ := hQ41
              have N41 := Fr.app N36 N41q
              have R := R41
              have C := C.trans R
              have hk : T41.heap.size ≤ T41.heap.size := Nat.le_refl _
              have E_a := E_a.keep K41
              have F_v_a := F_v_a.keep K41 nin0
              have F_c_a := F_c_a.keep K41 nin0
              have V_t1 := V_t1.keep K41 nin0
              have V_z_c1 := V_z_c1.keep K41 nin0
              have E_s_MAX := E_s_MAX.keep K41
              have F_ordinal_s_MAX := F_ordinal_s_MAX.keep K41 nin0
              have O := O.keep K41 all0
              have K := K.trans K41 all0
              obtain ⟨cq42, kq42, q42a, q42b, q42c⟩ := isOf hZ rfl E_z_c41
              obtain ⟨v42, _, ⟨T42, L42, k42, n42⟩, -, X42, ⟨Lc42, hQ42, l42, y42, z42⟩, st42⟩ := X41.virtualBack hx (y := (⟨"java/lang/String", "equals", "(Ljava/lang/Object;)Z"⟩ : MethodName)) (z := (⟨"java/lang/String", "equals", "(Ljava/lang/Object;)Z"⟩ : MethodName)) hown (mvT hZ (hw _ (List.mem_of_getElem? (i := 85) rfl))) (mvT hZ (hw _ (List.mem_of_getElem? (i := 86) rfl))) (notFace_of_selects (args := #[]) (mvT hZ (hw _ (List.mem_of_getElem? (i := 88) rfl)))) (mvT hZ (hw _ (List.mem_of_getElem? (i := 88) rfl))) (mvT hZ (hw _ (List.mem_of_getElem? (i := 87) rfl))) (by decide) (StrChars.Road.eqW (W := 0) hZ (own_wEq hw) (kI := 4) (hw _ (List.mem_of_getElem? (i := 4) rfl)) E_z_c41 F_v_z_c41 F_c_z_c41 V_t_c41 own_cod_109_97_120 own_cod_109_97_120b (Nat.le_of_ble_eq_true rfl) E_a F_v_a F_c_a V_t1 cod bd hl (SC.ext O.2) hzc (by decide) (by decide)) q42a q42c (g := (mkF m 25 #[.val (.ref a), .val (.ref z_1), .val (.int (8 : Int32)), .val (.int (6 : Int32)), .val (.ref s_MAX)] [(.ref a), (.ref z_41)])) rfl (by rw [hml]; rfl) (Steps.refl _) (argsL := [(.ref a)]) (rest := []) (lenOf pd__40Ljava_47lang_47Object_59_41Z rfl) rfl (by show 2 * 0 + _ ≤ _; exact Nat.le_of_eq rfl) (hb hby d1_25) (fun _ _ => ⟨rfl, rfl, (by decide : 15 + 0 ≤ _), (by decide : 236 + 0 ≤ _)⟩)
              dsimp only [Pt.U, Pt.locs, Pt.cells, Pt.slots] at X42 l42 y42 z42 st42 hQ42
              have X42 := own_un X42 l42 y42 z42
              obtain ⟨hv42, rfl, eh42⟩ := hQ42
              obtain rfl : v42 = some (.int (own_eqs ([(109 : Int32), (97 : Int32), (120 : Int32)] : List Int32) cs)) := by rcases hv42 with ⟨h1, h2⟩ | ⟨h1, h2⟩ <;> rw [h1] <;> simp only [own_eqs, h2, if_true, if_false]
              have N42 := Fr.app N41 (Fr.nil n0)
              have w43 : ∀ t, Steps p.tables e below (T42.setTop (mkF m 28 #[.val (.ref a), .val (.ref z_1), .val (.int (8 : Int32)), .val (.int (6 : Int32)), .val (.ref s_MAX)] [(.int (own_eqs ([(109 : Int32), (97 : Int32), (120 : Int32)] : List Int32) cs))])) t → Steps p.tables e below (s₁.setTop (entryFrame m #[(.ref a)] 5)) t := fun t k => by
                refine w40 t ?_
                refine st41.trans ?_
                show Steps p.tables e below (T41.setTop (mkF m 24 #[.val (.ref a), .val (.ref z_1), .val (.int (8 : Int32)), .val (.int (6 : Int32)), .val (.ref s_MAX)] [(.ref z_41)])) _
                refine XS.aloadN X41.here hx rfl (hb hby d1_24) rfl rfl ?_
                show Steps p.tables e below (T41.setTop (mkF m 25 #[.val (.ref a), .val (.ref z_1), .val (.int (8 : Int32)), .val (.int (6 : Int32)), .val (.ref s_MAX)] [(.ref a), (.ref z_41)])) _
                refine st42.trans ?_
                show Steps p.tables e below (T42.setTop (mkF m 28 #[.val (.ref a), .val (.ref z_1), .val (.int (8 : Int32)), .val (.int (6 : Int32)), .val (.ref s_MAX)] [(.int (own_eqs ([(109 : Int32), (97 : Int32), (120 : Int32)] : List Int32) cs))])) _
                exact k
              by_cases hc28_44 : (own_eqs ([(109 : Int32), (97 : Int32), (120 : Int32)] : List Int32) cs) = (0 : Int32)
              · obtain ⟨cl45, Ar45, q45, Z45, N45, H45, G45⟩ := id V_z_c1
                have hin45 : ¬ ((7 : Int32) < 0 ∨ cl45.slots.size ≤ ((7 : Int32)).toNatClampNeg) := inb_of Z45 ⟨by decide, by decide⟩
                have hat45 : cl45.slots[((7 : Int32)).toNatClampNeg]? = some (.ref s_AVG) := H45.at hin45 rfl
                have E_s_AVG := o_E_s_AVG.ext O.2
                have F_ordinal_s_AVG := o_F_ordinal_s_AVG.ext O.2
                have w46 : ∀ t, Steps p.tables e below (T42.setTop (mkF m 21 #[.val (.ref a), .val (.ref z_1), .val (.int (8 : Int32)), .val (.int (7 : Int32)), .val (.ref s_AVG)] [(.ref s_AVG)])) t → Steps p.tables e below (s₁.setTop (entryFrame m #[(.ref a)] 5)) t := fun t k => by
                  refine w43 t ?_
                  refine XS.ifYes X42.here hx rfl (pc0 := 28) (pc' := 37) rfl (hb hby d1_28) rfl ((if0 _ _).trans (teq hc28_44).1) (by decide) (by decide) ?_
                  show Steps p.tables e below (T42.setTop (mkF m 37 #[.val (.ref a), .val (.ref z_1), .val (.int (8 : Int32)), .val (.int (6 : Int32)), .val (.ref s_MAX)] [])) _
                  refine XS.iinc X42.here hx rfl (hb hby d1_37) rfl (l' := #[.val (.ref a), .val (.ref z_1), .val (.int (8 : Int32)), .val (.int (7 : Int32)), .val (.ref s_MAX)]) rfl ?_
                  show Steps p.tables e below (T42.setTop (mkF m 40 #[.val (.ref a), .val (.ref z_1), .val (.int (8 : Int32)), .val (.int (7 : Int32)), .val (.ref s_MAX)] [])) _
                  refine XS.goto X42.here hx rfl (pc0 := 40) (pc' := 9) rfl (hb hby d1_40) (by decide) (by decide) ?_
                  show Steps p.tables e below (T42.setTop (mkF m 9 #[.val (.ref a), .val (.ref z_1), .val (.int (8 : Int32)), .val (.int (7 : Int32)), .val (.ref s_MAX)] [])) _
                  refine XS.iloadN X42.here hx rfl (hb hby d1_9) rfl ?_
                  show Steps p.tables e below (T42.setTop (mkF m 10 #[.val (.ref a), .val (.ref z_1), .val (.int (8 : Int32)), .val (.int (7 : Int32)), .val (.ref s_MAX)] [(.int (7 : Int32))])) _
                  refine XS.iloadN X42.here hx rfl (hb hby d1_10) rfl ?_
                  show Steps p.tables e below (T42.setTop (mkF m 11 #[.val (.ref a), .val (.ref z_1), .val (.int (8 : Int32)), .val (.int (7 : Int32)), .val (.ref s_MAX)] [(.int (8 : Int32)), (.int (7 : Int32))])) _
                  refine XS.icmpNo X42.here hx rfl (hb hby d1_11) rfl (tlt ((by decide) : (7 : Int32) < (8 : Int32))).2.1 ?_
                  show Steps p.tables e below (T42.setTop (mkF m 14 #[.val (.ref a), .val (.ref z_1), .val (.int (8 : Int32)), .val (.int (7 : Int32)), .val (.ref s_MAX)] [])) _
                  refine XS.aloadN X42.here hx rfl (hb hby d1_14) rfl rfl ?_
                  show Steps p.tables e below (T42.setTop (mkF m 15 #[.val (.ref a), .val (.ref z_1), .val (.int (8 : Int32)), .val (.int (7 : Int32)), .val (.ref s_MAX)] [(.ref z_1)])) _
                  refine XS.iloadN X42.here hx rfl (hb hby d1_15) rfl ?_
                  show Steps p.tables e below (T42.setTop (mkF m 16 #[.val (.ref a), .val (.ref z_1), .val (.int (8 : Int32)), .val (.int (7 : Int32)), .val (.ref s_MAX)] [(.int (7 : Int32)), (.ref z_1)])) _
                  refine X42.aaload hx (j := (7 : Int32)) (v := (.ref s_AVG)) (by rw [eh42]; exact Ar45.1) (State.isArrayOf_alike hZ.alike Ar45.2.1) rfl Ar45.2.2 hin45 hat45 (g := (mkF m 16 #[.val (.ref a), .val (.ref z_1), .val (.int (8 : Int32)), .val (.int (7 : Int32)), .val (.ref s_MAX)] [(.int (7 : Int32)), (.ref z_1)])) rfl rfl (hb hby d1_16) _ ?_
                  show Steps p.tables e below (T42.setTop (mkF m 17 #[.val (.ref a), .val (.ref z_1), .val (.int (8 : Int32)), .val (.int (7 : Int32)), .val (.ref s_MAX)] [(.ref s_AVG)])) _
                  refine XS.astore X42.here hx rfl (hb hby d1_17) rfl rfl (l' := #[.val (.ref a), .val (.ref z_1), .val (.int (8 : Int32)), .val (.int (7 : Int32)), .val (.ref s_AVG)]) rfl ?_
                  show Steps p.tables e below (T42.setTop (mkF m 19 #[.val (.ref a), .val (.ref z_1), .val (.int (8 : Int32)), .val (.int (7 : Int32)), .val (.ref s_AVG)] [])) _
                  refine XS.aload X42.here hx rfl (hb hby d1_19) rfl rfl ?_
                  show Steps p.tables e below (T42.setTop (mkF m 21 #[.val (.ref a), .val (.ref z_1), .val (.int (8 : Int32)), .val (.int (7 : Int32)), .val (.ref s_AVG)] [(.ref s_AVG)])) _
                  exact k
                obtain ⟨cq47, kq47, q47a, q47b, q47c⟩ := isOf hZ eh42 E_s_AVG
                obtain ⟨_, _, ⟨T47, L47, k47, n47⟩, -, X47, sn47, gr47, ⟨Lc47, hQ47, l47, y47, z47, R47⟩, st47⟩ := X42.virtualBackS hx (y := (⟨"com/example/querent/querent/translation/Aggregation", "operation", "()Ljava/lang/String;"⟩ : MethodName)) (z := (⟨"com/example/querent/querent/translation/Aggregation", "operation", "()Ljava/lang/String;"⟩ : MethodName)) hown (mvT hZ (hw _ (List.mem_of_getElem? (i := 70) rfl))) (mvT hZ (hw _ (List.mem_of_getElem? (i := 71) rfl))) (notFace_of_selects (args := #[]) (mvT hZ (hw _ (List.mem_of_getElem? (i := 73) rfl)))) (mvT hZ (hw _ (List.mem_of_getElem? (i := 73) rfl))) (mvT hZ (hw _ (List.mem_of_getElem? (i := 72) rfl))) (by decide) (backOfSH (W := 0) (rm3_7 l Z a0 hw [] s_AVG T41.heap n0 O E_s_AVG F_ordinal_s_AVG) hZ (hw _ (List.mem_of_getElem? (i := 74) rfl)) (hw _ (List.mem_of_getElem? (i := 35) rfl)) (by decide) (by decide) hEL C.1) q47a q47c (g := (mkF m 21 #[.val (.ref a), .val (.ref z_1), .val (.int (8 : Int32)), .val (.int (7 : Int32)), .val (.ref s_AVG)] [(.ref s_AVG)])) rfl (by rw [hml]; rfl) (Steps.refl _) (argsL := []) (rest := []) (lenOf pd__40_41Ljava_47lang_47String_59 rfl) rfl (by show 2 * 0 + _ ≤ _; exact Nat.le_of_eq rfl) (hb hby d1_21) (fun _ _ => ⟨rfl, eh42, (by decide : 15 + 2 ≤ _), (by decide : 236 + 16 ≤ _)⟩)
                dsimp only [Pt.U, Pt.locs, Pt.cells, Pt.slots] at X47 l47 y47 z47 st47 hQ47 sn47 gr47 R47
                have X47 := own_un X47 l47 y47 z47
                obtain ⟨X47, hS, hZ, hown⟩ := rebS hS (by rw [eh42]; exact hk) X47 sn47 gr47 hZ hown
                obtain ⟨z_47, t1_47, kb_47, rfl, N47q, K47, E_z_c47, F_c_z_c47, F_v_z_c47, V_t_c47⟩ := hQ47
                have N47 := Fr.app N42 N47q
                have R := R47
                have C := C.trans R
                have hk : T47.heap.size ≤ T47.heap.size := Nat.le_refl _
                have E_a := E_a.keep K47
                have F_v_a := F_v_a.keep K47 nin0
                have F_c_a := F_c_a.keep K47 nin0
                have V_t1 := V_t1.keep K47 nin0
                have V_z_c1 := V_z_c1.keep K47 nin0
                have E_s_AVG := E_s_AVG.keep K47
                have F_ordinal_s_AVG := F_ordinal_s_AVG.keep K47 nin0
                have O := O.keep K47 all0
                have K := K.trans K47 all0
                obtain ⟨cq48, kq48, q48a, q48b, q48c⟩ := isOf hZ rfl E_z_c47
                obtain ⟨v48, _, ⟨T48, L48, k48, n48⟩, -, X48, ⟨Lc48, hQ48, l48, y48, z48⟩, st48⟩ := X47.virtualBack hx (y := (⟨"java/lang/String", "equals", "(Ljava/lang/Object;)Z"⟩ : MethodName)) (z := (⟨"java/lang/String", "equals", "(Ljava/lang/Object;)Z"⟩ : MethodName)) hown (mvT hZ (hw _ (List.mem_of_getElem? (i := 85) rfl))) (mvT hZ (hw _ (List.mem_of_getElem? (i := 86) rfl))) (notFace_of_selects (args := #[]) (mvT hZ (hw _ (List.mem_of_getElem? (i := 88) rfl)))) (mvT hZ (hw _ (List.mem_of_getElem? (i := 88) rfl))) (mvT hZ (hw _ (List.mem_of_getElem? (i := 87) rfl))) (by decide) (StrChars.Road.eqW (W := 0) hZ (own_wEq hw) (kI := 4) (hw _ (List.mem_of_getElem? (i := 4) rfl)) E_z_c47 F_v_z_c47 F_c_z_c47 V_t_c47 own_cod_97_118_103 own_cod_97_118_103b (Nat.le_of_ble_eq_true rfl) E_a F_v_a F_c_a V_t1 cod bd hl (SC.ext O.2) hzc (by decide) (by decide)) q48a q48c (g := (mkF m 25 #[.val (.ref a), .val (.ref z_1), .val (.int (8 : Int32)), .val (.int (7 : Int32)), .val (.ref s_AVG)] [(.ref a), (.ref z_47)])) rfl (by rw [hml]; rfl) (Steps.refl _) (argsL := [(.ref a)]) (rest := []) (lenOf pd__40Ljava_47lang_47Object_59_41Z rfl) rfl (by show 2 * 0 + _ ≤ _; exact Nat.le_of_eq rfl) (hb hby d1_25) (fun _ _ => ⟨rfl, rfl, (by decide : 17 + 0 ≤ _), (by decide : 252 + 0 ≤ _)⟩)
                dsimp only [Pt.U, Pt.locs, Pt.cells, Pt.slots] at X48 l48 y48 z48 st48 hQ48
                have X48 := own_un X48 l48 y48 z48
                obtain ⟨hv48, rfl, eh48⟩ := hQ48
                obtain rfl : v48 = some (.int (own_eqs ([(97 : Int32), (118 : Int32), (103 : Int32)] : List Int32) cs)) := by rcases hv48 with ⟨h1, h2⟩ | ⟨h1, h2⟩ <;> rw [h1] <;> simp only [own_eqs, h2, if_true, if_false]
                have N48 := Fr.app N47 (Fr.nil n0)
                have w49 : ∀ t, Steps p.tables e below (T48.setTop (mkF m 28 #[.val (.ref a), .val (.ref z_1), .val (.int (8 : Int32)), .val (.int (7 : Int32)), .val (.ref s_AVG)] [(.int (own_eqs ([(97 : Int32), (118 : Int32), (103 : Int32)] : List Int32) cs))])) t → Steps p.tables e below (s₁.setTop (entryFrame m #[(.ref a)] 5)) t := fun t k => by
                  refine w46 t ?_
                  refine st47.trans ?_
                  show Steps p.tables e below (T47.setTop (mkF m 24 #[.val (.ref a), .val (.ref z_1), .val (.int (8 : Int32)), .val (.int (7 : Int32)), .val (.ref s_AVG)] [(.ref z_47)])) _
                  refine XS.aloadN X47.here hx rfl (hb hby d1_24) rfl rfl ?_
                  show Steps p.tables e below (T47.setTop (mkF m 25 #[.val (.ref a), .val (.ref z_1), .val (.int (8 : Int32)), .val (.int (7 : Int32)), .val (.ref s_AVG)] [(.ref a), (.ref z_47)])) _
                  refine st48.trans ?_
                  show Steps p.tables e below (T48.setTop (mkF m 28 #[.val (.ref a), .val (.ref z_1), .val (.int (8 : Int32)), .val (.int (7 : Int32)), .val (.ref s_AVG)] [(.int (own_eqs ([(97 : Int32), (118 : Int32), (103 : Int32)] : List Int32) cs))])) _
                  exact k
                by_cases hc28_50 : (own_eqs ([(97 : Int32), (118 : Int32), (103 : Int32)] : List Int32) cs) = (0 : Int32)
                · have E_s_EMPTY := o_E_s_EMPTY.ext O.2
                  have F_o_s_EMPTY := o_F_o_s_EMPTY.ext O.2
                  obtain ⟨_, _, ⟨T51, L51, k51, n51⟩, -, X51, ⟨Lc51, hQ51, l51, y51, z51⟩, st51⟩ := Jvm.LawKit.callS X48 hx (y := (⟨"java/util/Optional", "empty", "()Ljava/util/Optional;"⟩ : MethodName)) hown (mvT hZ (hw _ (List.mem_of_getElem? (i := 129) rfl))) (mvT hZ (hw _ (List.mem_of_getElem? (i := 130) rfl))) (mvT hZ (hw _ (List.mem_of_getElem? (i := 92) rfl))) (mvT hZ (hw _ (List.mem_of_getElem? (i := 131) rfl))) (by decide) (backOf (W := 0) (rm12 l Z a0 hw [] s_EMPTY T47.heap n0 O S_s_EMPTY) hZ (hw _ (List.mem_of_getElem? (i := 131) rfl)) (hw _ (List.mem_of_getElem? (i := 92) rfl)) (by decide) (by decide)) (g := (mkF m 43 #[.val (.ref a), .val (.ref z_1), .val (.int (8 : Int32)), .val (.int (8 : Int32)), .val (.ref s_AVG)] [])) rfl (by rw [hml]; rfl) (argsL := []) (rest := []) (lenOf pd__40_41Ljava_47util_47Optional_59 rfl) rfl (by show 2 * 0 + _ ≤ _; exact Nat.le_of_eq rfl) (hb hby d1_43) (fun _ _ => ⟨rfl, eh48, (by decide : 17 + 0 ≤ _), (by decide : 252 + 0 ≤ _)⟩)
                  dsimp only [Pt.U, Pt.locs, Pt.cells, Pt.slots] at X51 l51 y51 z51 st51 hQ51
                  have X51 := own_un X51 l51 y51 z51
                  obtain ⟨rfl, N51q, eh51⟩ := hQ51
                  have N51 := Fr.app N48 N51q
                  have w52 : ∀ t, Steps p.tables e below (T51.setTop (mkF m 46 #[.val (.ref a), .val (.ref z_1), .val (.int (8 : Int32)), .val (.int (8 : Int32)), .val (.ref s_AVG)] [(.ref s_EMPTY)])) t → Steps p.tables e below (s₁.setTop (entryFrame m #[(.ref a)] 5)) t := fun t k => by
                    refine w49 t ?_
                    refine XS.ifYes X48.here hx rfl (pc0 := 28) (pc' := 37) rfl (hb hby d1_28) rfl ((if0 _ _).trans (teq hc28_50).1) (by decide) (by decide) ?_
                    show Steps p.tables e below (T48.setTop (mkF m 37 #[.val (.ref a), .val (.ref z_1), .val (.int (8 : Int32)), .val (.int (7 : Int32)), .val (.ref s_AVG)] [])) _
                    refine XS.iinc X48.here hx rfl (hb hby d1_37) rfl (l' := #[.val (.ref a), .val (.ref z_1), .val (.int (8 : Int32)), .val (.int (8 : Int32)), .val (.ref s_AVG)]) rfl ?_
                    show Steps p.tables e below (T48.setTop (mkF m 40 #[.val (.ref a), .val (.ref z_1), .val (.int (8 : Int32)), .val (.int (8 : Int32)), .val (.ref s_AVG)] [])) _
                    refine XS.goto X48.here hx rfl (pc0 := 40) (pc' := 9) rfl (hb hby d1_40) (by decide) (by decide) ?_
                    show Steps p.tables e below (T48.setTop (mkF m 9 #[.val (.ref a), .val (.ref z_1), .val (.int (8 : Int32)), .val (.int (8 : Int32)), .val (.ref s_AVG)] [])) _
                    refine XS.iloadN X48.here hx rfl (hb hby d1_9) rfl ?_
                    show Steps p.tables e below (T48.setTop (mkF m 10 #[.val (.ref a), .val (.ref z_1), .val (.int (8 : Int32)), .val (.int (8 : Int32)), .val (.ref s_AVG)] [(.int (8 : Int32))])) _
                    refine XS.iloadN X48.here hx rfl (hb hby d1_10) rfl ?_
                    show Steps p.tables e below (T48.setTop (mkF m 11 #[.val (.ref a), .val (.ref z_1), .val (.int (8 : Int32)), .val (.int (8 : Int32)), .val (.ref s_AVG)] [(.int (8 : Int32)), (.int (8 : Int32))])) _
                    refine XS.icmpYes X48.here hx rfl (pc0 := 11) (pc' := 43) rfl (hb hby d1_11) rfl (flt ((by decide) : ¬ ((8 : Int32) < (8 : Int32)))).2.1 (by decide) (by decide) ?_
                    show Steps p.tables e below (T48.setTop (mkF m 43 #[.val (.ref a), .val (.ref z_1), .val (.int (8 : Int32)), .val (.int (8 : Int32)), .val (.ref s_AVG)] [])) _
                    refine st51 _ ?_
                    show Steps p.tables e below (T51.setTop (mkF m 46 #[.val (.ref a), .val (.ref z_1), .val (.int (8 : Int32)), .val (.int (8 : Int32)), .val (.ref s_AVG)] [(.ref s_EMPTY)])) _
                    exact k
                  obtain ⟨fs, hr, hrun, hended, hE⟩ := Stand.leaveW (s := s) (vm₁ := T47.vm) X51 hS (by rw [eh51]; exact hk) (v := some (.ref s_EMPTY)) (fun h => by rw [Bd.returns] at h; cases h)
                  refine ⟨_, _, w52 _ ?_, hrun, hended, _, _, rfl, ?_, ?_, own_mono hE (by decide) (by decide)⟩
                  · jvm_step X51.here [X51.here.top, hx, (hb hby d1_46), X51.method', Bd.returns, Value.isRef, FieldType.isReference]
                    first | (intro acts; rw [hr _ acts rfl rfl rfl]) | rw [hr _ _ rfl rfl rfl]
                    exact Steps.refl _
                  · show Q1 Z a t1 kb cs nn vs kv zc s_VALUES s_COUNT s_SUM_INTEGER s_SUM_LONG s_SUM_DOUBLE s_SUM_BIG_DECIMAL s_MIN s_MAX s_AVG s_EMPTY h0 n0 _ T51.heap _
                    rw [eh51]
                    exact ⟨s_EMPTY, rfl, N51, K, E_s_EMPTY, (by rw [own_ag, if_pos hc28_8, if_pos hc28_14, if_pos hc28_20, if_pos hc28_26, if_pos hc28_32, if_pos hc28_38, if_pos hc28_44, if_pos hc28_50]; exact F_o_s_EMPTY)⟩
                  · rw [hh]; show CHr Z consts_1 s.vm h0 T51.vm T51.heap; rw [eh51]; exact C.trans (CHv.at X51 hZ hEL C.1)
                · obtain ⟨_, _, ⟨T53, L53, k53, n53⟩, -, X53, ⟨Lc53, hQ53, l53, y53, z53⟩, st53⟩ := Jvm.LawKit.callS X48 hx (y := (⟨"java/util/Optional", "of", "(Ljava/lang/Object;)Ljava/util/Optional;"⟩ : MethodName)) hown (mvT hZ (hw _ (List.mem_of_getElem? (i := 90) rfl))) (mvT hZ (hw _ (List.mem_of_getElem? (i := 91) rfl))) (mvT hZ (hw _ (List.mem_of_getElem? (i := 92) rfl))) (mvT hZ (hw _ (List.mem_of_getElem? (i := 93) rfl))) (by decide) (backOf (W := 0) (rm6 l Z a0 hw [] s_AVG T47.heap n0 O ) hZ (hw _ (List.mem_of_getElem? (i := 93) rfl)) (hw _ (List.mem_of_getElem? (i := 92) rfl)) (by decide) (by decide)) (g := (mkF m 33 #[.val (.ref a), .val (.ref z_1), .val (.int (8 : Int32)), .val (.int (7 : Int32)), .val (.ref s_AVG)] [(.ref s_AVG)])) rfl (by rw [hml]; rfl) (argsL := [(.ref s_AVG)]) (rest := []) (lenOf pd__40Ljava_47lang_47Object_59_41Ljava_47util_47Optional_59 rfl) rfl (by show 2 * 0 + _ ≤ _; exact Nat.le_of_eq rfl) (hb hby d1_33) (fun _ _ => ⟨rfl, eh48, (by decide : 17 + 1 ≤ _), (by decide : 252 + 1 ≤ _)⟩)
                  dsimp only [Pt.U, Pt.locs, Pt.cells, Pt.slots] at X53 l53 y53 z53 st53 hQ53
                  have X53 := own_un X53 l53 y53 z53
                  obtain ⟨z_53, rfl, N53q, K53, E_z_c53, F_o_z_c53⟩ := hQ53
                  have N53 := Fr.app N48 N53q
                  have R := CHr.keep K53 all0 C.1
                  have C := C.trans R
                  have hk := Nat.le_trans hk K53.1
                  have E_a := E_a.keep K53
                  have F_v_a := F_v_a.keep K53 nin0
                  have F_c_a := F_c_a.keep K53 nin0
                  have V_t1 := V_t1.keep K53 nin0
                  have V_z_c1 := V_z_c1.keep K53 nin0
                  have E_s_AVG := E_s_AVG.keep K53
                  have F_ordinal_s_AVG := F_ordinal_s_AVG.keep K53 nin0
                  have E_z_c47 := E_z_c47.keep K53
                  have F_c_z_c47 := F_c_z_c47.keep K53 nin0
                  have F_v_z_c47 := F_v_z_c47.keep K53 nin0
                  have V_t_c47 := V_t_c47.keep K53 nin0
                  have O := O.keep K53 all0
                  have K := K.trans K53 all0
                  have w54 : ∀ t, Steps p.tables e below (T53.setTop (mkF m 36 #[.val (.ref a), .val (.ref z_1), .val (.int (8 : Int32)), .val (.int (7 : Int32)), .val (.ref s_AVG)] [(.ref z_53)])) t → Steps p.tables e below (s₁.setTop (entryFrame m #[(.ref a)] 5)) t := fun t k => by
                    refine w49 t ?_
                    refine XS.ifNo X48.here hx rfl (hb hby d1_28) rfl ((if0 _ _).trans (feq hc28_50).1) ?_
                    show Steps p.tables e below (T48.setTop (mkF m 31 #[.val (.ref a), .val (.ref z_1), .val (.int (8 : Int32)), .val (.int (7 : Int32)), .val (.ref s_AVG)] [])) _
                    refine XS.aload X48.here hx rfl (hb hby d1_31) rfl rfl ?_
                    show Steps p.tables e below (T48.setTop (mkF m 33 #[.val (.ref a), .val (.ref z_1), .val (.int (8 : Int32)), .val (.int (7 : Int32)), .val (.ref s_AVG)] [(.ref s_AVG)])) _
                    refine st53 _ ?_
                    show Steps p.tables e below (T53.setTop (mkF m 36 #[.val (.ref a), .val (.ref z_1), .val (.int (8 : Int32)), .val (.int (7 : Int32)), .val (.ref s_AVG)] [(.ref z_53)])) _
                    exact k
                  obtain ⟨fs, hr, hrun, hended, hE⟩ := Stand.leaveW (s := s) (vm₁ := T47.vm) X53 hS (by exact hk) (v := some (.ref z_53)) (fun h => by rw [Bd.returns] at h; cases h)
                  refine ⟨_, _, w54 _ ?_, hrun, hended, _, _, rfl, ?_, ?_, own_mono hE (by decide) (by decide)⟩
                  · jvm_step X53.here [X53.here.top, hx, (hb hby d1_36), X53.method', Bd.returns, Value.isRef, FieldType.isReference]
                    first | (intro acts; rw [hr _ acts rfl rfl rfl]) | rw [hr _ _ rfl rfl rfl]
                    exact Steps.refl _
                  · show Q1 Z a t1 kb cs nn vs kv zc s_VALUES s_COUNT s_SUM_INTEGER s_SUM_LONG s_SUM_DOUBLE s_SUM_BIG_DECIMAL s_MIN s_MAX s_AVG s_EMPTY h0 n0 _ T53.heap _
                    exact ⟨z_53, rfl, N53, K, E_z_c53, (by rw [own_ag, if_pos hc28_8, if_pos hc28_14, if_pos hc28_20, if_pos hc28_26, if_pos hc28_32, if_pos hc28_38, if_pos hc28_44, if_neg hc28_50]; exact F_o_z_c53)⟩
                  · rw [hh]; show CHr Z consts_1 s.vm h0 T53.vm T53.heap; exact C.trans (CHv.at X53 hZ hEL C.1)
              · obtain ⟨_, _, ⟨T55, L55, k55, n55⟩, -, X55, ⟨Lc55, hQ55, l55, y55, z55⟩, st55⟩ := Jvm.LawKit.callS X42 hx (y := (⟨"java/util/Optional", "of", "(Ljava/lang/Object;)Ljava/util/Optional;"⟩ : MethodName)) hown (mvT hZ (hw _ (List.mem_of_getElem? (i := 90) rfl))) (mvT hZ (hw _ (List.mem_of_getElem? (i := 91) rfl))) (mvT hZ (hw _ (List.mem_of_getElem? (i := 92) rfl))) (mvT hZ (hw _ (List.mem_of_getElem? (i := 93) rfl))) (by decide) (backOf (W := 0) (rm6 l Z a0 hw [] s_MAX T41.heap n0 O ) hZ (hw _ (List.mem_of_getElem? (i := 93) rfl)) (hw _ (List.mem_of_getElem? (i := 92) rfl)) (by decide) (by decide)) (g := (mkF m 33 #[.val (.ref a), .val (.ref z_1), .val (.int (8 : Int32)), .val (.int (6 : Int32)), .val (.ref s_MAX)] [(.ref s_MAX)])) rfl (by rw [hml]; rfl) (argsL := [(.ref s_MAX)]) (rest := []) (lenOf pd__40Ljava_47lang_47Object_59_41Ljava_47util_47Optional_59 rfl) rfl (by show 2 * 0 + _ ≤ _; exact Nat.le_of_eq rfl) (hb hby d1_33) (fun _ _ => ⟨rfl, eh42, (by decide : 15 + 1 ≤ _), (by decide : 236 + 1 ≤ _)⟩)
                dsimp only [Pt.U, Pt.locs, Pt.cells, Pt.slots] at X55 l55 y55 z55 st55 hQ55
                have X55 := own_un X55 l55 y55 z55
                obtain ⟨z_55, rfl, N55q, K55, E_z_c55, F_o_z_c55⟩ := hQ55
                have N55 := Fr.app N42 N55q
                have R := CHr.keep K55 all0 C.1
                have C := C.trans R
                have hk := Nat.le_trans hk K55.1
                have E_a := E_a.keep K55
                have F_v_a := F_v_a.keep K55 nin0
                have F_c_a := F_c_a.keep K55 nin0
                have V_t1 := V_t1.keep K55 nin0
                have V_z_c1 := V_z_c1.keep K55 nin0
                have E_s_MAX := E_s_MAX.keep K55
                have F_ordinal_s_MAX := F_ordinal_s_MAX.keep K55 nin0
                have E_z_c41 := E_z_c41.keep K55
                have F_c_z_c41 := F_c_z_c41.keep K55 nin0
                have F_v_z_c41 := F_v_z_c41.keep K55 nin0
                have V_t_c41 := V_t_c41.keep K55 nin0
                have O := O.keep K55 all0
                have K := K.trans K55 all0
                have w56 : ∀ t, Steps p.tables e below (T55.setTop (mkF m 36 #[.val (.ref a), .val (.ref z_1), .val (.int (8 : Int32)), .val (.int (6 : Int32)), .val (.ref s_MAX)] [(.ref z_55)])) t → Steps p.tables e below (s₁.setTop (entryFrame m #[(.ref a)] 5)) t := fun t k => by
                  refine w43 t ?_
                  refine XS.ifNo X42.here hx rfl (hb hby d1_28) rfl ((if0 _ _).trans (feq hc28_44).1) ?_
                  show Steps p.tables e below (T42.setTop (mkF m 31 #[.val (.ref a), .val (.ref z_1), .val (.int (8 : Int32)), .val (.int (6 : Int32)), .val (.ref s_MAX)] [])) _
                  refine XS.aload X42.here hx rfl (hb hby d1_31) rfl rfl ?_
                  show Steps p.tables e below (T42.setTop (mkF m 33 #[.val (.ref a), .val (.ref z_1), .val (.int (8 : Int32)), .val (.int (6 : Int32)), .val (.ref s_MAX)] [(.ref s_MAX)])) _
                  refine st55 _ ?_
                  show Steps p.tables e below (T55.setTop (mkF m 36 #[.val (.ref a), .val (.ref z_1), .val (.int (8 : Int32)), .val (.int (6 : Int32)), .val (.ref s_MAX)] [(.ref z_55)])) _
                  exact k
                obtain ⟨fs, hr, hrun, hended, hE⟩ := Stand.leaveW (s := s) (vm₁ := T41.vm) X55 hS (by exact hk) (v := some (.ref z_55)) (fun h => by rw [Bd.returns] at h; cases h)
                refine ⟨_, _, w56 _ ?_, hrun, hended, _, _, rfl, ?_, ?_, own_mono hE (by decide) (by decide)⟩
                · jvm_step X55.here [X55.here.top, hx, (hb hby d1_36), X55.method', Bd.returns, Value.isRef, FieldType.isReference]
                  first | (intro acts; rw [hr _ acts rfl rfl rfl]) | rw [hr _ _ rfl rfl rfl]
                  exact Steps.refl _
                · show Q1 Z a t1 kb cs nn vs kv zc s_VALUES s_COUNT s_SUM_INTEGER s_SUM_LONG s_SUM_DOUBLE s_SUM_BIG_DECIMAL s_MIN s_MAX s_AVG s_EMPTY h0 n0 _ T55.heap _
                  exact ⟨z_55, rfl, N55, K, E_z_c55, (by rw [own_ag, if_pos hc28_8, if_pos hc28_14, if_pos hc28_20, if_pos hc28_26, if_pos hc28_32, if_pos hc28_38, if_neg hc28_44]; exact F_o_z_c55)⟩
                · rw [hh]; show CHr Z consts_1 s.vm h0 T55.vm T55.heap; exact C.trans (CHv.at X55 hZ hEL C.1)
            · obtain ⟨_, _, ⟨T57, L57, k57, n57⟩, -, X57, ⟨Lc57, hQ57, l57, y57, z57⟩, st57⟩ := Jvm.LawKit.callS X36 hx (y := (⟨"java/util/Optional", "of", "(Ljava/lang/Object;)Ljava/util/Optional;"⟩ : MethodName)) hown (mvT hZ (hw _ (List.mem_of_getElem? (i := 90) rfl))) (mvT hZ (hw _ (List.mem_of_getElem? (i := 91) rfl))) (mvT hZ (hw _ (List.mem_of_getElem? (i := 92) rfl))) (mvT hZ (hw _ (List.mem_of_getElem? (i := 93) rfl))) (by decide) (backOf (W := 0) (rm6 l Z a0 hw [] s_MIN T35.heap n0 O ) hZ (hw _ (List.mem_of_getElem? (i := 93) rfl)) (hw _ (List.mem_of_getElem? (i := 92) rfl)) (by decide) (by decide)) (g := (mkF m 33 #[.val (.ref a), .val (.ref z_1), .val (.int (8 : Int32)), .val (.int (5 : Int32)), .val (.ref s_MIN)] [(.ref s_MIN)])) rfl (by rw [hml]; rfl) (argsL := [(.ref s_MIN)]) (rest := []) (lenOf pd__40Ljava_47lang_47Object_59_41Ljava_47util_47Optional_59 rfl) rfl (by show 2 * 0 + _ ≤ _; exact Nat.le_of_eq rfl) (hb hby d1_33) (fun _ _ => ⟨rfl, eh36, (by decide : 13 + 1 ≤ _), (by decide : 220 + 1 ≤ _)⟩)
              dsimp only [Pt.U, Pt.locs, Pt.cells, Pt.slots] at X57 l57 y57 z57 st57 hQ57
              have X57 := own_un X57 l57 y57 z57
              obtain ⟨z_57, rfl, N57q, K57, E_z_c57, F_o_z_c57⟩ := hQ57
              have N57 := Fr.app N36 N57q
              have R := CHr.keep K57 all0 C.1
              have C := C.trans R
              have hk := Nat.le_trans hk K57.1
              have E_a := E_a.keep K57
              have F_v_a := F_v_a.keep K57 nin0
              have F_c_a := F_c_a.keep K57 nin0
              have V_t1 := V_t1.keep K57 nin0
              have V_z_c1 := V_z_c1.keep K57 nin0
              have E_s_MIN := E_s_MIN.keep K57
              have F_ordinal_s_MIN := F_ordinal_s_MIN.keep K57 nin0
              have E_z_c35 := E_z_c35.keep K57
              have F_c_z_c35 := F_c_z_c35.keep K57 nin0
              have F_v_z_c35 := F_v_z_c35.keep K57 nin0
              have V_t_c35 := V_t_c35.keep K57 nin0
              have O := O.keep K57 all0
              have K := K.trans K57 all0
              have w58 : ∀ t, Steps p.tables e below (T57.setTop (mkF m 36 #[.val (.ref a), .val (.ref z_1), .val (.int (8 : Int32)), .val (.int (5 : Int32)), .val (.ref s_MIN)] [(.ref z_57)])) t → Steps p.tables e below (s₁.setTop (entryFrame m #[(.ref a)] 5)) t := fun t k => by
                refine w37 t ?_
                refine XS.ifNo X36.here hx rfl (hb hby d1_28) rfl ((if0 _ _).trans (feq hc28_38).1) ?_
                show Steps p.tables e below (T36.setTop (mkF m 31 #[.val (.ref a), .val (.ref z_1), .val (.int (8 : Int32)), .val (.int (5 : Int32)), .val (.ref s_MIN)] [])) _
                refine XS.aload X36.here hx rfl (hb hby d1_31) rfl rfl ?_
                show Steps p.tables e below (T36.setTop (mkF m 33 #[.val (.ref a), .val (.ref z_1), .val (.int (8 : Int32)), .val (.int (5 : Int32)), .val (.ref s_MIN)] [(.ref s_MIN)])) _
                refine st57 _ ?_
                show Steps p.tables e below (T57.setTop (mkF m 36 #[.val (.ref a), .val (.ref z_1), .val (.int (8 : Int32)), .val (.int (5 : Int32)), .val (.ref s_MIN)] [(.ref z_57)])) _
                exact k
              obtain ⟨fs, hr, hrun, hended, hE⟩ := Stand.leaveW (s := s) (vm₁ := T35.vm) X57 hS (by exact hk) (v := some (.ref z_57)) (fun h => by rw [Bd.returns] at h; cases h)
              refine ⟨_, _, w58 _ ?_, hrun, hended, _, _, rfl, ?_, ?_, own_mono hE (by decide) (by decide)⟩
              · jvm_step X57.here [X57.here.top, hx, (hb hby d1_36), X57.method', Bd.returns, Value.isRef, FieldType.isReference]
                first | (intro acts; rw [hr _ acts rfl rfl rfl]) | rw [hr _ _ rfl rfl rfl]
                exact Steps.refl _
              · show Q1 Z a t1 kb cs nn vs kv zc s_VALUES s_COUNT s_SUM_INTEGER s_SUM_LONG s_SUM_DOUBLE s_SUM_BIG_DECIMAL s_MIN s_MAX s_AVG s_EMPTY h0 n0 _ T57.heap _
                exact ⟨z_57, rfl, N57, K, E_z_c57, (by rw [own_ag, if_pos hc28_8, if_pos hc28_14, if_pos hc28_20, if_pos hc28_26, if_pos hc28_32, if_neg hc28_38]; exact F_o_z_c57)⟩
              · rw [hh]; show CHr Z consts_1 s.vm h0 T57.vm T57.heap; exact C.trans (CHv.at X57 hZ hEL C.1)
          · obtain ⟨_, _, ⟨T59, L59, k59, n59⟩, -, X59, ⟨Lc59, hQ59, l59, y59, z59⟩, st59⟩ := Jvm.LawKit.callS X30 hx (y := (⟨"java/util/Optional", "of", "(Ljava/lang/Object;)Ljava/util/Optional;"⟩ : MethodName)) hown (mvT hZ (hw _ (List.mem_of_getElem? (i := 90) rfl))) (mvT hZ (hw _ (List.mem_of_getElem? (i := 91) rfl))) (mvT hZ (hw _ (List.mem_of_getElem? (i := 92) rfl))) (mvT hZ (hw _ (List.mem_of_getElem? (i := 93) rfl))) (by decide) (backOf (W := 0) (rm6 l Z a0 hw [] s_SUM_BIG_DECIMAL T29.heap n0 O ) hZ (hw _ (List.mem_of_getElem? (i := 93) rfl)) (hw _ (List.mem_of_getElem? (i := 92) rfl)) (by decide) (by decide)) (g := (mkF m 33 #[.val (.ref a), .val (.ref z_1), .val (.int (8 : Int32)), .val (.int (4 : Int32)), .val (.ref s_SUM_BIG_DECIMAL)] [(.ref s_SUM_BIG_DECIMAL)])) rfl (by rw [hml]; rfl) (argsL := [(.ref s_SUM_BIG_DECIMAL)]) (rest := []) (lenOf pd__40Ljava_47lang_47Object_59_41Ljava_47util_47Optional_59 rfl) rfl (by show 2 * 0 + _ ≤ _; exact Nat.le_of_eq rfl) (hb hby d1_33) (fun _ _ => ⟨rfl, eh30, (by decide : 11 + 1 ≤ _), (by decide : 204 + 1 ≤ _)⟩)
            dsimp only [Pt.U, Pt.locs, Pt.cells, Pt.slots] at X59 l59 y59 z59 st59 hQ59
            have X59 := own_un X59 l59 y59 z59
            obtain ⟨z_59, rfl, N59q, K59, E_z_c59, F_o_z_c59⟩ := hQ59
            have N59 := Fr.app N30 N59q
            have R := CHr.keep K59 all0 C.1
            have C := C.trans R
            have hk := Nat.le_trans hk K59.1
            have E_a := E_a.keep K59
            have F_v_a := F_v_a.keep K59 nin0
            have F_c_a := F_c_a.keep K59 nin0
            have V_t1 := V_t1.keep K59 nin0
            have V_z_c1 := V_z_c1.keep K59 nin0
            have E_s_SUM_BIG_DECIMAL := E_s_SUM_BIG_DECIMAL.keep K59
            have F_ordinal_s_SUM_BIG_DECIMAL := F_ordinal_s_SUM_BIG_DECIMAL.keep K59 nin0
            have E_z_c29 := E_z_c29.keep K59
            have F_c_z_c29 := F_c_z_c29.keep K59 nin0
            have F_v_z_c29 := F_v_z_c29.keep K59 nin0
            have V_t_c29 := V_t_c29.keep K59 nin0
            have O := O.keep K59 all0
            have K := K.trans K59 all0
            have w60 : ∀ t, Steps p.tables e below (T59.setTop (mkF m 36 #[.val (.ref a), .val (.ref z_1), .val (.int (8 : Int32)), .val (.int (4 : Int32)), .val (.ref s_SUM_BIG_DECIMAL)] [(.ref z_59)])) t → Steps p.tables e below (s₁.setTop (entryFrame m #[(.ref a)] 5)) t := fun t k => by
              refine w31 t ?_
              refine XS.ifNo X30.here hx rfl (hb hby d1_28) rfl ((if0 _ _).trans (feq hc28_32).1) ?_
              show Steps p.tables e below (T30.setTop (mkF m 31 #[.val (.ref a), .val (.ref z_1), .val (.int (8 : Int32)), .val (.int (4 : Int32)), .val (.ref s_SUM_BIG_DECIMAL)] [])) _
              refine XS.aload X30.here hx rfl (hb hby d1_31) rfl rfl ?_
              show Steps p.tables e below (T30.setTop (mkF m 33 #[.val (.ref a), .val (.ref z_1), .val (.int (8 : Int32)), .val (.int (4 : Int32)), .val (.ref s_SUM_BIG_DECIMAL)] [(.ref s_SUM_BIG_DECIMAL)])) _
              refine st59 _ ?_
              show Steps p.tables e below (T59.setTop (mkF m 36 #[.val (.ref a), .val (.ref z_1), .val (.int (8 : Int32)), .val (.int (4 : Int32)), .val (.ref s_SUM_BIG_DECIMAL)] [(.ref z_59)])) _
              exact k
            obtain ⟨fs, hr, hrun, hended, hE⟩ := Stand.leaveW (s := s) (vm₁ := T29.vm) X59 hS (by exact hk) (v := some (.ref z_59)) (fun h => by rw [Bd.returns] at h; cases h)
            refine ⟨_, _, w60 _ ?_, hrun, hended, _, _, rfl, ?_, ?_, own_mono hE (by decide) (by decide)⟩
            · jvm_step X59.here [X59.here.top, hx, (hb hby d1_36), X59.method', Bd.returns, Value.isRef, FieldType.isReference]
              first | (intro acts; rw [hr _ acts rfl rfl rfl]) | rw [hr _ _ rfl rfl rfl]
              exact Steps.refl _
            · show Q1 Z a t1 kb cs nn vs kv zc s_VALUES s_COUNT s_SUM_INTEGER s_SUM_LONG s_SUM_DOUBLE s_SUM_BIG_DECIMAL s_MIN s_MAX s_AVG s_EMPTY h0 n0 _ T59.heap _
              exact ⟨z_59, rfl, N59, K, E_z_c59, (by rw [own_ag, if_pos hc28_8, if_pos hc28_14, if_pos hc28_20, if_pos hc28_26, if_neg hc28_32]; exact F_o_z_c59)⟩
            · rw [hh]; show CHr Z consts_1 s.vm h0 T59.vm T59.heap; exact C.trans (CHv.at X59 hZ hEL C.1)
        · obtain ⟨_, _, ⟨T61, L61, k61, n61⟩, -, X61, ⟨Lc61, hQ61, l61, y61, z61⟩, st61⟩ := Jvm.LawKit.callS X24 hx (y := (⟨"java/util/Optional", "of", "(Ljava/lang/Object;)Ljava/util/Optional;"⟩ : MethodName)) hown (mvT hZ (hw _ (List.mem_of_getElem? (i := 90) rfl))) (mvT hZ (hw _ (List.mem_of_getElem? (i := 91) rfl))) (mvT hZ (hw _ (List.mem_of_getElem? (i := 92) rfl))) (mvT hZ (hw _ (List.mem_of_getElem? (i := 93) rfl))) (by decide) (backOf (W := 0) (rm6 l Z a0 hw [] s_SUM_DOUBLE T23.heap n0 O ) hZ (hw _ (List.mem_of_getElem? (i := 93) rfl)) (hw _ (List.mem_of_getElem? (i := 92) rfl)) (by decide) (by decide)) (g := (mkF m 33 #[.val (.ref a), .val (.ref z_1), .val (.int (8 : Int32)), .val (.int (3 : Int32)), .val (.ref s_SUM_DOUBLE)] [(.ref s_SUM_DOUBLE)])) rfl (by rw [hml]; rfl) (argsL := [(.ref s_SUM_DOUBLE)]) (rest := []) (lenOf pd__40Ljava_47lang_47Object_59_41Ljava_47util_47Optional_59 rfl) rfl (by show 2 * 0 + _ ≤ _; exact Nat.le_of_eq rfl) (hb hby d1_33) (fun _ _ => ⟨rfl, eh24, (by decide : 9 + 1 ≤ _), (by decide : 148 + 1 ≤ _)⟩)
          dsimp only [Pt.U, Pt.locs, Pt.cells, Pt.slots] at X61 l61 y61 z61 st61 hQ61
          have X61 := own_un X61 l61 y61 z61
          obtain ⟨z_61, rfl, N61q, K61, E_z_c61, F_o_z_c61⟩ := hQ61
          have N61 := Fr.app N24 N61q
          have R := CHr.keep K61 all0 C.1
          have C := C.trans R
          have hk := Nat.le_trans hk K61.1
          have E_a := E_a.keep K61
          have F_v_a := F_v_a.keep K61 nin0
          have F_c_a := F_c_a.keep K61 nin0
          have V_t1 := V_t1.keep K61 nin0
          have V_z_c1 := V_z_c1.keep K61 nin0
          have E_s_SUM_DOUBLE := E_s_SUM_DOUBLE.keep K61
          have F_ordinal_s_SUM_DOUBLE := F_ordinal_s_SUM_DOUBLE.keep K61 nin0
          have E_z_c23 := E_z_c23.keep K61
          have F_c_z_c23 := F_c_z_c23.keep K61 nin0
          have F_v_z_c23 := F_v_z_c23.keep K61 nin0
          have V_t_c23 := V_t_c23.keep K61 nin0
          have O := O.keep K61 all0
          have K := K.trans K61 all0
          have w62 : ∀ t, Steps p.tables e below (T61.setTop (mkF m 36 #[.val (.ref a), .val (.ref z_1), .val (.int (8 : Int32)), .val (.int (3 : Int32)), .val (.ref s_SUM_DOUBLE)] [(.ref z_61)])) t → Steps p.tables e below (s₁.setTop (entryFrame m #[(.ref a)] 5)) t := fun t k => by
            refine w25 t ?_
            refine XS.ifNo X24.here hx rfl (hb hby d1_28) rfl ((if0 _ _).trans (feq hc28_26).1) ?_
            show Steps p.tables e below (T24.setTop (mkF m 31 #[.val (.ref a), .val (.ref z_1), .val (.int (8 : Int32)), .val (.int (3 : Int32)), .val (.ref s_SUM_DOUBLE)] [])) _
            refine XS.aload X24.here hx rfl (hb hby d1_31) rfl rfl ?_
            show Steps p.tables e below (T24.setTop (mkF m 33 #[.val (.ref a), .val (.ref z_1), .val (.int (8 : Int32)), .val (.int (3 : Int32)), .val (.ref s_SUM_DOUBLE)] [(.ref s_SUM_DOUBLE)])) _
            refine st61 _ ?_
            show Steps p.tables e below (T61.setTop (mkF m 36 #[.val (.ref a), .val (.ref z_1), .val (.int (8 : Int32)), .val (.int (3 : Int32)), .val (.ref s_SUM_DOUBLE)] [(.ref z_61)])) _
            exact k
          obtain ⟨fs, hr, hrun, hended, hE⟩ := Stand.leaveW (s := s) (vm₁ := T23.vm) X61 hS (by exact hk) (v := some (.ref z_61)) (fun h => by rw [Bd.returns] at h; cases h)
          refine ⟨_, _, w62 _ ?_, hrun, hended, _, _, rfl, ?_, ?_, own_mono hE (by decide) (by decide)⟩
          · jvm_step X61.here [X61.here.top, hx, (hb hby d1_36), X61.method', Bd.returns, Value.isRef, FieldType.isReference]
            first | (intro acts; rw [hr _ acts rfl rfl rfl]) | rw [hr _ _ rfl rfl rfl]
            exact Steps.refl _
          · show Q1 Z a t1 kb cs nn vs kv zc s_VALUES s_COUNT s_SUM_INTEGER s_SUM_LONG s_SUM_DOUBLE s_SUM_BIG_DECIMAL s_MIN s_MAX s_AVG s_EMPTY h0 n0 _ T61.heap _
            exact ⟨z_61, rfl, N61, K, E_z_c61, (by rw [own_ag, if_pos hc28_8, if_pos hc28_14, if_pos hc28_20, if_neg hc28_26]; exact F_o_z_c61)⟩
          · rw [hh]; show CHr Z consts_1 s.vm h0 T61.vm T61.heap; exact C.trans (CHv.at X61 hZ hEL C.1)
      · obtain ⟨_, _, ⟨T63, L63, k63, n63⟩, -, X63, ⟨Lc63, hQ63, l63, y63, z63⟩, st63⟩ := Jvm.LawKit.callS X18 hx (y := (⟨"java/util/Optional", "of", "(Ljava/lang/Object;)Ljava/util/Optional;"⟩ : MethodName)) hown (mvT hZ (hw _ (List.mem_of_getElem? (i := 90) rfl))) (mvT hZ (hw _ (List.mem_of_getElem? (i := 91) rfl))) (mvT hZ (hw _ (List.mem_of_getElem? (i := 92) rfl))) (mvT hZ (hw _ (List.mem_of_getElem? (i := 93) rfl))) (by decide) (backOf (W := 0) (rm6 l Z a0 hw [] s_SUM_LONG T17.heap n0 O ) hZ (hw _ (List.mem_of_getElem? (i := 93) rfl)) (hw _ (List.mem_of_getElem? (i := 92) rfl)) (by decide) (by decide)) (g := (mkF m 33 #[.val (.ref a), .val (.ref z_1), .val (.int (8 : Int32)), .val (.int (2 : Int32)), .val (.ref s_SUM_LONG)] [(.ref s_SUM_LONG)])) rfl (by rw [hml]; rfl) (argsL := [(.ref s_SUM_LONG)]) (rest := []) (lenOf pd__40Ljava_47lang_47Object_59_41Ljava_47util_47Optional_59 rfl) rfl (by show 2 * 0 + _ ≤ _; exact Nat.le_of_eq rfl) (hb hby d1_33) (fun _ _ => ⟨rfl, eh18, (by decide : 7 + 1 ≤ _), (by decide : 108 + 1 ≤ _)⟩)
        dsimp only [Pt.U, Pt.locs, Pt.cells, Pt.slots] at X63 l63 y63 z63 st63 hQ63
        have X63 := own_un X63 l63 y63 z63
        obtain ⟨z_63, rfl, N63q, K63, E_z_c63, F_o_z_c63⟩ := hQ63
        have N63 := Fr.app N18 N63q
        have R := CHr.keep K63 all0 C.1
        have C := C.trans R
        have hk := Nat.le_trans hk K63.1
        have E_a := E_a.keep K63
        have F_v_a := F_v_a.keep K63 nin0
        have F_c_a := F_c_a.keep K63 nin0
        have V_t1 := V_t1.keep K63 nin0
        have V_z_c1 := V_z_c1.keep K63 nin0
        have E_s_SUM_LONG := E_s_SUM_LONG.keep K63
        have F_ordinal_s_SUM_LONG := F_ordinal_s_SUM_LONG.keep K63 nin0
        have E_z_c17 := E_z_c17.keep K63
        have F_c_z_c17 := F_c_z_c17.keep K63 nin0
        have F_v_z_c17 := F_v_z_c17.keep K63 nin0
        have V_t_c17 := V_t_c17.keep K63 nin0
        have O := O.keep K63 all0
        have K := K.trans K63 all0
        have w64 : ∀ t, Steps p.tables e below (T63.setTop (mkF m 36 #[.val (.ref a), .val (.ref z_1), .val (.int (8 : Int32)), .val (.int (2 : Int32)), .val (.ref s_SUM_LONG)] [(.ref z_63)])) t → Steps p.tables e below (s₁.setTop (entryFrame m #[(.ref a)] 5)) t := fun t k => by
          refine w19 t ?_
          refine XS.ifNo X18.here hx rfl (hb hby d1_28) rfl ((if0 _ _).trans (feq hc28_20).1) ?_
          show Steps p.tables e below (T18.setTop (mkF m 31 #[.val (.ref a), .val (.ref z_1), .val (.int (8 : Int32)), .val (.int (2 : Int32)), .val (.ref s_SUM_LONG)] [])) _
          refine XS.aload X18.here hx rfl (hb hby d1_31) rfl rfl ?_
          show Steps p.tables e below (T18.setTop (mkF m 33 #[.val (.ref a), .val (.ref z_1), .val (.int (8 : Int32)), .val (.int (2 : Int32)), .val (.ref s_SUM_LONG)] [(.ref s_SUM_LONG)])) _
          refine st63 _ ?_
          show Steps p.tables e below (T63.setTop (mkF m 36 #[.val (.ref a), .val (.ref z_1), .val (.int (8 : Int32)), .val (.int (2 : Int32)), .val (.ref s_SUM_LONG)] [(.ref z_63)])) _
          exact k
        obtain ⟨fs, hr, hrun, hended, hE⟩ := Stand.leaveW (s := s) (vm₁ := T17.vm) X63 hS (by exact hk) (v := some (.ref z_63)) (fun h => by rw [Bd.returns] at h; cases h)
        refine ⟨_, _, w64 _ ?_, hrun, hended, _, _, rfl, ?_, ?_, own_mono hE (by decide) (by decide)⟩
        · jvm_step X63.here [X63.here.top, hx, (hb hby d1_36), X63.method', Bd.returns, Value.isRef, FieldType.isReference]
          first | (intro acts; rw [hr _ acts rfl rfl rfl]) | rw [hr _ _ rfl rfl rfl]
          exact Steps.refl _
        · show Q1 Z a t1 kb cs nn vs kv zc s_VALUES s_COUNT s_SUM_INTEGER s_SUM_LONG s_SUM_DOUBLE s_SUM_BIG_DECIMAL s_MIN s_MAX s_AVG s_EMPTY h0 n0 _ T63.heap _
          exact ⟨z_63, rfl, N63, K, E_z_c63, (by rw [own_ag, if_pos hc28_8, if_pos hc28_14, if_neg hc28_20]; exact F_o_z_c63)⟩
        · rw [hh]; show CHr Z consts_1 s.vm h0 T63.vm T63.heap; exact C.trans (CHv.at X63 hZ hEL C.1)
    · obtain ⟨_, _, ⟨T65, L65, k65, n65⟩, -, X65, ⟨Lc65, hQ65, l65, y65, z65⟩, st65⟩ := Jvm.LawKit.callS X12 hx (y := (⟨"java/util/Optional", "of", "(Ljava/lang/Object;)Ljava/util/Optional;"⟩ : MethodName)) hown (mvT hZ (hw _ (List.mem_of_getElem? (i := 90) rfl))) (mvT hZ (hw _ (List.mem_of_getElem? (i := 91) rfl))) (mvT hZ (hw _ (List.mem_of_getElem? (i := 92) rfl))) (mvT hZ (hw _ (List.mem_of_getElem? (i := 93) rfl))) (by decide) (backOf (W := 0) (rm6 l Z a0 hw [] s_SUM_INTEGER T11.heap n0 O ) hZ (hw _ (List.mem_of_getElem? (i := 93) rfl)) (hw _ (List.mem_of_getElem? (i := 92) rfl)) (by decide) (by decide)) (g := (mkF m 33 #[.val (.ref a), .val (.ref z_1), .val (.int (8 : Int32)), .val (.int (1 : Int32)), .val (.ref s_SUM_INTEGER)] [(.ref s_SUM_INTEGER)])) rfl (by rw [hml]; rfl) (argsL := [(.ref s_SUM_INTEGER)]) (rest := []) (lenOf pd__40Ljava_47lang_47Object_59_41Ljava_47util_47Optional_59 rfl) rfl (by show 2 * 0 + _ ≤ _; exact Nat.le_of_eq rfl) (hb hby d1_33) (fun _ _ => ⟨rfl, eh12, (by decide : 5 + 1 ≤ _), (by decide : 76 + 1 ≤ _)⟩)
      dsimp only [Pt.U, Pt.locs, Pt.cells, Pt.slots] at X65 l65 y65 z65 st65 hQ65
      have X65 := own_un X65 l65 y65 z65
      obtain ⟨z_65, rfl, N65q, K65, E_z_c65, F_o_z_c65⟩ := hQ65
      have N65 := Fr.app N12 N65q
      have R := CHr.keep K65 all0 C.1
      have C := C.trans R
      have hk := Nat.le_trans hk K65.1
      have E_a := E_a.keep K65
      have F_v_a := F_v_a.keep K65 nin0
      have F_c_a := F_c_a.keep K65 nin0
      have V_t1 := V_t1.keep K65 nin0
      have V_z_c1 := V_z_c1.keep K65 nin0
      have E_s_SUM_INTEGER := E_s_SUM_INTEGER.keep K65
      have F_ordinal_s_SUM_INTEGER := F_ordinal_s_SUM_INTEGER.keep K65 nin0
      have E_z_c11 := E_z_c11.keep K65
      have F_c_z_c11 := F_c_z_c11.keep K65 nin0
      have F_v_z_c11 := F_v_z_c11.keep K65 nin0
      have V_t_c11 := V_t_c11.keep K65 nin0
      have O := O.keep K65 all0
      have K := K.trans K65 all0
      have w66 : ∀ t, Steps p.tables e below (T65.setTop (mkF m 36 #[.val (.ref a), .val (.ref z_1), .val (.int (8 : Int32)), .val (.int (1 : Int32)), .val (.ref s_SUM_INTEGER)] [(.ref z_65)])) t → Steps p.tables e below (s₁.setTop (entryFrame m #[(.ref a)] 5)) t := fun t k => by
        refine w13 t ?_
        refine XS.ifNo X12.here hx rfl (hb hby d1_28) rfl ((if0 _ _).trans (feq hc28_14).1) ?_
        show Steps p.tables e below (T12.setTop (mkF m 31 #[.val (.ref a), .val (.ref z_1), .val (.int (8 : Int32)), .val (.int (1 : Int32)), .val (.ref s_SUM_INTEGER)] [])) _
        refine XS.aload X12.here hx rfl (hb hby d1_31) rfl rfl ?_
        show Steps p.tables e below (T12.setTop (mkF m 33 #[.val (.ref a), .val (.ref z_1), .val (.int (8 : Int32)), .val (.int (1 : Int32)), .val (.ref s_SUM_INTEGER)] [(.ref s_SUM_INTEGER)])) _
        refine st65 _ ?_
        show Steps p.tables e below (T65.setTop (mkF m 36 #[.val (.ref a), .val (.ref z_1), .val (.int (8 : Int32)), .val (.int (1 : Int32)), .val (.ref s_SUM_INTEGER)] [(.ref z_65)])) _
        exact k
      obtain ⟨fs, hr, hrun, hended, hE⟩ := Stand.leaveW (s := s) (vm₁ := T11.vm) X65 hS (by exact hk) (v := some (.ref z_65)) (fun h => by rw [Bd.returns] at h; cases h)
      refine ⟨_, _, w66 _ ?_, hrun, hended, _, _, rfl, ?_, ?_, own_mono hE (by decide) (by decide)⟩
      · jvm_step X65.here [X65.here.top, hx, (hb hby d1_36), X65.method', Bd.returns, Value.isRef, FieldType.isReference]
        first | (intro acts; rw [hr _ acts rfl rfl rfl]) | rw [hr _ _ rfl rfl rfl]
        exact Steps.refl _
      · show Q1 Z a t1 kb cs nn vs kv zc s_VALUES s_COUNT s_SUM_INTEGER s_SUM_LONG s_SUM_DOUBLE s_SUM_BIG_DECIMAL s_MIN s_MAX s_AVG s_EMPTY h0 n0 _ T65.heap _
        exact ⟨z_65, rfl, N65, K, E_z_c65, (by rw [own_ag, if_pos hc28_8, if_neg hc28_14]; exact F_o_z_c65)⟩
      · rw [hh]; show CHr Z consts_1 s.vm h0 T65.vm T65.heap; exact C.trans (CHv.at X65 hZ hEL C.1)
  · obtain ⟨_, _, ⟨T67, L67, k67, n67⟩, -, X67, ⟨Lc67, hQ67, l67, y67, z67⟩, st67⟩ := Jvm.LawKit.callS X6 hx (y := (⟨"java/util/Optional", "of", "(Ljava/lang/Object;)Ljava/util/Optional;"⟩ : MethodName)) hown (mvT hZ (hw _ (List.mem_of_getElem? (i := 90) rfl))) (mvT hZ (hw _ (List.mem_of_getElem? (i := 91) rfl))) (mvT hZ (hw _ (List.mem_of_getElem? (i := 92) rfl))) (mvT hZ (hw _ (List.mem_of_getElem? (i := 93) rfl))) (by decide) (backOf (W := 0) (rm6 l Z a0 hw [] s_COUNT T5.heap n0 O ) hZ (hw _ (List.mem_of_getElem? (i := 93) rfl)) (hw _ (List.mem_of_getElem? (i := 92) rfl)) (by decide) (by decide)) (g := (mkF m 33 #[.val (.ref a), .val (.ref z_1), .val (.int (8 : Int32)), .val (.int (0 : Int32)), .val (.ref s_COUNT)] [(.ref s_COUNT)])) rfl (by rw [hml]; rfl) (argsL := [(.ref s_COUNT)]) (rest := []) (lenOf pd__40Ljava_47lang_47Object_59_41Ljava_47util_47Optional_59 rfl) rfl (by show 2 * 0 + _ ≤ _; exact Nat.le_of_eq rfl) (hb hby d1_33) (fun _ _ => ⟨rfl, eh6, (by decide : 3 + 1 ≤ _), (by decide : 32 + 1 ≤ _)⟩)
    dsimp only [Pt.U, Pt.locs, Pt.cells, Pt.slots] at X67 l67 y67 z67 st67 hQ67
    have X67 := own_un X67 l67 y67 z67
    obtain ⟨z_67, rfl, N67q, K67, E_z_c67, F_o_z_c67⟩ := hQ67
    have N67 := Fr.app N6 N67q
    have R := CHr.keep K67 all0 C.1
    have C := C.trans R
    have hk := Nat.le_trans hk K67.1
    have E_a := E_a.keep K67
    have F_v_a := F_v_a.keep K67 nin0
    have F_c_a := F_c_a.keep K67 nin0
    have V_t1 := V_t1.keep K67 nin0
    have V_z_c1 := V_z_c1.keep K67 nin0
    have E_s_COUNT := E_s_COUNT.keep K67
    have F_ordinal_s_COUNT := F_ordinal_s_COUNT.keep K67 nin0
    have E_z_c5 := E_z_c5.keep K67
    have F_c_z_c5 := F_c_z_c5.keep K67 nin0
    have F_v_z_c5 := F_v_z_c5.keep K67 nin0
    have V_t_c5 := V_t_c5.keep K67 nin0
    have O := O.keep K67 all0
    have K := K.trans K67 all0
    have w68 : ∀ t, Steps p.tables e below (T67.setTop (mkF m 36 #[.val (.ref a), .val (.ref z_1), .val (.int (8 : Int32)), .val (.int (0 : Int32)), .val (.ref s_COUNT)] [(.ref z_67)])) t → Steps p.tables e below (s₁.setTop (entryFrame m #[(.ref a)] 5)) t := fun t k => by
      refine w7 t ?_
      refine XS.ifNo X6.here hx rfl (hb hby d1_28) rfl ((if0 _ _).trans (feq hc28_8).1) ?_
      show Steps p.tables e below (T6.setTop (mkF m 31 #[.val (.ref a), .val (.ref z_1), .val (.int (8 : Int32)), .val (.int (0 : Int32)), .val (.ref s_COUNT)] [])) _
      refine XS.aload X6.here hx rfl (hb hby d1_31) rfl rfl ?_
      show Steps p.tables e below (T6.setTop (mkF m 33 #[.val (.ref a), .val (.ref z_1), .val (.int (8 : Int32)), .val (.int (0 : Int32)), .val (.ref s_COUNT)] [(.ref s_COUNT)])) _
      refine st67 _ ?_
      show Steps p.tables e below (T67.setTop (mkF m 36 #[.val (.ref a), .val (.ref z_1), .val (.int (8 : Int32)), .val (.int (0 : Int32)), .val (.ref s_COUNT)] [(.ref z_67)])) _
      exact k
    obtain ⟨fs, hr, hrun, hended, hE⟩ := Stand.leaveW (s := s) (vm₁ := T5.vm) X67 hS (by exact hk) (v := some (.ref z_67)) (fun h => by rw [Bd.returns] at h; cases h)
    refine ⟨_, _, w68 _ ?_, hrun, hended, _, _, rfl, ?_, ?_, own_mono hE (by decide) (by decide)⟩
    · jvm_step X67.here [X67.here.top, hx, (hb hby d1_36), X67.method', Bd.returns, Value.isRef, FieldType.isReference]
      first | (intro acts; rw [hr _ acts rfl rfl rfl]) | rw [hr _ _ rfl rfl rfl]
      exact Steps.refl _
    · show Q1 Z a t1 kb cs nn vs kv zc s_VALUES s_COUNT s_SUM_INTEGER s_SUM_LONG s_SUM_DOUBLE s_SUM_BIG_DECIMAL s_MIN s_MAX s_AVG s_EMPTY h0 n0 _ T67.heap _
      exact ⟨z_67, rfl, N67, K, E_z_c67, (by rw [own_ag, if_neg hc28_8]; exact F_o_z_c67)⟩
    · rw [hh]; show CHr Z consts_1 s.vm h0 T67.vm T67.heap; exact C.trans (CHv.at X67 hZ hEL C.1)
theorem ef_1_null (m : MethodId) : entryFrame m #[.null] 5 = mkF m 0 #[.val .null, .unset, .unset, .unset, .unset] [] := by first | (simp [entryFrame, mkF, argsToLocals, Value.category]; done) | rfl
def Q1_null (Z : State) (kv : ClassId) (s_VALUES : Addr) (s_COUNT : Addr) (s_SUM_INTEGER : Addr) (s_SUM_LONG : Addr) (s_SUM_DOUBLE : Addr) (s_SUM_BIG_DECIMAL : Addr) (s_MIN : Addr) (s_MAX : Addr) (s_AVG : Addr) (s_EMPTY : Addr) (h0 : Heap) (n0 : Nat) (v : Option Value) (h : Heap) (L : List Loc) : Prop := ∃ z : Addr, v = some (.ref z) ∧ Fr n0 L ∧ Keep h0 h [] ∧ Exa Z h z "java/util/Optional" ∧ Fld Z h z "java/util/Optional" "value" "Ljava/lang/Object;" .null
set_option maxRecDepth 65536 in
set_option maxHeartbeats 40000000 in
theorem rm1_null (l : Launch) (Z : State) (a0 : Array Value) (hw : ∀ d ∈ tables_1, d.before a0 Z = true) (ws : List Jvm.Cond) (kv : ClassId) (s_VALUES : Addr) (s_COUNT : Addr) (s_SUM_INTEGER : Addr) (s_SUM_LONG : Addr) (s_SUM_DOUBLE : Addr) (s_SUM_BIG_DECIMAL : Addr) (s_MIN : Addr) (s_MAX : Addr) (s_AVG : Addr) (s_EMPTY : Addr) (h0 : Heap) (n0 : Nat) (O0 : Old Z n0 h0) (S_s_VALUES : Sta Z Z.heap "com/example/querent/querent/translation/Aggregation" "$VALUES" "[Lcom/example/querent/querent/translation/Aggregation;" (.ref s_VALUES)) (S_s_COUNT : Sta Z Z.heap "com/example/querent/querent/translation/Aggregation" "COUNT" "Lcom/example/querent/querent/translation/Aggregation;" (.ref s_COUNT)) (S_s_SUM_INTEGER : Sta Z Z.heap "com/example/querent/querent/translation/Aggregation" "SUM_INTEGER" "Lcom/example/querent/querent/translation/Aggregation;" (.ref s_SUM_INTEGER)) (S_s_SUM_LONG : Sta Z Z.heap "com/example/querent/querent/translation/Aggregation" "SUM_LONG" "Lcom/example/querent/querent/translation/Aggregation;" (.ref s_SUM_LONG)) (S_s_SUM_DOUBLE : Sta Z Z.heap "com/example/querent/querent/translation/Aggregation" "SUM_DOUBLE" "Lcom/example/querent/querent/translation/Aggregation;" (.ref s_SUM_DOUBLE)) (S_s_SUM_BIG_DECIMAL : Sta Z Z.heap "com/example/querent/querent/translation/Aggregation" "SUM_BIG_DECIMAL" "Lcom/example/querent/querent/translation/Aggregation;" (.ref s_SUM_BIG_DECIMAL)) (S_s_MIN : Sta Z Z.heap "com/example/querent/querent/translation/Aggregation" "MIN" "Lcom/example/querent/querent/translation/Aggregation;" (.ref s_MIN)) (S_s_MAX : Sta Z Z.heap "com/example/querent/querent/translation/Aggregation" "MAX" "Lcom/example/querent/querent/translation/Aggregation;" (.ref s_MAX)) (S_s_AVG : Sta Z Z.heap "com/example/querent/querent/translation/Aggregation" "AVG" "Lcom/example/querent/querent/translation/Aggregation;" (.ref s_AVG)) (S_s_EMPTY : Sta Z Z.heap "java/util/Optional" "EMPTY" "Ljava/util/Optional;" (.ref s_EMPTY)) (o_E_s_VALUES : Exa Z Z.heap s_VALUES "[Lcom/example/querent/querent/translation/Aggregation;") (o_V_s_VALUES : Arv Z Z.heap s_VALUES kv (.object "com/example/querent/querent/translation/Aggregation") (8 : Int32) [(.ref s_COUNT), (.ref s_SUM_INTEGER), (.ref s_SUM_LONG), (.ref s_SUM_DOUBLE), (.ref s_SUM_BIG_DECIMAL), (.ref s_MIN), (.ref s_MAX), (.ref s_AVG)] .null) (o_E_s_EMPTY : Exa Z Z.heap s_EMPTY "java/util/Optional") (o_F_o_s_EMPTY : Fld Z Z.heap s_EMPTY "java/util/Optional" "value" "Ljava/lang/Object;" .null) (o_E_s_COUNT : Exa Z Z.heap s_COUNT "com/example/querent/querent/translation/Aggregation") (o_F_ordinal_s_COUNT : Fld Z Z.heap s_COUNT "java/lang/Enum" "ordinal" "I" (.int (0 : Int32))) (o_E_s_SUM_INTEGER : Exa Z Z.heap s_SUM_INTEGER "com/example/querent/querent/translation/Aggregation") (o_F_ordinal_s_SUM_INTEGER : Fld Z Z.heap s_SUM_INTEGER "java/lang/Enum" "ordinal" "I" (.int (1 : Int32))) (o_E_s_SUM_LONG : Exa Z Z.heap s_SUM_LONG "com/example/querent/querent/translation/Aggregation") (o_F_ordinal_s_SUM_LONG : Fld Z Z.heap s_SUM_LONG "java/lang/Enum" "ordinal" "I" (.int (2 : Int32))) (o_E_s_SUM_DOUBLE : Exa Z Z.heap s_SUM_DOUBLE "com/example/querent/querent/translation/Aggregation") (o_F_ordinal_s_SUM_DOUBLE : Fld Z Z.heap s_SUM_DOUBLE "java/lang/Enum" "ordinal" "I" (.int (3 : Int32))) (o_E_s_SUM_BIG_DECIMAL : Exa Z Z.heap s_SUM_BIG_DECIMAL "com/example/querent/querent/translation/Aggregation") (o_F_ordinal_s_SUM_BIG_DECIMAL : Fld Z Z.heap s_SUM_BIG_DECIMAL "java/lang/Enum" "ordinal" "I" (.int (4 : Int32))) (o_E_s_MIN : Exa Z Z.heap s_MIN "com/example/querent/querent/translation/Aggregation") (o_F_ordinal_s_MIN : Fld Z Z.heap s_MIN "java/lang/Enum" "ordinal" "I" (.int (5 : Int32))) (o_E_s_MAX : Exa Z Z.heap s_MAX "com/example/querent/querent/translation/Aggregation") (o_F_ordinal_s_MAX : Fld Z Z.heap s_MAX "java/lang/Enum" "ordinal" "I" (.int (6 : Int32))) (o_E_s_AVG : Exa Z Z.heap s_AVG "com/example/querent/querent/translation/Aggregation") (o_F_ordinal_s_AVG : Fld Z Z.heap s_AVG "java/lang/Enum" "ordinal" "I" (.int (7 : Int32))) :
    MetFree l (⟨"com/example/querent/querent/translation/Aggregation", "of", "(Ljava/lang/String;)Ljava/util/Optional;"⟩ : MethodName) (head1 (Jvm.Cond.code (⟨"com/example/querent/querent/translation/Aggregation", "of", "(Ljava/lang/String;)Ljava/util/Optional;"⟩ : MethodName) prog_1_method_4_code 5 (some (.object "java/util/Optional")) :: ws) ({ frames := 2, cells := 17, slots := 252, locals := 25 } : Room)) (fun aA uU => aA = #[.null] ∧ Z.Warmed39 uU.vm ∧ uU.heap = h0 ∧ CHv Z consts_1 uU.vm h0) (fun _ _ _ _ _ => True) (fun _ uU oO uU' => ∃ vV lL, oO = .returned vV ∧ Q1_null Z kv s_VALUES s_COUNT s_SUM_INTEGER s_SUM_LONG s_SUM_DOUBLE s_SUM_BIG_DECIMAL s_MIN s_MAX s_AVG s_EMPTY h0 n0 vV uU'.heap lL ∧ CHr Z consts_1 uU.vm uU.heap uU'.vm uU'.heap ∧ ReturnedEndW uU oO uU' lL ({ frames := 2, cells := 17, slots := 252, locals := 25 } : Room).cells ({ frames := 2, cells := 17, slots := 252, locals := 25 } : Room).slots) := by
  refine MetFree.of_bodySF (plainFor_of_name pn_com_example_querent_querent_translation_Aggregation) hisR ?_
  intro p e s m args below meth c s₁ Bd hml0 hP hK
  obtain ⟨rfl, hZ, hh, H0⟩ := hP
  have hx := Bd.exec
  have hby := Bd.bytes
  have hml : c.maxLocals = 5 := hml0
  have hown : s.vm.findClass "com/example/querent/querent/translation/Aggregation" = some m.cls := findClass_of_methodNamed Bd.named
  have hnm := (name_of_methodNamed Bd.named Bd.method).1
  have X0 : Stand p l e ({ frames := 2, cells := 17, slots := 252, locals := 25 } : Room) (s.setVm s.vm) m #[.null] below meth c s₁ [] 0 0 := Stand.of_body Bd
  have e0 : s₁.heap = h0 := by rw [← hh, Bd.state]; rfl
  have N0 := Fr.nil n0
  have O := O0
  have K := Keep.refl h0 []
  have hS : s.Since s.vm h0.size := own_since s _
  have hk : h0.size ≤ h0.size := Nat.le_refl _
  have C : CHr Z consts_1 s.vm h0 s.vm h0 := CHr.refl H0
  have hEL := own_EW hw
  have hSA := own_wS hw
  have pre0 : ∀ t, Steps p.tables e below (s₁.setTop (mkF m 0 #[.val .null, .unset, .unset, .unset, .unset] [])) t → Steps p.tables e below (s₁.setTop (entryFrame m #[.null] 5)) t := fun t k => castTop (ef_1_null m ) k
  have E_s_VALUES := o_E_s_VALUES.ext O.2
  have V_s_VALUES := o_V_s_VALUES.ext O.2
  obtain ⟨_, _, ⟨T1, L1, k1, n1⟩, -, X1, ⟨Lc1, hQ1, l1, y1, z1⟩, st1⟩ := Jvm.LawKit.callS X0 hx (y := (⟨"com/example/querent/querent/translation/Aggregation", "values", "()[Lcom/example/querent/querent/translation/Aggregation;"⟩ : MethodName)) hown (mvT hZ (hw _ (List.mem_of_getElem? (i := 55) rfl))) (mvT hZ (hw _ (List.mem_of_getElem? (i := 56) rfl))) (mvT hZ (hw _ (List.mem_of_getElem? (i := 35) rfl))) (mvT hZ (hw _ (List.mem_of_getElem? (i := 57) rfl))) (by decide) (backOf (W := 0) (rm2 l Z a0 hw [] kv s_VALUES s_COUNT s_SUM_INTEGER s_SUM_LONG s_SUM_DOUBLE s_SUM_BIG_DECIMAL s_MIN s_MAX s_AVG h0 n0 O S_s_VALUES S_s_COUNT S_s_SUM_INTEGER S_s_SUM_LONG S_s_SUM_DOUBLE S_s_SUM_BIG_DECIMAL S_s_MIN S_s_MAX S_s_AVG V_s_VALUES E_s_VALUES) hZ (hw _ (List.mem_of_getElem? (i := 57) rfl)) (hw _ (List.mem_of_getElem? (i := 35) rfl)) (by decide) (by decide)) (g := (mkF m 0 #[.val .null, .unset, .unset, .unset, .unset] [])) rfl (by rw [hml]; rfl) (argsL := []) (rest := []) (lenOf pd__40_41_91Lcom_47example_47querent_47querent_47translation_47Aggregation_59 rfl) rfl (by show 2 * 0 + _ ≤ _; exact Nat.le_of_eq rfl) (hb hby d1_0) (fun _ _ => ⟨rfl, e0, (by decide : 0 + 1 ≤ _), (by decide : 0 + 8 ≤ _)⟩)
  dsimp only [Pt.U, Pt.locs, Pt.cells, Pt.slots] at X1 l1 y1 z1 st1 hQ1
  have X1 := own_un X1 l1 y1 z1
  obtain ⟨z_1, rfl, N1q, K1, V_z_c1, gz_1, gn_1⟩ := hQ1
  have N1 := Fr.app N0 N1q
  have R := CHr.keep K1 all0 C.1
  have C := C.trans R
  have hk := Nat.le_trans hk K1.1
  have E_s_VALUES := E_s_VALUES.keep K1
  have V_s_VALUES := V_s_VALUES.keep K1 nin0
  have g_z_1 := gn_1
  have z_z_1 : h0.size ≤ z_1 := Nat.le_trans K.1 gz_1
  have O := O.keep K1 all0
  have K := K.trans K1 all0
  obtain ⟨cl2, Ar2, -, Z2, N2, -, -⟩ := id V_z_c1
  obtain ⟨cl3, Ar3, q3, Z3, N3, H3, G3⟩ := id V_z_c1
  have hin3 : ¬ ((0 : Int32) < 0 ∨ cl3.slots.size ≤ ((0 : Int32)).toNatClampNeg) := inb_of Z3 ⟨by decide, by decide⟩
  have hat3 : cl3.slots[((0 : Int32)).toNatClampNeg]? = some (.ref s_COUNT) := H3.at hin3 rfl
  have E_s_COUNT := o_E_s_COUNT.ext O.2
  have F_ordinal_s_COUNT := o_F_ordinal_s_COUNT.ext O.2
  have w4 : ∀ t, Steps p.tables e below (T1.setTop (mkF m 21 #[.val .null, .val (.ref z_1), .val (.int (8 : Int32)), .val (.int (0 : Int32)), .val (.ref s_COUNT)] [(.ref s_COUNT)])) t → Steps p.tables e below (s₁.setTop (entryFrame m #[.null] 5)) t := fun t k => by
    refine pre0 t ?_
    refine st1 _ ?_
    show Steps p.tables e below (T1.setTop (mkF m 3 #[.val .null, .unset, .unset, .unset, .unset] [(.ref z_1)])) _
    refine XS.astoreN X1.here hx rfl (hb hby d1_3) rfl rfl (l' := #[.val .null, .val (.ref z_1), .unset, .unset, .unset]) rfl ?_
    show Steps p.tables e below (T1.setTop (mkF m 4 #[.val .null, .val (.ref z_1), .unset, .unset, .unset] [])) _
    refine XS.aloadN X1.here hx rfl (hb hby d1_4) rfl rfl ?_
    show Steps p.tables e below (T1.setTop (mkF m 5 #[.val .null, .val (.ref z_1), .unset, .unset, .unset] [(.ref z_1)])) _
    refine X1.arraylength hx (by exact Ar2.1) (State.isArrayOf_alike hZ.alike Ar2.2.1) (g := (mkF m 5 #[.val .null, .val (.ref z_1), .unset, .unset, .unset] [(.ref z_1)])) rfl rfl (hb hby d1_5) _ ?_
    rw [len_of Z2 N2]
    show Steps p.tables e below (T1.setTop (mkF m 6 #[.val .null, .val (.ref z_1), .unset, .unset, .unset] [(.int (8 : Int32))])) _
    refine XS.istoreN X1.here hx rfl (hb hby d1_6) rfl (l' := #[.val .null, .val (.ref z_1), .val (.int (8 : Int32)), .unset, .unset]) rfl ?_
    show Steps p.tables e below (T1.setTop (mkF m 7 #[.val .null, .val (.ref z_1), .val (.int (8 : Int32)), .unset, .unset] [])) _
    refine XS.iconst X1.here hx rfl (hb hby d1_7) ?_
    show Steps p.tables e below (T1.setTop (mkF m 8 #[.val .null, .val (.ref z_1), .val (.int (8 : Int32)), .unset, .unset] [(.int (0 : Int32))])) _
    refine XS.istoreN X1.here hx rfl (hb hby d1_8) rfl (l' := #[.val .null, .val (.ref z_1), .val (.int (8 : Int32)), .val (.int (0 : Int32)), .unset]) rfl ?_
    show Steps p.tables e below (T1.setTop (mkF m 9 #[.val .null, .val (.ref z_1), .val (.int (8 : Int32)), .val (.int (0 : Int32)), .unset] [])) _
    refine XS.iloadN X1.here hx rfl (hb hby d1_9) rfl ?_
    show Steps p.tables e below (T1.setTop (mkF m 10 #[.val .null, .val (.ref z_1), .val (.int (8 : Int32)), .val (.int (0 : Int32)), .unset] [(.int (0 : Int32))])) _
    refine XS.iloadN X1.here hx rfl (hb hby d1_10) rfl ?_
    show Steps p.tables e below (T1.setTop (mkF m 11 #[.val .null, .val (.ref z_1), .val (.int (8 : Int32)), .val (.int (0 : Int32)), .unset] [(.int (8 : Int32)), (.int (0 : Int32))])) _
    refine XS.icmpNo X1.here hx rfl (hb hby d1_11) rfl (tlt ((by decide) : (0 : Int32) < (8 : Int32))).2.1 ?_
    show Steps p.tables e below (T1.setTop (mkF m 14 #[.val .null, .val (.ref z_1), .val (.int (8 : Int32)), .val (.int (0 : Int32)), .unset] [])) _
    refine XS.aloadN X1.here hx rfl (hb hby d1_14) rfl rfl ?_
    show Steps p.tables e below (T1.setTop (mkF m 15 #[.val .null, .val (.ref z_1), .val (.int (8 : Int32)), .val (.int (0 : Int32)), .unset] [(.ref z_1)])) _
    refine XS.iloadN X1.here hx rfl (hb hby d1_15) rfl ?_
    show Steps p.tables e below (T1.setTop (mkF m 16 #[.val .null, .val (.ref z_1), .val (.int (8 : Int32)), .val (.int (0 : Int32)), .unset] [(.int (0 : Int32)), (.ref z_1)])) _
    refine X1.aaload hx (j := (0 : Int32)) (v := (.ref s_COUNT)) (by exact Ar3.1) (State.isArrayOf_alike hZ.alike Ar3.2.1) rfl Ar3.2.2 hin3 hat3 (g := (mkF m 16 #[.val .null, .val (.ref z_1), .val (.int (8 : Int32)), .val (.int (0 : Int32)), .unset] [(.int (0 : Int32)), (.ref z_1)])) rfl rfl (hb hby d1_16) _ ?_
    show Steps p.tables e below (T1.setTop (mkF m 17 #[.val .null, .val (.ref z_1), .val (.int (8 : Int32)), .val (.int (0 : Int32)), .unset] [(.ref s_COUNT)])) _
    refine XS.astore X1.here hx rfl (hb hby d1_17) rfl rfl (l' := #[.val .null, .val (.ref z_1), .val (.int (8 : Int32)), .val (.int (0 : Int32)), .val (.ref s_COUNT)]) rfl ?_
    show Steps p.tables e below (T1.setTop (mkF m 19 #[.val .null, .val (.ref z_1), .val (.int (8 : Int32)), .val (.int (0 : Int32)), .val (.ref s_COUNT)] [])) _
    refine XS.aload X1.here hx rfl (hb hby d1_19) rfl rfl ?_
    show Steps p.tables e below (T1.setTop (mkF m 21 #[.val .null, .val (.ref z_1), .val (.int (8 : Int32)), .val (.int (0 : Int32)), .val (.ref s_COUNT)] [(.ref s_COUNT)])) _
    exact k
  obtain ⟨cq5, kq5, q5a, q5b, q5c⟩ := isOf hZ rfl E_s_COUNT
  obtain ⟨_, _, ⟨T5, L5, k5, n5⟩, -, X5, sn5, gr5, ⟨Lc5, hQ5, l5, y5, z5, R5⟩, st5⟩ := X1.virtualBackS hx (y := (⟨"com/example/querent/querent/translation/Aggregation", "operation", "()Ljava/lang/String;"⟩ : MethodName)) (z := (⟨"com/example/querent/querent/translation/Aggregation", "operation", "()Ljava/lang/String;"⟩ : MethodName)) hown (mvT hZ (hw _ (List.mem_of_getElem? (i := 70) rfl))) (mvT hZ (hw _ (List.mem_of_getElem? (i := 71) rfl))) (notFace_of_selects (args := #[]) (mvT hZ (hw _ (List.mem_of_getElem? (i := 73) rfl)))) (mvT hZ (hw _ (List.mem_of_getElem? (i := 73) rfl))) (mvT hZ (hw _ (List.mem_of_getElem? (i := 72) rfl))) (by decide) (backOfSH (W := 0) (rm3_0 l Z a0 hw [] s_COUNT T1.heap n0 O E_s_COUNT F_ordinal_s_COUNT) hZ (hw _ (List.mem_of_getElem? (i := 74) rfl)) (hw _ (List.mem_of_getElem? (i := 35) rfl)) (by decide) (by decide) hEL C.1) q5a q5c (g := (mkF m 21 #[.val .null, .val (.ref z_1), .val (.int (8 : Int32)), .val (.int (0 : Int32)), .val (.ref s_COUNT)] [(.ref s_COUNT)])) rfl (by rw [hml]; rfl) (Steps.refl _) (argsL := []) (rest := []) (lenOf pd__40_41Ljava_47lang_47String_59 rfl) rfl (by show 2 * 0 + _ ≤ _; exact Nat.le_of_eq rfl) (hb hby d1_21) (fun _ _ => ⟨rfl, rfl, (by decide : 1 + 2 ≤ _), (by decide : 8 + 24 ≤ _)⟩)
  dsimp only [Pt.U, Pt.locs, Pt.cells, Pt.slots] at X5 l5 y5 z5 st5 hQ5 sn5 gr5 R5
  have X5 := own_un X5 l5 y5 z5
  obtain ⟨X5, hS, hZ, hown⟩ := rebS hS (by exact hk) X5 sn5 gr5 hZ hown
  obtain ⟨z_5, t1_5, kb_5, rfl, N5q, K5, E_z_c5, F_c_z_c5, F_v_z_c5, V_t_c5⟩ := hQ5
  have N5 := Fr.app N1 N5q
  have R := R5
  have C := C.trans R
  have hk : T5.heap.size ≤ T5.heap.size := Nat.le_refl _
  have V_z_c1 := V_z_c1.keep K5 nin0
  have E_s_COUNT := E_s_COUNT.keep K5
  have F_ordinal_s_COUNT := F_ordinal_s_COUNT.keep K5 nin0
  have O := O.keep K5 all0
  have K := K.trans K5 all0
  obtain ⟨cq6, kq6, q6a, q6b, q6c⟩ := isOf hZ rfl E_z_c5
  obtain ⟨_, _, ⟨T6, L6, k6, n6⟩, -, X6, ⟨Lc6, hQ6, l6, y6, z6⟩, st6⟩ := X5.virtualBack hx (y := (⟨"java/lang/String", "equals", "(Ljava/lang/Object;)Z"⟩ : MethodName)) (z := (⟨"java/lang/String", "equals", "(Ljava/lang/Object;)Z"⟩ : MethodName)) hown (mvT hZ (hw _ (List.mem_of_getElem? (i := 85) rfl))) (mvT hZ (hw _ (List.mem_of_getElem? (i := 86) rfl))) (notFace_of_selects (args := #[]) (mvT hZ (hw _ (List.mem_of_getElem? (i := 88) rfl)))) (mvT hZ (hw _ (List.mem_of_getElem? (i := 88) rfl))) (mvT hZ (hw _ (List.mem_of_getElem? (i := 87) rfl))) (by decide) (backOf (W := 0) (rm5_n l Z a0 hw [] z_5 T5.heap n0 O ) hZ (hw _ (List.mem_of_getElem? (i := 89) rfl)) (hw _ (List.mem_of_getElem? (i := 3) rfl)) (by decide) (by decide)) q6a q6c (g := (mkF m 25 #[.val .null, .val (.ref z_1), .val (.int (8 : Int32)), .val (.int (0 : Int32)), .val (.ref s_COUNT)] [.null, (.ref z_5)])) rfl (by rw [hml]; rfl) (Steps.refl _) (argsL := [.null]) (rest := []) (lenOf pd__40Ljava_47lang_47Object_59_41Z rfl) rfl (by show 2 * 0 + _ ≤ _; exact Nat.le_of_eq rfl) (hb hby d1_25) (fun _ _ => ⟨rfl, rfl, (by decide : 3 + 0 ≤ _), (by decide : 32 + 0 ≤ _)⟩)
  dsimp only [Pt.U, Pt.locs, Pt.cells, Pt.slots] at X6 l6 y6 z6 st6 hQ6
  have X6 := own_un X6 l6 y6 z6
  obtain ⟨rfl, N6q, eh6⟩ := hQ6
  have N6 := Fr.app N5 N6q
  obtain ⟨cl7, Ar7, q7, Z7, N7, H7, G7⟩ := id V_z_c1
  have hin7 : ¬ ((1 : Int32) < 0 ∨ cl7.slots.size ≤ ((1 : Int32)).toNatClampNeg) := inb_of Z7 ⟨by decide, by decide⟩
  have hat7 : cl7.slots[((1 : Int32)).toNatClampNeg]? = some (.ref s_SUM_INTEGER) := H7.at hin7 rfl
  have E_s_SUM_INTEGER := o_E_s_SUM_INTEGER.ext O.2
  have F_ordinal_s_SUM_INTEGER := o_F_ordinal_s_SUM_INTEGER.ext O.2
  have w8 : ∀ t, Steps p.tables e below (T6.setTop (mkF m 21 #[.val .null, .val (.ref z_1), .val (.int (8 : Int32)), .val (.int (1 : Int32)), .val (.ref s_SUM_INTEGER)] [(.ref s_SUM_INTEGER)])) t → Steps p.tables e below (s₁.setTop (entryFrame m #[.null] 5)) t := fun t k => by
    refine w4 t ?_
    refine st5.trans ?_
    show Steps p.tables e below (T5.setTop (mkF m 24 #[.val .null, .val (.ref z_1), .val (.int (8 : Int32)), .val (.int (0 : Int32)), .val (.ref s_COUNT)] [(.ref z_5)])) _
    refine XS.aloadN X5.here hx rfl (hb hby d1_24) rfl rfl ?_
    show Steps p.tables e below (T5.setTop (mkF m 25 #[.val .null, .val (.ref z_1), .val (.int (8 : Int32)), .val (.int (0 : Int32)), .val (.ref s_COUNT)] [.null, (.ref z_5)])) _
    refine st6.trans ?_
    show Steps p.tables e below (T6.setTop (mkF m 28 #[.val .null, .val (.ref z_1), .val (.int (8 : Int32)), .val (.int (0 : Int32)), .val (.ref s_COUNT)] [(.int (0 : Int32))])) _
    refine XS.ifYes X6.here hx rfl (pc0 := 28) (pc' := 37) rfl (hb hby d1_28) rfl ((if0 _ _).trans (teq (rfl : (0 : Int32) = (0 : Int32))).1) (by decide) (by decide) ?_
    show Steps p.tables e below (T6.setTop (mkF m 37 #[.val .null, .val (.ref z_1), .val (.int (8 : Int32)), .val (.int (0 : Int32)), .val (.ref s_COUNT)] [])) _
    refine XS.iinc X6.here hx rfl (hb hby d1_37) rfl (l' := #[.val .null, .val (.ref z_1), .val (.int (8 : Int32)), .val (.int (1 : Int32)), .val (.ref s_COUNT)]) rfl ?_
    show Steps p.tables e below (T6.setTop (mkF m 40 #[.val .null, .val (.ref z_1), .val (.int (8 : Int32)), .val (.int (1 : Int32)), .val (.ref s_COUNT)] [])) _
    refine XS.goto X6.here hx rfl (pc0 := 40) (pc' := 9) rfl (hb hby d1_40) (by decide) (by decide) ?_
    show Steps p.tables e below (T6.setTop (mkF m 9 #[.val .null, .val (.ref z_1), .val (.int (8 : Int32)), .val (.int (1 : Int32)), .val (.ref s_COUNT)] [])) _
    refine XS.iloadN X6.here hx rfl (hb hby d1_9) rfl ?_
    show Steps p.tables e below (T6.setTop (mkF m 10 #[.val .null, .val (.ref z_1), .val (.int (8 : Int32)), .val (.int (1 : Int32)), .val (.ref s_COUNT)] [(.int (1 : Int32))])) _
    refine XS.iloadN X6.here hx rfl (hb hby d1_10) rfl ?_
    show Steps p.tables e below (T6.setTop (mkF m 11 #[.val .null, .val (.ref z_1), .val (.int (8 : Int32)), .val (.int (1 : Int32)), .val (.ref s_COUNT)] [(.int (8 : Int32)), (.int (1 : Int32))])) _
    refine XS.icmpNo X6.here hx rfl (hb hby d1_11) rfl (tlt ((by decide) : (1 : Int32) < (8 : Int32))).2.1 ?_
    show Steps p.tables e below (T6.setTop (mkF m 14 #[.val .null, .val (.ref z_1), .val (.int (8 : Int32)), .val (.int (1 : Int32)), .val (.ref s_COUNT)] [])) _
    refine XS.aloadN X6.here hx rfl (hb hby d1_14) rfl rfl ?_
    show Steps p.tables e below (T6.setTop (mkF m 15 #[.val .null, .val (.ref z_1), .val (.int (8 : Int32)), .val (.int (1 : Int32)), .val (.ref s_COUNT)] [(.ref z_1)])) _
    refine XS.iloadN X6.here hx rfl (hb hby d1_15) rfl ?_
    show Steps p.tables e below (T6.setTop (mkF m 16 #[.val .null, .val (.ref z_1), .val (.int (8 : Int32)), .val (.int (1 : Int32)), .val (.ref s_COUNT)] [(.int (1 : Int32)), (.ref z_1)])) _
    refine X6.aaload hx (j := (1 : Int32)) (v := (.ref s_SUM_INTEGER)) (by rw [eh6]; exact Ar7.1) (State.isArrayOf_alike hZ.alike Ar7.2.1) rfl Ar7.2.2 hin7 hat7 (g := (mkF m 16 #[.val .null, .val (.ref z_1), .val (.int (8 : Int32)), .val (.int (1 : Int32)), .val (.ref s_COUNT)] [(.int (1 : Int32)), (.ref z_1)])) rfl rfl (hb hby d1_16) _ ?_
    show Steps p.tables e below (T6.setTop (mkF m 17 #[.val .null, .val (.ref z_1), .val (.int (8 : Int32)), .val (.int (1 : Int32)), .val (.ref s_COUNT)] [(.ref s_SUM_INTEGER)])) _
    refine XS.astore X6.here hx rfl (hb hby d1_17) rfl rfl (l' := #[.val .null, .val (.ref z_1), .val (.int (8 : Int32)), .val (.int (1 : Int32)), .val (.ref s_SUM_INTEGER)]) rfl ?_
    show Steps p.tables e below (T6.setTop (mkF m 19 #[.val .null, .val (.ref z_1), .val (.int (8 : Int32)), .val (.int (1 : Int32)), .val (.ref s_SUM_INTEGER)] [])) _
    refine XS.aload X6.here hx rfl (hb hby d1_19) rfl rfl ?_
    show Steps p.tables e below (T6.setTop (mkF m 21 #[.val .null, .val (.ref z_1), .val (.int (8 : Int32)), .val (.int (1 : Int32)), .val (.ref s_SUM_INTEGER)] [(.ref s_SUM_INTEGER)])) _
    exact k
  obtain ⟨cq9, kq9, q9a, q9b, q9c⟩ := isOf hZ eh6 E_s_SUM_INTEGER
  obtain ⟨_, _, ⟨T9, L9, k9, n9⟩, -, X9, sn9, gr9, ⟨Lc9, hQ9, l9, y9, z9, R9⟩, st9⟩ := X6.virtualBackS hx (y := (⟨"com/example/querent/querent/translation/Aggregation", "operation", "()Ljava/lang/String;"⟩ : MethodName)) (z := (⟨"com/example/querent/querent/translation/Aggregation", "operation", "()Ljava/lang/String;"⟩ : MethodName)) hown (mvT hZ (hw _ (List.mem_of_getElem? (i := 70) rfl))) (mvT hZ (hw _ (List.mem_of_getElem? (i := 71) rfl))) (notFace_of_selects (args := #[]) (mvT hZ (hw _ (List.mem_of_getElem? (i := 73) rfl)))) (mvT hZ (hw _ (List.mem_of_getElem? (i := 73) rfl))) (mvT hZ (hw _ (List.mem_of_getElem? (i := 72) rfl))) (by decide) (backOfSH (W := 0) (rm3_1 l Z a0 hw [] s_SUM_INTEGER T5.heap n0 O E_s_SUM_INTEGER F_ordinal_s_SUM_INTEGER) hZ (hw _ (List.mem_of_getElem? (i := 74) rfl)) (hw _ (List.mem_of_getElem? (i := 35) rfl)) (by decide) (by decide) hEL C.1) q9a q9c (g := (mkF m 21 #[.val .null, .val (.ref z_1), .val (.int (8 : Int32)), .val (.int (1 : Int32)), .val (.ref s_SUM_INTEGER)] [(.ref s_SUM_INTEGER)])) rfl (by rw [hml]; rfl) (Steps.refl _) (argsL := []) (rest := []) (lenOf pd__40_41Ljava_47lang_47String_59 rfl) rfl (by show 2 * 0 + _ ≤ _; exact Nat.le_of_eq rfl) (hb hby d1_21) (fun _ _ => ⟨rfl, eh6, (by decide : 3 + 2 ≤ _), (by decide : 32 + 44 ≤ _)⟩)
  dsimp only [Pt.U, Pt.locs, Pt.cells, Pt.slots] at X9 l9 y9 z9 st9 hQ9 sn9 gr9 R9
  have X9 := own_un X9 l9 y9 z9
  obtain ⟨X9, hS, hZ, hown⟩ := rebS hS (by rw [eh6]; exact hk) X9 sn9 gr9 hZ hown
  obtain ⟨z_9, t1_9, kb_9, rfl, N9q, K9, E_z_c9, F_c_z_c9, F_v_z_c9, V_t_c9⟩ := hQ9
  have N9 := Fr.app N6 N9q
  have R := R9
  have C := C.trans R
  have hk : T9.heap.size ≤ T9.heap.size := Nat.le_refl _
  have V_z_c1 := V_z_c1.keep K9 nin0
  have E_s_SUM_INTEGER := E_s_SUM_INTEGER.keep K9
  have F_ordinal_s_SUM_INTEGER := F_ordinal_s_SUM_INTEGER.keep K9 nin0
  have O := O.keep K9 all0
  have K := K.trans K9 all0
  obtain ⟨cq10, kq10, q10a, q10b, q10c⟩ := isOf hZ rfl E_z_c9
  obtain ⟨_, _, ⟨T10, L10, k10, n10⟩, -, X10, ⟨Lc10, hQ10, l10, y10, z10⟩, st10⟩ := X9.virtualBack hx (y := (⟨"java/lang/String", "equals", "(Ljava/lang/Object;)Z"⟩ : MethodName)) (z := (⟨"java/lang/String", "equals", "(Ljava/lang/Object;)Z"⟩ : MethodName)) hown (mvT hZ (hw _ (List.mem_of_getElem? (i := 85) rfl))) (mvT hZ (hw _ (List.mem_of_getElem? (i := 86) rfl))) (notFace_of_selects (args := #[]) (mvT hZ (hw _ (List.mem_of_getElem? (i := 88) rfl)))) (mvT hZ (hw _ (List.mem_of_getElem? (i := 88) rfl))) (mvT hZ (hw _ (List.mem_of_getElem? (i := 87) rfl))) (by decide) (backOf (W := 0) (rm5_n l Z a0 hw [] z_9 T9.heap n0 O ) hZ (hw _ (List.mem_of_getElem? (i := 89) rfl)) (hw _ (List.mem_of_getElem? (i := 3) rfl)) (by decide) (by decide)) q10a q10c (g := (mkF m 25 #[.val .null, .val (.ref z_1), .val (.int (8 : Int32)), .val (.int (1 : Int32)), .val (.ref s_SUM_INTEGER)] [.null, (.ref z_9)])) rfl (by rw [hml]; rfl) (Steps.refl _) (argsL := [.null]) (rest := []) (lenOf pd__40Ljava_47lang_47Object_59_41Z rfl) rfl (by show 2 * 0 + _ ≤ _; exact Nat.le_of_eq rfl) (hb hby d1_25) (fun _ _ => ⟨rfl, rfl, (by decide : 5 + 0 ≤ _), (by decide : 76 + 0 ≤ _)⟩)
  dsimp only [Pt.U, Pt.locs, Pt.cells, Pt.slots] at X10 l10 y10 z10 st10 hQ10
  have X10 := own_un X10 l10 y10 z10
  obtain ⟨rfl, N10q, eh10⟩ := hQ10
  have N10 := Fr.app N9 N10q
  obtain ⟨cl11, Ar11, q11, Z11, N11, H11, G11⟩ := id V_z_c1
  have hin11 : ¬ ((2 : Int32) < 0 ∨ cl11.slots.size ≤ ((2 : Int32)).toNatClampNeg) := inb_of Z11 ⟨by decide, by decide⟩
  have hat11 : cl11.slots[((2 : Int32)).toNatClampNeg]? = some (.ref s_SUM_LONG) := H11.at hin11 rfl
  have E_s_SUM_LONG := o_E_s_SUM_LONG.ext O.2
  have F_ordinal_s_SUM_LONG := o_F_ordinal_s_SUM_LONG.ext O.2
  have w12 : ∀ t, Steps p.tables e below (T10.setTop (mkF m 21 #[.val .null, .val (.ref z_1), .val (.int (8 : Int32)), .val (.int (2 : Int32)), .val (.ref s_SUM_LONG)] [(.ref s_SUM_LONG)])) t → Steps p.tables e below (s₁.setTop (entryFrame m #[.null] 5)) t := fun t k => by
    refine w8 t ?_
    refine st9.trans ?_
    show Steps p.tables e below (T9.setTop (mkF m 24 #[.val .null, .val (.ref z_1), .val (.int (8 : Int32)), .val (.int (1 : Int32)), .val (.ref s_SUM_INTEGER)] [(.ref z_9)])) _
    refine XS.aloadN X9.here hx rfl (hb hby d1_24) rfl rfl ?_
    show Steps p.tables e below (T9.setTop (mkF m 25 #[.val .null, .val (.ref z_1), .val (.int (8 : Int32)), .val (.int (1 : Int32)), .val (.ref s_SUM_INTEGER)] [.null, (.ref z_9)])) _
    refine st10.trans ?_
    show Steps p.tables e below (T10.setTop (mkF m 28 #[.val .null, .val (.ref z_1), .val (.int (8 : Int32)), .val (.int (1 : Int32)), .val (.ref s_SUM_INTEGER)] [(.int (0 : Int32))])) _
    refine XS.ifYes X10.here hx rfl (pc0 := 28) (pc' := 37) rfl (hb hby d1_28) rfl ((if0 _ _).trans (teq (rfl : (0 : Int32) = (0 : Int32))).1) (by decide) (by decide) ?_
    show Steps p.tables e below (T10.setTop (mkF m 37 #[.val .null, .val (.ref z_1), .val (.int (8 : Int32)), .val (.int (1 : Int32)), .val (.ref s_SUM_INTEGER)] [])) _
    refine XS.iinc X10.here hx rfl (hb hby d1_37) rfl (l' := #[.val .null, .val (.ref z_1), .val (.int (8 : Int32)), .val (.int (2 : Int32)), .val (.ref s_SUM_INTEGER)]) rfl ?_
    show Steps p.tables e below (T10.setTop (mkF m 40 #[.val .null, .val (.ref z_1), .val (.int (8 : Int32)), .val (.int (2 : Int32)), .val (.ref s_SUM_INTEGER)] [])) _
    refine XS.goto X10.here hx rfl (pc0 := 40) (pc' := 9) rfl (hb hby d1_40) (by decide) (by decide) ?_
    show Steps p.tables e below (T10.setTop (mkF m 9 #[.val .null, .val (.ref z_1), .val (.int (8 : Int32)), .val (.int (2 : Int32)), .val (.ref s_SUM_INTEGER)] [])) _
    refine XS.iloadN X10.here hx rfl (hb hby d1_9) rfl ?_
    show Steps p.tables e below (T10.setTop (mkF m 10 #[.val .null, .val (.ref z_1), .val (.int (8 : Int32)), .val (.int (2 : Int32)), .val (.ref s_SUM_INTEGER)] [(.int (2 : Int32))])) _
    refine XS.iloadN X10.here hx rfl (hb hby d1_10) rfl ?_
    show Steps p.tables e below (T10.setTop (mkF m 11 #[.val .null, .val (.ref z_1), .val (.int (8 : Int32)), .val (.int (2 : Int32)), .val (.ref s_SUM_INTEGER)] [(.int (8 : Int32)), (.int (2 : Int32))])) _
    refine XS.icmpNo X10.here hx rfl (hb hby d1_11) rfl (tlt ((by decide) : (2 : Int32) < (8 : Int32))).2.1 ?_
    show Steps p.tables e below (T10.setTop (mkF m 14 #[.val .null, .val (.ref z_1), .val (.int (8 : Int32)), .val (.int (2 : Int32)), .val (.ref s_SUM_INTEGER)] [])) _
    refine XS.aloadN X10.here hx rfl (hb hby d1_14) rfl rfl ?_
    show Steps p.tables e below (T10.setTop (mkF m 15 #[.val .null, .val (.ref z_1), .val (.int (8 : Int32)), .val (.int (2 : Int32)), .val (.ref s_SUM_INTEGER)] [(.ref z_1)])) _
    refine XS.iloadN X10.here hx rfl (hb hby d1_15) rfl ?_
    show Steps p.tables e below (T10.setTop (mkF m 16 #[.val .null, .val (.ref z_1), .val (.int (8 : Int32)), .val (.int (2 : Int32)), .val (.ref s_SUM_INTEGER)] [(.int (2 : Int32)), (.ref z_1)])) _
    refine X10.aaload hx (j := (2 : Int32)) (v := (.ref s_SUM_LONG)) (by rw [eh10]; exact Ar11.1) (State.isArrayOf_alike hZ.alike Ar11.2.1) rfl Ar11.2.2 hin11 hat11 (g := (mkF m 16 #[.val .null, .val (.ref z_1), .val (.int (8 : Int32)), .val (.int (2 : Int32)), .val (.ref s_SUM_INTEGER)] [(.int (2 : Int32)), (.ref z_1)])) rfl rfl (hb hby d1_16) _ ?_
    show Steps p.tables e below (T10.setTop (mkF m 17 #[.val .null, .val (.ref z_1), .val (.int (8 : Int32)), .val (.int (2 : Int32)), .val (.ref s_SUM_INTEGER)] [(.ref s_SUM_LONG)])) _
    refine XS.astore X10.here hx rfl (hb hby d1_17) rfl rfl (l' := #[.val .null, .val (.ref z_1), .val (.int (8 : Int32)), .val (.int (2 : Int32)), .val (.ref s_SUM_LONG)]) rfl ?_
    show Steps p.tables e below (T10.setTop (mkF m 19 #[.val .null, .val (.ref z_1), .val (.int (8 : Int32)), .val (.int (2 : Int32)), .val (.ref s_SUM_LONG)] [])) _
    refine XS.aload X10.here hx rfl (hb hby d1_19) rfl rfl ?_
    show Steps p.tables e below (T10.setTop (mkF m 21 #[.val .null, .val (.ref z_1), .val (.int (8 : Int32)), .val (.int (2 : Int32)), .val (.ref s_SUM_LONG)] [(.ref s_SUM_LONG)])) _
    exact k
  obtain ⟨cq13, kq13, q13a, q13b, q13c⟩ := isOf hZ eh10 E_s_SUM_LONG
  obtain ⟨_, _, ⟨T13, L13, k13, n13⟩, -, X13, sn13, gr13, ⟨Lc13, hQ13, l13, y13, z13, R13⟩, st13⟩ := X10.virtualBackS hx (y := (⟨"com/example/querent/querent/translation/Aggregation", "operation", "()Ljava/lang/String;"⟩ : MethodName)) (z := (⟨"com/example/querent/querent/translation/Aggregation", "operation", "()Ljava/lang/String;"⟩ : MethodName)) hown (mvT hZ (hw _ (List.mem_of_getElem? (i := 70) rfl))) (mvT hZ (hw _ (List.mem_of_getElem? (i := 71) rfl))) (notFace_of_selects (args := #[]) (mvT hZ (hw _ (List.mem_of_getElem? (i := 73) rfl)))) (mvT hZ (hw _ (List.mem_of_getElem? (i := 73) rfl))) (mvT hZ (hw _ (List.mem_of_getElem? (i := 72) rfl))) (by decide) (backOfSH (W := 0) (rm3_2 l Z a0 hw [] s_SUM_LONG T9.heap n0 O E_s_SUM_LONG F_ordinal_s_SUM_LONG) hZ (hw _ (List.mem_of_getElem? (i := 74) rfl)) (hw _ (List.mem_of_getElem? (i := 35) rfl)) (by decide) (by decide) hEL C.1) q13a q13c (g := (mkF m 21 #[.val .null, .val (.ref z_1), .val (.int (8 : Int32)), .val (.int (2 : Int32)), .val (.ref s_SUM_LONG)] [(.ref s_SUM_LONG)])) rfl (by rw [hml]; rfl) (Steps.refl _) (argsL := []) (rest := []) (lenOf pd__40_41Ljava_47lang_47String_59 rfl) rfl (by show 2 * 0 + _ ≤ _; exact Nat.le_of_eq rfl) (hb hby d1_21) (fun _ _ => ⟨rfl, eh10, (by decide : 5 + 2 ≤ _), (by decide : 76 + 32 ≤ _)⟩)
  dsimp only [Pt.U, Pt.locs, Pt.cells, Pt.slots] at X13 l13 y13 z13 st13 hQ13 sn13 gr13 R13
  have X13 := own_un X13 l13 y13 z13
  obtain ⟨X13, hS, hZ, hown⟩ := rebS hS (by rw [eh10]; exact hk) X13 sn13 gr13 hZ hown
  obtain ⟨z_13, t1_13, kb_13, rfl, N13q, K13, E_z_c13, F_c_z_c13, F_v_z_c13, V_t_c13⟩ := hQ13
  have N13 := Fr.app N10 N13q
  have R := R13
  have C := C.trans R
  have hk : T13.heap.size ≤ T13.heap.size := Nat.le_refl _
  have V_z_c1 := V_z_c1.keep K13 nin0
  have E_s_SUM_LONG := E_s_SUM_LONG.keep K13
  have F_ordinal_s_SUM_LONG := F_ordinal_s_SUM_LONG.keep K13 nin0
  have O := O.keep K13 all0
  have K := K.trans K13 all0
  obtain ⟨cq14, kq14, q14a, q14b, q14c⟩ := isOf hZ rfl E_z_c13
  obtain ⟨_, _, ⟨T14, L14, k14, n14⟩, -, X14, ⟨Lc14, hQ14, l14, y14, z14⟩, st14⟩ := X13.virtualBack hx (y := (⟨"java/lang/String", "equals", "(Ljava/lang/Object;)Z"⟩ : MethodName)) (z := (⟨"java/lang/String", "equals", "(Ljava/lang/Object;)Z"⟩ : MethodName)) hown (mvT hZ (hw _ (List.mem_of_getElem? (i := 85) rfl))) (mvT hZ (hw _ (List.mem_of_getElem? (i := 86) rfl))) (notFace_of_selects (args := #[]) (mvT hZ (hw _ (List.mem_of_getElem? (i := 88) rfl)))) (mvT hZ (hw _ (List.mem_of_getElem? (i := 88) rfl))) (mvT hZ (hw _ (List.mem_of_getElem? (i := 87) rfl))) (by decide) (backOf (W := 0) (rm5_n l Z a0 hw [] z_13 T13.heap n0 O ) hZ (hw _ (List.mem_of_getElem? (i := 89) rfl)) (hw _ (List.mem_of_getElem? (i := 3) rfl)) (by decide) (by decide)) q14a q14c (g := (mkF m 25 #[.val .null, .val (.ref z_1), .val (.int (8 : Int32)), .val (.int (2 : Int32)), .val (.ref s_SUM_LONG)] [.null, (.ref z_13)])) rfl (by rw [hml]; rfl) (Steps.refl _) (argsL := [.null]) (rest := []) (lenOf pd__40Ljava_47lang_47Object_59_41Z rfl) rfl (by show 2 * 0 + _ ≤ _; exact Nat.le_of_eq rfl) (hb hby d1_25) (fun _ _ => ⟨rfl, rfl, (by decide : 7 + 0 ≤ _), (by decide : 108 + 0 ≤ _)⟩)
  dsimp only [Pt.U, Pt.locs, Pt.cells, Pt.slots] at X14 l14 y14 z14 st14 hQ14
  have X14 := own_un X14 l14 y14 z14
  obtain ⟨rfl, N14q, eh14⟩ := hQ14
  have N14 := Fr.app N13 N14q
  obtain ⟨cl15, Ar15, q15, Z15, N15, H15, G15⟩ := id V_z_c1
  have hin15 : ¬ ((3 : Int32) < 0 ∨ cl15.slots.size ≤ ((3 : Int32)).toNatClampNeg) := inb_of Z15 ⟨by decide, by decide⟩
  have hat15 : cl15.slots[((3 : Int32)).toNatClampNeg]? = some (.ref s_SUM_DOUBLE) := H15.at hin15 rfl
  have E_s_SUM_DOUBLE := o_E_s_SUM_DOUBLE.ext O.2
  have F_ordinal_s_SUM_DOUBLE := o_F_ordinal_s_SUM_DOUBLE.ext O.2
  have w16 : ∀ t, Steps p.tables e below (T14.setTop (mkF m 21 #[.val .null, .val (.ref z_1), .val (.int (8 : Int32)), .val (.int (3 : Int32)), .val (.ref s_SUM_DOUBLE)] [(.ref s_SUM_DOUBLE)])) t → Steps p.tables e below (s₁.setTop (entryFrame m #[.null] 5)) t := fun t k => by
    refine w12 t ?_
    refine st13.trans ?_
    show Steps p.tables e below (T13.setTop (mkF m 24 #[.val .null, .val (.ref z_1), .val (.int (8 : Int32)), .val (.int (2 : Int32)), .val (.ref s_SUM_LONG)] [(.ref z_13)])) _
    refine XS.aloadN X13.here hx rfl (hb hby d1_24) rfl rfl ?_
    show Steps p.tables e below (T13.setTop (mkF m 25 #[.val .null, .val (.ref z_1), .val (.int (8 : Int32)), .val (.int (2 : Int32)), .val (.ref s_SUM_LONG)] [.null, (.ref z_13)])) _
    refine st14.trans ?_
    show Steps p.tables e below (T14.setTop (mkF m 28 #[.val .null, .val (.ref z_1), .val (.int (8 : Int32)), .val (.int (2 : Int32)), .val (.ref s_SUM_LONG)] [(.int (0 : Int32))])) _
    refine XS.ifYes X14.here hx rfl (pc0 := 28) (pc' := 37) rfl (hb hby d1_28) rfl ((if0 _ _).trans (teq (rfl : (0 : Int32) = (0 : Int32))).1) (by decide) (by decide) ?_
    show Steps p.tables e below (T14.setTop (mkF m 37 #[.val .null, .val (.ref z_1), .val (.int (8 : Int32)), .val (.int (2 : Int32)), .val (.ref s_SUM_LONG)] [])) _
    refine XS.iinc X14.here hx rfl (hb hby d1_37) rfl (l' := #[.val .null, .val (.ref z_1), .val (.int (8 : Int32)), .val (.int (3 : Int32)), .val (.ref s_SUM_LONG)]) rfl ?_
    show Steps p.tables e below (T14.setTop (mkF m 40 #[.val .null, .val (.ref z_1), .val (.int (8 : Int32)), .val (.int (3 : Int32)), .val (.ref s_SUM_LONG)] [])) _
    refine XS.goto X14.here hx rfl (pc0 := 40) (pc' := 9) rfl (hb hby d1_40) (by decide) (by decide) ?_
    show Steps p.tables e below (T14.setTop (mkF m 9 #[.val .null, .val (.ref z_1), .val (.int (8 : Int32)), .val (.int (3 : Int32)), .val (.ref s_SUM_LONG)] [])) _
    refine XS.iloadN X14.here hx rfl (hb hby d1_9) rfl ?_
    show Steps p.tables e below (T14.setTop (mkF m 10 #[.val .null, .val (.ref z_1), .val (.int (8 : Int32)), .val (.int (3 : Int32)), .val (.ref s_SUM_LONG)] [(.int (3 : Int32))])) _
    refine XS.iloadN X14.here hx rfl (hb hby d1_10) rfl ?_
    show Steps p.tables e below (T14.setTop (mkF m 11 #[.val .null, .val (.ref z_1), .val (.int (8 : Int32)), .val (.int (3 : Int32)), .val (.ref s_SUM_LONG)] [(.int (8 : Int32)), (.int (3 : Int32))])) _
    refine XS.icmpNo X14.here hx rfl (hb hby d1_11) rfl (tlt ((by decide) : (3 : Int32) < (8 : Int32))).2.1 ?_
    show Steps p.tables e below (T14.setTop (mkF m 14 #[.val .null, .val (.ref z_1), .val (.int (8 : Int32)), .val (.int (3 : Int32)), .val (.ref s_SUM_LONG)] [])) _
    refine XS.aloadN X14.here hx rfl (hb hby d1_14) rfl rfl ?_
    show Steps p.tables e below (T14.setTop (mkF m 15 #[.val .null, .val (.ref z_1), .val (.int (8 : Int32)), .val (.int (3 : Int32)), .val (.ref s_SUM_LONG)] [(.ref z_1)])) _
    refine XS.iloadN X14.here hx rfl (hb hby d1_15) rfl ?_
    show Steps p.tables e below (T14.setTop (mkF m 16 #[.val .null, .val (.ref z_1), .val (.int (8 : Int32)), .val (.int (3 : Int32)), .val (.ref s_SUM_LONG)] [(.int (3 : Int32)), (.ref z_1)])) _
    refine X14.aaload hx (j := (3 : Int32)) (v := (.ref s_SUM_DOUBLE)) (by rw [eh14]; exact Ar15.1) (State.isArrayOf_alike hZ.alike Ar15.2.1) rfl Ar15.2.2 hin15 hat15 (g := (mkF m 16 #[.val .null, .val (.ref z_1), .val (.int (8 : Int32)), .val (.int (3 : Int32)), .val (.ref s_SUM_LONG)] [(.int (3 : Int32)), (.ref z_1)])) rfl rfl (hb hby d1_16) _ ?_
    show Steps p.tables e below (T14.setTop (mkF m 17 #[.val .null, .val (.ref z_1), .val (.int (8 : Int32)), .val (.int (3 : Int32)), .val (.ref s_SUM_LONG)] [(.ref s_SUM_DOUBLE)])) _
    refine XS.astore X14.here hx rfl (hb hby d1_17) rfl rfl (l' := #[.val .null, .val (.ref z_1), .val (.int (8 : Int32)), .val (.int (3 : Int32)), .val (.ref s_SUM_DOUBLE)]) rfl ?_
    show Steps p.tables e below (T14.setTop (mkF m 19 #[.val .null, .val (.ref z_1), .val (.int (8 : Int32)), .val (.int (3 : Int32)), .val (.ref s_SUM_DOUBLE)] [])) _
    refine XS.aload X14.here hx rfl (hb hby d1_19) rfl rfl ?_
    show Steps p.tables e below (T14.setTop (mkF m 21 #[.val .null, .val (.ref z_1), .val (.int (8 : Int32)), .val (.int (3 : Int32)), .val (.ref s_SUM_DOUBLE)] [(.ref s_SUM_DOUBLE)])) _
    exact k
  obtain ⟨cq17, kq17, q17a, q17b, q17c⟩ := isOf hZ eh14 E_s_SUM_DOUBLE
  obtain ⟨_, _, ⟨T17, L17, k17, n17⟩, -, X17, sn17, gr17, ⟨Lc17, hQ17, l17, y17, z17, R17⟩, st17⟩ := X14.virtualBackS hx (y := (⟨"com/example/querent/querent/translation/Aggregation", "operation", "()Ljava/lang/String;"⟩ : MethodName)) (z := (⟨"com/example/querent/querent/translation/Aggregation", "operation", "()Ljava/lang/String;"⟩ : MethodName)) hown (mvT hZ (hw _ (List.mem_of_getElem? (i := 70) rfl))) (mvT hZ (hw _ (List.mem_of_getElem? (i := 71) rfl))) (notFace_of_selects (args := #[]) (mvT hZ (hw _ (List.mem_of_getElem? (i := 73) rfl)))) (mvT hZ (hw _ (List.mem_of_getElem? (i := 73) rfl))) (mvT hZ (hw _ (List.mem_of_getElem? (i := 72) rfl))) (by decide) (backOfSH (W := 0) (rm3_3 l Z a0 hw [] s_SUM_DOUBLE T13.heap n0 O E_s_SUM_DOUBLE F_ordinal_s_SUM_DOUBLE) hZ (hw _ (List.mem_of_getElem? (i := 74) rfl)) (hw _ (List.mem_of_getElem? (i := 35) rfl)) (by decide) (by decide) hEL C.1) q17a q17c (g := (mkF m 21 #[.val .null, .val (.ref z_1), .val (.int (8 : Int32)), .val (.int (3 : Int32)), .val (.ref s_SUM_DOUBLE)] [(.ref s_SUM_DOUBLE)])) rfl (by rw [hml]; rfl) (Steps.refl _) (argsL := []) (rest := []) (lenOf pd__40_41Ljava_47lang_47String_59 rfl) rfl (by show 2 * 0 + _ ≤ _; exact Nat.le_of_eq rfl) (hb hby d1_21) (fun _ _ => ⟨rfl, eh14, (by decide : 7 + 2 ≤ _), (by decide : 108 + 40 ≤ _)⟩)
  dsimp only [Pt.U, Pt.locs, Pt.cells, Pt.slots] at X17 l17 y17 z17 st17 hQ17 sn17 gr17 R17
  have X17 := own_un X17 l17 y17 z17
  obtain ⟨X17, hS, hZ, hown⟩ := rebS hS (by rw [eh14]; exact hk) X17 sn17 gr17 hZ hown
  obtain ⟨z_17, t1_17, kb_17, rfl, N17q, K17, E_z_c17, F_c_z_c17, F_v_z_c17, V_t_c17⟩ := hQ17
  have N17 := Fr.app N14 N17q
  have R := R17
  have C := C.trans R
  have hk : T17.heap.size ≤ T17.heap.size := Nat.le_refl _
  have V_z_c1 := V_z_c1.keep K17 nin0
  have E_s_SUM_DOUBLE := E_s_SUM_DOUBLE.keep K17
  have F_ordinal_s_SUM_DOUBLE := F_ordinal_s_SUM_DOUBLE.keep K17 nin0
  have O := O.keep K17 all0
  have K := K.trans K17 all0
  obtain ⟨cq18, kq18, q18a, q18b, q18c⟩ := isOf hZ rfl E_z_c17
  obtain ⟨_, _, ⟨T18, L18, k18, n18⟩, -, X18, ⟨Lc18, hQ18, l18, y18, z18⟩, st18⟩ := X17.virtualBack hx (y := (⟨"java/lang/String", "equals", "(Ljava/lang/Object;)Z"⟩ : MethodName)) (z := (⟨"java/lang/String", "equals", "(Ljava/lang/Object;)Z"⟩ : MethodName)) hown (mvT hZ (hw _ (List.mem_of_getElem? (i := 85) rfl))) (mvT hZ (hw _ (List.mem_of_getElem? (i := 86) rfl))) (notFace_of_selects (args := #[]) (mvT hZ (hw _ (List.mem_of_getElem? (i := 88) rfl)))) (mvT hZ (hw _ (List.mem_of_getElem? (i := 88) rfl))) (mvT hZ (hw _ (List.mem_of_getElem? (i := 87) rfl))) (by decide) (backOf (W := 0) (rm5_n l Z a0 hw [] z_17 T17.heap n0 O ) hZ (hw _ (List.mem_of_getElem? (i := 89) rfl)) (hw _ (List.mem_of_getElem? (i := 3) rfl)) (by decide) (by decide)) q18a q18c (g := (mkF m 25 #[.val .null, .val (.ref z_1), .val (.int (8 : Int32)), .val (.int (3 : Int32)), .val (.ref s_SUM_DOUBLE)] [.null, (.ref z_17)])) rfl (by rw [hml]; rfl) (Steps.refl _) (argsL := [.null]) (rest := []) (lenOf pd__40Ljava_47lang_47Object_59_41Z rfl) rfl (by show 2 * 0 + _ ≤ _; exact Nat.le_of_eq rfl) (hb hby d1_25) (fun _ _ => ⟨rfl, rfl, (by decide : 9 + 0 ≤ _), (by decide : 148 + 0 ≤ _)⟩)
  dsimp only [Pt.U, Pt.locs, Pt.cells, Pt.slots] at X18 l18 y18 z18 st18 hQ18
  have X18 := own_un X18 l18 y18 z18
  obtain ⟨rfl, N18q, eh18⟩ := hQ18
  have N18 := Fr.app N17 N18q
  obtain ⟨cl19, Ar19, q19, Z19, N19, H19, G19⟩ := id V_z_c1
  have hin19 : ¬ ((4 : Int32) < 0 ∨ cl19.slots.size ≤ ((4 : Int32)).toNatClampNeg) := inb_of Z19 ⟨by decide, by decide⟩
  have hat19 : cl19.slots[((4 : Int32)).toNatClampNeg]? = some (.ref s_SUM_BIG_DECIMAL) := H19.at hin19 rfl
  have E_s_SUM_BIG_DECIMAL := o_E_s_SUM_BIG_DECIMAL.ext O.2
  have F_ordinal_s_SUM_BIG_DECIMAL := o_F_ordinal_s_SUM_BIG_DECIMAL.ext O.2
  have w20 : ∀ t, Steps p.tables e below (T18.setTop (mkF m 21 #[.val .null, .val (.ref z_1), .val (.int (8 : Int32)), .val (.int (4 : Int32)), .val (.ref s_SUM_BIG_DECIMAL)] [(.ref s_SUM_BIG_DECIMAL)])) t → Steps p.tables e below (s₁.setTop (entryFrame m #[.null] 5)) t := fun t k => by
    refine w16 t ?_
    refine st17.trans ?_
    show Steps p.tables e below (T17.setTop (mkF m 24 #[.val .null, .val (.ref z_1), .val (.int (8 : Int32)), .val (.int (3 : Int32)), .val (.ref s_SUM_DOUBLE)] [(.ref z_17)])) _
    refine XS.aloadN X17.here hx rfl (hb hby d1_24) rfl rfl ?_
    show Steps p.tables e below (T17.setTop (mkF m 25 #[.val .null, .val (.ref z_1), .val (.int (8 : Int32)), .val (.int (3 : Int32)), .val (.ref s_SUM_DOUBLE)] [.null, (.ref z_17)])) _
    refine st18.trans ?_
    show Steps p.tables e below (T18.setTop (mkF m 28 #[.val .null, .val (.ref z_1), .val (.int (8 : Int32)), .val (.int (3 : Int32)), .val (.ref s_SUM_DOUBLE)] [(.int (0 : Int32))])) _
    refine XS.ifYes X18.here hx rfl (pc0 := 28) (pc' := 37) rfl (hb hby d1_28) rfl ((if0 _ _).trans (teq (rfl : (0 : Int32) = (0 : Int32))).1) (by decide) (by decide) ?_
    show Steps p.tables e below (T18.setTop (mkF m 37 #[.val .null, .val (.ref z_1), .val (.int (8 : Int32)), .val (.int (3 : Int32)), .val (.ref s_SUM_DOUBLE)] [])) _
    refine XS.iinc X18.here hx rfl (hb hby d1_37) rfl (l' := #[.val .null, .val (.ref z_1), .val (.int (8 : Int32)), .val (.int (4 : Int32)), .val (.ref s_SUM_DOUBLE)]) rfl ?_
    show Steps p.tables e below (T18.setTop (mkF m 40 #[.val .null, .val (.ref z_1), .val (.int (8 : Int32)), .val (.int (4 : Int32)), .val (.ref s_SUM_DOUBLE)] [])) _
    refine XS.goto X18.here hx rfl (pc0 := 40) (pc' := 9) rfl (hb hby d1_40) (by decide) (by decide) ?_
    show Steps p.tables e below (T18.setTop (mkF m 9 #[.val .null, .val (.ref z_1), .val (.int (8 : Int32)), .val (.int (4 : Int32)), .val (.ref s_SUM_DOUBLE)] [])) _
    refine XS.iloadN X18.here hx rfl (hb hby d1_9) rfl ?_
    show Steps p.tables e below (T18.setTop (mkF m 10 #[.val .null, .val (.ref z_1), .val (.int (8 : Int32)), .val (.int (4 : Int32)), .val (.ref s_SUM_DOUBLE)] [(.int (4 : Int32))])) _
    refine XS.iloadN X18.here hx rfl (hb hby d1_10) rfl ?_
    show Steps p.tables e below (T18.setTop (mkF m 11 #[.val .null, .val (.ref z_1), .val (.int (8 : Int32)), .val (.int (4 : Int32)), .val (.ref s_SUM_DOUBLE)] [(.int (8 : Int32)), (.int (4 : Int32))])) _
    refine XS.icmpNo X18.here hx rfl (hb hby d1_11) rfl (tlt ((by decide) : (4 : Int32) < (8 : Int32))).2.1 ?_
    show Steps p.tables e below (T18.setTop (mkF m 14 #[.val .null, .val (.ref z_1), .val (.int (8 : Int32)), .val (.int (4 : Int32)), .val (.ref s_SUM_DOUBLE)] [])) _
    refine XS.aloadN X18.here hx rfl (hb hby d1_14) rfl rfl ?_
    show Steps p.tables e below (T18.setTop (mkF m 15 #[.val .null, .val (.ref z_1), .val (.int (8 : Int32)), .val (.int (4 : Int32)), .val (.ref s_SUM_DOUBLE)] [(.ref z_1)])) _
    refine XS.iloadN X18.here hx rfl (hb hby d1_15) rfl ?_
    show Steps p.tables e below (T18.setTop (mkF m 16 #[.val .null, .val (.ref z_1), .val (.int (8 : Int32)), .val (.int (4 : Int32)), .val (.ref s_SUM_DOUBLE)] [(.int (4 : Int32)), (.ref z_1)])) _
    refine X18.aaload hx (j := (4 : Int32)) (v := (.ref s_SUM_BIG_DECIMAL)) (by rw [eh18]; exact Ar19.1) (State.isArrayOf_alike hZ.alike Ar19.2.1) rfl Ar19.2.2 hin19 hat19 (g := (mkF m 16 #[.val .null, .val (.ref z_1), .val (.int (8 : Int32)), .val (.int (4 : Int32)), .val (.ref s_SUM_DOUBLE)] [(.int (4 : Int32)), (.ref z_1)])) rfl rfl (hb hby d1_16) _ ?_
    show Steps p.tables e below (T18.setTop (mkF m 17 #[.val .null, .val (.ref z_1), .val (.int (8 : Int32)), .val (.int (4 : Int32)), .val (.ref s_SUM_DOUBLE)] [(.ref s_SUM_BIG_DECIMAL)])) _
    refine XS.astore X18.here hx rfl (hb hby d1_17) rfl rfl (l' := #[.val .null, .val (.ref z_1), .val (.int (8 : Int32)), .val (.int (4 : Int32)), .val (.ref s_SUM_BIG_DECIMAL)]) rfl ?_
    show Steps p.tables e below (T18.setTop (mkF m 19 #[.val .null, .val (.ref z_1), .val (.int (8 : Int32)), .val (.int (4 : Int32)), .val (.ref s_SUM_BIG_DECIMAL)] [])) _
    refine XS.aload X18.here hx rfl (hb hby d1_19) rfl rfl ?_
    show Steps p.tables e below (T18.setTop (mkF m 21 #[.val .null, .val (.ref z_1), .val (.int (8 : Int32)), .val (.int (4 : Int32)), .val (.ref s_SUM_BIG_DECIMAL)] [(.ref s_SUM_BIG_DECIMAL)])) _
    exact k
  obtain ⟨cq21, kq21, q21a, q21b, q21c⟩ := isOf hZ eh18 E_s_SUM_BIG_DECIMAL
  obtain ⟨_, _, ⟨T21, L21, k21, n21⟩, -, X21, sn21, gr21, ⟨Lc21, hQ21, l21, y21, z21, R21⟩, st21⟩ := X18.virtualBackS hx (y := (⟨"com/example/querent/querent/translation/Aggregation", "operation", "()Ljava/lang/String;"⟩ : MethodName)) (z := (⟨"com/example/querent/querent/translation/Aggregation", "operation", "()Ljava/lang/String;"⟩ : MethodName)) hown (mvT hZ (hw _ (List.mem_of_getElem? (i := 70) rfl))) (mvT hZ (hw _ (List.mem_of_getElem? (i := 71) rfl))) (notFace_of_selects (args := #[]) (mvT hZ (hw _ (List.mem_of_getElem? (i := 73) rfl)))) (mvT hZ (hw _ (List.mem_of_getElem? (i := 73) rfl))) (mvT hZ (hw _ (List.mem_of_getElem? (i := 72) rfl))) (by decide) (backOfSH (W := 0) (rm3_4 l Z a0 hw [] s_SUM_BIG_DECIMAL T17.heap n0 O E_s_SUM_BIG_DECIMAL F_ordinal_s_SUM_BIG_DECIMAL) hZ (hw _ (List.mem_of_getElem? (i := 74) rfl)) (hw _ (List.mem_of_getElem? (i := 35) rfl)) (by decide) (by decide) hEL C.1) q21a q21c (g := (mkF m 21 #[.val .null, .val (.ref z_1), .val (.int (8 : Int32)), .val (.int (4 : Int32)), .val (.ref s_SUM_BIG_DECIMAL)] [(.ref s_SUM_BIG_DECIMAL)])) rfl (by rw [hml]; rfl) (Steps.refl _) (argsL := []) (rest := []) (lenOf pd__40_41Ljava_47lang_47String_59 rfl) rfl (by show 2 * 0 + _ ≤ _; exact Nat.le_of_eq rfl) (hb hby d1_21) (fun _ _ => ⟨rfl, eh18, (by decide : 9 + 2 ≤ _), (by decide : 148 + 56 ≤ _)⟩)
  dsimp only [Pt.U, Pt.locs, Pt.cells, Pt.slots] at X21 l21 y21 z21 st21 hQ21 sn21 gr21 R21
  have X21 := own_un X21 l21 y21 z21
  obtain ⟨X21, hS, hZ, hown⟩ := rebS hS (by rw [eh18]; exact hk) X21 sn21 gr21 hZ hown
  obtain ⟨z_21, t1_21, kb_21, rfl, N21q, K21, E_z_c21, F_c_z_c21, F_v_z_c21, V_t_c21⟩ := hQ21
  have N21 := Fr.app N18 N21q
  have R := R21
  have C := C.trans R
  have hk : T21.heap.size ≤ T21.heap.size := Nat.le_refl _
  have V_z_c1 := V_z_c1.keep K21 nin0
  have E_s_SUM_BIG_DECIMAL := E_s_SUM_BIG_DECIMAL.keep K21
  have F_ordinal_s_SUM_BIG_DECIMAL := F_ordinal_s_SUM_BIG_DECIMAL.keep K21 nin0
  have O := O.keep K21 all0
  have K := K.trans K21 all0
  obtain ⟨cq22, kq22, q22a, q22b, q22c⟩ := isOf hZ rfl E_z_c21
  obtain ⟨_, _, ⟨T22, L22, k22, n22⟩, -, X22, ⟨Lc22, hQ22, l22, y22, z22⟩, st22⟩ := X21.virtualBack hx (y := (⟨"java/lang/String", "equals", "(Ljava/lang/Object;)Z"⟩ : MethodName)) (z := (⟨"java/lang/String", "equals", "(Ljava/lang/Object;)Z"⟩ : MethodName)) hown (mvT hZ (hw _ (List.mem_of_getElem? (i := 85) rfl))) (mvT hZ (hw _ (List.mem_of_getElem? (i := 86) rfl))) (notFace_of_selects (args := #[]) (mvT hZ (hw _ (List.mem_of_getElem? (i := 88) rfl)))) (mvT hZ (hw _ (List.mem_of_getElem? (i := 88) rfl))) (mvT hZ (hw _ (List.mem_of_getElem? (i := 87) rfl))) (by decide) (backOf (W := 0) (rm5_n l Z a0 hw [] z_21 T21.heap n0 O ) hZ (hw _ (List.mem_of_getElem? (i := 89) rfl)) (hw _ (List.mem_of_getElem? (i := 3) rfl)) (by decide) (by decide)) q22a q22c (g := (mkF m 25 #[.val .null, .val (.ref z_1), .val (.int (8 : Int32)), .val (.int (4 : Int32)), .val (.ref s_SUM_BIG_DECIMAL)] [.null, (.ref z_21)])) rfl (by rw [hml]; rfl) (Steps.refl _) (argsL := [.null]) (rest := []) (lenOf pd__40Ljava_47lang_47Object_59_41Z rfl) rfl (by show 2 * 0 + _ ≤ _; exact Nat.le_of_eq rfl) (hb hby d1_25) (fun _ _ => ⟨rfl, rfl, (by decide : 11 + 0 ≤ _), (by decide : 204 + 0 ≤ _)⟩)
  dsimp only [Pt.U, Pt.locs, Pt.cells, Pt.slots] at X22 l22 y22 z22 st22 hQ22
  have X22 := own_un X22 l22 y22 z22
  obtain ⟨rfl, N22q, eh22⟩ := hQ22
  have N22 := Fr.app N21 N22q
  obtain ⟨cl23, Ar23, q23, Z23, N23, H23, G23⟩ := id V_z_c1
  have hin23 : ¬ ((5 : Int32) < 0 ∨ cl23.slots.size ≤ ((5 : Int32)).toNatClampNeg) := inb_of Z23 ⟨by decide, by decide⟩
  have hat23 : cl23.slots[((5 : Int32)).toNatClampNeg]? = some (.ref s_MIN) := H23.at hin23 rfl
  have E_s_MIN := o_E_s_MIN.ext O.2
  have F_ordinal_s_MIN := o_F_ordinal_s_MIN.ext O.2
  have w24 : ∀ t, Steps p.tables e below (T22.setTop (mkF m 21 #[.val .null, .val (.ref z_1), .val (.int (8 : Int32)), .val (.int (5 : Int32)), .val (.ref s_MIN)] [(.ref s_MIN)])) t → Steps p.tables e below (s₁.setTop (entryFrame m #[.null] 5)) t := fun t k => by
    refine w20 t ?_
    refine st21.trans ?_
    show Steps p.tables e below (T21.setTop (mkF m 24 #[.val .null, .val (.ref z_1), .val (.int (8 : Int32)), .val (.int (4 : Int32)), .val (.ref s_SUM_BIG_DECIMAL)] [(.ref z_21)])) _
    refine XS.aloadN X21.here hx rfl (hb hby d1_24) rfl rfl ?_
    show Steps p.tables e below (T21.setTop (mkF m 25 #[.val .null, .val (.ref z_1), .val (.int (8 : Int32)), .val (.int (4 : Int32)), .val (.ref s_SUM_BIG_DECIMAL)] [.null, (.ref z_21)])) _
    refine st22.trans ?_
    show Steps p.tables e below (T22.setTop (mkF m 28 #[.val .null, .val (.ref z_1), .val (.int (8 : Int32)), .val (.int (4 : Int32)), .val (.ref s_SUM_BIG_DECIMAL)] [(.int (0 : Int32))])) _
    refine XS.ifYes X22.here hx rfl (pc0 := 28) (pc' := 37) rfl (hb hby d1_28) rfl ((if0 _ _).trans (teq (rfl : (0 : Int32) = (0 : Int32))).1) (by decide) (by decide) ?_
    show Steps p.tables e below (T22.setTop (mkF m 37 #[.val .null, .val (.ref z_1), .val (.int (8 : Int32)), .val (.int (4 : Int32)), .val (.ref s_SUM_BIG_DECIMAL)] [])) _
    refine XS.iinc X22.here hx rfl (hb hby d1_37) rfl (l' := #[.val .null, .val (.ref z_1), .val (.int (8 : Int32)), .val (.int (5 : Int32)), .val (.ref s_SUM_BIG_DECIMAL)]) rfl ?_
    show Steps p.tables e below (T22.setTop (mkF m 40 #[.val .null, .val (.ref z_1), .val (.int (8 : Int32)), .val (.int (5 : Int32)), .val (.ref s_SUM_BIG_DECIMAL)] [])) _
    refine XS.goto X22.here hx rfl (pc0 := 40) (pc' := 9) rfl (hb hby d1_40) (by decide) (by decide) ?_
    show Steps p.tables e below (T22.setTop (mkF m 9 #[.val .null, .val (.ref z_1), .val (.int (8 : Int32)), .val (.int (5 : Int32)), .val (.ref s_SUM_BIG_DECIMAL)] [])) _
    refine XS.iloadN X22.here hx rfl (hb hby d1_9) rfl ?_
    show Steps p.tables e below (T22.setTop (mkF m 10 #[.val .null, .val (.ref z_1), .val (.int (8 : Int32)), .val (.int (5 : Int32)), .val (.ref s_SUM_BIG_DECIMAL)] [(.int (5 : Int32))])) _
    refine XS.iloadN X22.here hx rfl (hb hby d1_10) rfl ?_
    show Steps p.tables e below (T22.setTop (mkF m 11 #[.val .null, .val (.ref z_1), .val (.int (8 : Int32)), .val (.int (5 : Int32)), .val (.ref s_SUM_BIG_DECIMAL)] [(.int (8 : Int32)), (.int (5 : Int32))])) _
    refine XS.icmpNo X22.here hx rfl (hb hby d1_11) rfl (tlt ((by decide) : (5 : Int32) < (8 : Int32))).2.1 ?_
    show Steps p.tables e below (T22.setTop (mkF m 14 #[.val .null, .val (.ref z_1), .val (.int (8 : Int32)), .val (.int (5 : Int32)), .val (.ref s_SUM_BIG_DECIMAL)] [])) _
    refine XS.aloadN X22.here hx rfl (hb hby d1_14) rfl rfl ?_
    show Steps p.tables e below (T22.setTop (mkF m 15 #[.val .null, .val (.ref z_1), .val (.int (8 : Int32)), .val (.int (5 : Int32)), .val (.ref s_SUM_BIG_DECIMAL)] [(.ref z_1)])) _
    refine XS.iloadN X22.here hx rfl (hb hby d1_15) rfl ?_
    show Steps p.tables e below (T22.setTop (mkF m 16 #[.val .null, .val (.ref z_1), .val (.int (8 : Int32)), .val (.int (5 : Int32)), .val (.ref s_SUM_BIG_DECIMAL)] [(.int (5 : Int32)), (.ref z_1)])) _
    refine X22.aaload hx (j := (5 : Int32)) (v := (.ref s_MIN)) (by rw [eh22]; exact Ar23.1) (State.isArrayOf_alike hZ.alike Ar23.2.1) rfl Ar23.2.2 hin23 hat23 (g := (mkF m 16 #[.val .null, .val (.ref z_1), .val (.int (8 : Int32)), .val (.int (5 : Int32)), .val (.ref s_SUM_BIG_DECIMAL)] [(.int (5 : Int32)), (.ref z_1)])) rfl rfl (hb hby d1_16) _ ?_
    show Steps p.tables e below (T22.setTop (mkF m 17 #[.val .null, .val (.ref z_1), .val (.int (8 : Int32)), .val (.int (5 : Int32)), .val (.ref s_SUM_BIG_DECIMAL)] [(.ref s_MIN)])) _
    refine XS.astore X22.here hx rfl (hb hby d1_17) rfl rfl (l' := #[.val .null, .val (.ref z_1), .val (.int (8 : Int32)), .val (.int (5 : Int32)), .val (.ref s_MIN)]) rfl ?_
    show Steps p.tables e below (T22.setTop (mkF m 19 #[.val .null, .val (.ref z_1), .val (.int (8 : Int32)), .val (.int (5 : Int32)), .val (.ref s_MIN)] [])) _
    refine XS.aload X22.here hx rfl (hb hby d1_19) rfl rfl ?_
    show Steps p.tables e below (T22.setTop (mkF m 21 #[.val .null, .val (.ref z_1), .val (.int (8 : Int32)), .val (.int (5 : Int32)), .val (.ref s_MIN)] [(.ref s_MIN)])) _
    exact k
  obtain ⟨cq25, kq25, q25a, q25b, q25c⟩ := isOf hZ eh22 E_s_MIN
  obtain ⟨_, _, ⟨T25, L25, k25, n25⟩, -, X25, sn25, gr25, ⟨Lc25, hQ25, l25, y25, z25, R25⟩, st25⟩ := X22.virtualBackS hx (y := (⟨"com/example/querent/querent/translation/Aggregation", "operation", "()Ljava/lang/String;"⟩ : MethodName)) (z := (⟨"com/example/querent/querent/translation/Aggregation", "operation", "()Ljava/lang/String;"⟩ : MethodName)) hown (mvT hZ (hw _ (List.mem_of_getElem? (i := 70) rfl))) (mvT hZ (hw _ (List.mem_of_getElem? (i := 71) rfl))) (notFace_of_selects (args := #[]) (mvT hZ (hw _ (List.mem_of_getElem? (i := 73) rfl)))) (mvT hZ (hw _ (List.mem_of_getElem? (i := 73) rfl))) (mvT hZ (hw _ (List.mem_of_getElem? (i := 72) rfl))) (by decide) (backOfSH (W := 0) (rm3_5 l Z a0 hw [] s_MIN T21.heap n0 O E_s_MIN F_ordinal_s_MIN) hZ (hw _ (List.mem_of_getElem? (i := 74) rfl)) (hw _ (List.mem_of_getElem? (i := 35) rfl)) (by decide) (by decide) hEL C.1) q25a q25c (g := (mkF m 21 #[.val .null, .val (.ref z_1), .val (.int (8 : Int32)), .val (.int (5 : Int32)), .val (.ref s_MIN)] [(.ref s_MIN)])) rfl (by rw [hml]; rfl) (Steps.refl _) (argsL := []) (rest := []) (lenOf pd__40_41Ljava_47lang_47String_59 rfl) rfl (by show 2 * 0 + _ ≤ _; exact Nat.le_of_eq rfl) (hb hby d1_21) (fun _ _ => ⟨rfl, eh22, (by decide : 11 + 2 ≤ _), (by decide : 204 + 16 ≤ _)⟩)
  dsimp only [Pt.U, Pt.locs, Pt.cells, Pt.slots] at X25 l25 y25 z25 st25 hQ25 sn25 gr25 R25
  have X25 := own_un X25 l25 y25 z25
  obtain ⟨X25, hS, hZ, hown⟩ := rebS hS (by rw [eh22]; exact hk) X25 sn25 gr25 hZ hown
  obtain ⟨z_25, t1_25, kb_25, rfl, N25q, K25, E_z_c25, F_c_z_c25, F_v_z_c25, V_t_c25⟩ := hQ25
  have N25 := Fr.app N22 N25q
  have R := R25
  have C := C.trans R
  have hk : T25.heap.size ≤ T25.heap.size := Nat.le_refl _
  have V_z_c1 := V_z_c1.keep K25 nin0
  have E_s_MIN := E_s_MIN.keep K25
  have F_ordinal_s_MIN := F_ordinal_s_MIN.keep K25 nin0
  have O := O.keep K25 all0
  have K := K.trans K25 all0
  obtain ⟨cq26, kq26, q26a, q26b, q26c⟩ := isOf hZ rfl E_z_c25
  obtain ⟨_, _, ⟨T26, L26, k26, n26⟩, -, X26, ⟨Lc26, hQ26, l26, y26, z26⟩, st26⟩ := X25.virtualBack hx (y := (⟨"java/lang/String", "equals", "(Ljava/lang/Object;)Z"⟩ : MethodName)) (z := (⟨"java/lang/String", "equals", "(Ljava/lang/Object;)Z"⟩ : MethodName)) hown (mvT hZ (hw _ (List.mem_of_getElem? (i := 85) rfl))) (mvT hZ (hw _ (List.mem_of_getElem? (i := 86) rfl))) (notFace_of_selects (args := #[]) (mvT hZ (hw _ (List.mem_of_getElem? (i := 88) rfl)))) (mvT hZ (hw _ (List.mem_of_getElem? (i := 88) rfl))) (mvT hZ (hw _ (List.mem_of_getElem? (i := 87) rfl))) (by decide) (backOf (W := 0) (rm5_n l Z a0 hw [] z_25 T25.heap n0 O ) hZ (hw _ (List.mem_of_getElem? (i := 89) rfl)) (hw _ (List.mem_of_getElem? (i := 3) rfl)) (by decide) (by decide)) q26a q26c (g := (mkF m 25 #[.val .null, .val (.ref z_1), .val (.int (8 : Int32)), .val (.int (5 : Int32)), .val (.ref s_MIN)] [.null, (.ref z_25)])) rfl (by rw [hml]; rfl) (Steps.refl _) (argsL := [.null]) (rest := []) (lenOf pd__40Ljava_47lang_47Object_59_41Z rfl) rfl (by show 2 * 0 + _ ≤ _; exact Nat.le_of_eq rfl) (hb hby d1_25) (fun _ _ => ⟨rfl, rfl, (by decide : 13 + 0 ≤ _), (by decide : 220 + 0 ≤ _)⟩)
  dsimp only [Pt.U, Pt.locs, Pt.cells, Pt.slots] at X26 l26 y26 z26 st26 hQ26
  have X26 := own_un X26 l26 y26 z26
  obtain ⟨rfl, N26q, eh26⟩ := hQ26
  have N26 := Fr.app N25 N26q
  obtain ⟨cl27, Ar27, q27, Z27, N27, H27, G27⟩ := id V_z_c1
  have hin27 : ¬ ((6 : Int32) < 0 ∨ cl27.slots.size ≤ ((6 : Int32)).toNatClampNeg) := inb_of Z27 ⟨by decide, by decide⟩
  have hat27 : cl27.slots[((6 : Int32)).toNatClampNeg]? = some (.ref s_MAX) := H27.at hin27 rfl
  have E_s_MAX := o_E_s_MAX.ext O.2
  have F_ordinal_s_MAX := o_F_ordinal_s_MAX.ext O.2
  have w28 : ∀ t, Steps p.tables e below (T26.setTop (mkF m 21 #[.val .null, .val (.ref z_1), .val (.int (8 : Int32)), .val (.int (6 : Int32)), .val (.ref s_MAX)] [(.ref s_MAX)])) t → Steps p.tables e below (s₁.setTop (entryFrame m #[.null] 5)) t := fun t k => by
    refine w24 t ?_
    refine st25.trans ?_
    show Steps p.tables e below (T25.setTop (mkF m 24 #[.val .null, .val (.ref z_1), .val (.int (8 : Int32)), .val (.int (5 : Int32)), .val (.ref s_MIN)] [(.ref z_25)])) _
    refine XS.aloadN X25.here hx rfl (hb hby d1_24) rfl rfl ?_
    show Steps p.tables e below (T25.setTop (mkF m 25 #[.val .null, .val (.ref z_1), .val (.int (8 : Int32)), .val (.int (5 : Int32)), .val (.ref s_MIN)] [.null, (.ref z_25)])) _
    refine st26.trans ?_
    show Steps p.tables e below (T26.setTop (mkF m 28 #[.val .null, .val (.ref z_1), .val (.int (8 : Int32)), .val (.int (5 : Int32)), .val (.ref s_MIN)] [(.int (0 : Int32))])) _
    refine XS.ifYes X26.here hx rfl (pc0 := 28) (pc' := 37) rfl (hb hby d1_28) rfl ((if0 _ _).trans (teq (rfl : (0 : Int32) = (0 : Int32))).1) (by decide) (by decide) ?_
    show Steps p.tables e below (T26.setTop (mkF m 37 #[.val .null, .val (.ref z_1), .val (.int (8 : Int32)), .val (.int (5 : Int32)), .val (.ref s_MIN)] [])) _
    refine XS.iinc X26.here hx rfl (hb hby d1_37) rfl (l' := #[.val .null, .val (.ref z_1), .val (.int (8 : Int32)), .val (.int (6 : Int32)), .val (.ref s_MIN)]) rfl ?_
    show Steps p.tables e below (T26.setTop (mkF m 40 #[.val .null, .val (.ref z_1), .val (.int (8 : Int32)), .val (.int (6 : Int32)), .val (.ref s_MIN)] [])) _
    refine XS.goto X26.here hx rfl (pc0 := 40) (pc' := 9) rfl (hb hby d1_40) (by decide) (by decide) ?_
    show Steps p.tables e below (T26.setTop (mkF m 9 #[.val .null, .val (.ref z_1), .val (.int (8 : Int32)), .val (.int (6 : Int32)), .val (.ref s_MIN)] [])) _
    refine XS.iloadN X26.here hx rfl (hb hby d1_9) rfl ?_
    show Steps p.tables e below (T26.setTop (mkF m 10 #[.val .null, .val (.ref z_1), .val (.int (8 : Int32)), .val (.int (6 : Int32)), .val (.ref s_MIN)] [(.int (6 : Int32))])) _
    refine XS.iloadN X26.here hx rfl (hb hby d1_10) rfl ?_
    show Steps p.tables e below (T26.setTop (mkF m 11 #[.val .null, .val (.ref z_1), .val (.int (8 : Int32)), .val (.int (6 : Int32)), .val (.ref s_MIN)] [(.int (8 : Int32)), (.int (6 : Int32))])) _
    refine XS.icmpNo X26.here hx rfl (hb hby d1_11) rfl (tlt ((by decide) : (6 : Int32) < (8 : Int32))).2.1 ?_
    show Steps p.tables e below (T26.setTop (mkF m 14 #[.val .null, .val (.ref z_1), .val (.int (8 : Int32)), .val (.int (6 : Int32)), .val (.ref s_MIN)] [])) _
    refine XS.aloadN X26.here hx rfl (hb hby d1_14) rfl rfl ?_
    show Steps p.tables e below (T26.setTop (mkF m 15 #[.val .null, .val (.ref z_1), .val (.int (8 : Int32)), .val (.int (6 : Int32)), .val (.ref s_MIN)] [(.ref z_1)])) _
    refine XS.iloadN X26.here hx rfl (hb hby d1_15) rfl ?_
    show Steps p.tables e below (T26.setTop (mkF m 16 #[.val .null, .val (.ref z_1), .val (.int (8 : Int32)), .val (.int (6 : Int32)), .val (.ref s_MIN)] [(.int (6 : Int32)), (.ref z_1)])) _
    refine X26.aaload hx (j := (6 : Int32)) (v := (.ref s_MAX)) (by rw [eh26]; exact Ar27.1) (State.isArrayOf_alike hZ.alike Ar27.2.1) rfl Ar27.2.2 hin27 hat27 (g := (mkF m 16 #[.val .null, .val (.ref z_1), .val (.int (8 : Int32)), .val (.int (6 : Int32)), .val (.ref s_MIN)] [(.int (6 : Int32)), (.ref z_1)])) rfl rfl (hb hby d1_16) _ ?_
    show Steps p.tables e below (T26.setTop (mkF m 17 #[.val .null, .val (.ref z_1), .val (.int (8 : Int32)), .val (.int (6 : Int32)), .val (.ref s_MIN)] [(.ref s_MAX)])) _
    refine XS.astore X26.here hx rfl (hb hby d1_17) rfl rfl (l' := #[.val .null, .val (.ref z_1), .val (.int (8 : Int32)), .val (.int (6 : Int32)), .val (.ref s_MAX)]) rfl ?_
    show Steps p.tables e below (T26.setTop (mkF m 19 #[.val .null, .val (.ref z_1), .val (.int (8 : Int32)), .val (.int (6 : Int32)), .val (.ref s_MAX)] [])) _
    refine XS.aload X26.here hx rfl (hb hby d1_19) rfl rfl ?_
    show Steps p.tables e below (T26.setTop (mkF m 21 #[.val .null, .val (.ref z_1), .val (.int (8 : Int32)), .val (.int (6 : Int32)), .val (.ref s_MAX)] [(.ref s_MAX)])) _
    exact k
  obtain ⟨cq29, kq29, q29a, q29b, q29c⟩ := isOf hZ eh26 E_s_MAX
  obtain ⟨_, _, ⟨T29, L29, k29, n29⟩, -, X29, sn29, gr29, ⟨Lc29, hQ29, l29, y29, z29, R29⟩, st29⟩ := X26.virtualBackS hx (y := (⟨"com/example/querent/querent/translation/Aggregation", "operation", "()Ljava/lang/String;"⟩ : MethodName)) (z := (⟨"com/example/querent/querent/translation/Aggregation", "operation", "()Ljava/lang/String;"⟩ : MethodName)) hown (mvT hZ (hw _ (List.mem_of_getElem? (i := 70) rfl))) (mvT hZ (hw _ (List.mem_of_getElem? (i := 71) rfl))) (notFace_of_selects (args := #[]) (mvT hZ (hw _ (List.mem_of_getElem? (i := 73) rfl)))) (mvT hZ (hw _ (List.mem_of_getElem? (i := 73) rfl))) (mvT hZ (hw _ (List.mem_of_getElem? (i := 72) rfl))) (by decide) (backOfSH (W := 0) (rm3_6 l Z a0 hw [] s_MAX T25.heap n0 O E_s_MAX F_ordinal_s_MAX) hZ (hw _ (List.mem_of_getElem? (i := 74) rfl)) (hw _ (List.mem_of_getElem? (i := 35) rfl)) (by decide) (by decide) hEL C.1) q29a q29c (g := (mkF m 21 #[.val .null, .val (.ref z_1), .val (.int (8 : Int32)), .val (.int (6 : Int32)), .val (.ref s_MAX)] [(.ref s_MAX)])) rfl (by rw [hml]; rfl) (Steps.refl _) (argsL := []) (rest := []) (lenOf pd__40_41Ljava_47lang_47String_59 rfl) rfl (by show 2 * 0 + _ ≤ _; exact Nat.le_of_eq rfl) (hb hby d1_21) (fun _ _ => ⟨rfl, eh26, (by decide : 13 + 2 ≤ _), (by decide : 220 + 16 ≤ _)⟩)
  dsimp only [Pt.U, Pt.locs, Pt.cells, Pt.slots] at X29 l29 y29 z29 st29 hQ29 sn29 gr29 R29
  have X29 := own_un X29 l29 y29 z29
  obtain ⟨X29, hS, hZ, hown⟩ := rebS hS (by rw [eh26]; exact hk) X29 sn29 gr29 hZ hown
  obtain ⟨z_29, t1_29, kb_29, rfl, N29q, K29, E_z_c29, F_c_z_c29, F_v_z_c29, V_t_c29⟩ := hQ29
  have N29 := Fr.app N26 N29q
  have R := R29
  have C := C.trans R
  have hk : T29.heap.size ≤ T29.heap.size := Nat.le_refl _
  have V_z_c1 := V_z_c1.keep K29 nin0
  have E_s_MAX := E_s_MAX.keep K29
  have F_ordinal_s_MAX := F_ordinal_s_MAX.keep K29 nin0
  have O := O.keep K29 all0
  have K := K.trans K29 all0
  obtain ⟨cq30, kq30, q30a, q30b, q30c⟩ := isOf hZ rfl E_z_c29
  obtain ⟨_, _, ⟨T30, L30, k30, n30⟩, -, X30, ⟨Lc30, hQ30, l30, y30, z30⟩, st30⟩ := X29.virtualBack hx (y := (⟨"java/lang/String", "equals", "(Ljava/lang/Object;)Z"⟩ : MethodName)) (z := (⟨"java/lang/String", "equals", "(Ljava/lang/Object;)Z"⟩ : MethodName)) hown (mvT hZ (hw _ (List.mem_of_getElem? (i := 85) rfl))) (mvT hZ (hw _ (List.mem_of_getElem? (i := 86) rfl))) (notFace_of_selects (args := #[]) (mvT hZ (hw _ (List.mem_of_getElem? (i := 88) rfl)))) (mvT hZ (hw _ (List.mem_of_getElem? (i := 88) rfl))) (mvT hZ (hw _ (List.mem_of_getElem? (i := 87) rfl))) (by decide) (backOf (W := 0) (rm5_n l Z a0 hw [] z_29 T29.heap n0 O ) hZ (hw _ (List.mem_of_getElem? (i := 89) rfl)) (hw _ (List.mem_of_getElem? (i := 3) rfl)) (by decide) (by decide)) q30a q30c (g := (mkF m 25 #[.val .null, .val (.ref z_1), .val (.int (8 : Int32)), .val (.int (6 : Int32)), .val (.ref s_MAX)] [.null, (.ref z_29)])) rfl (by rw [hml]; rfl) (Steps.refl _) (argsL := [.null]) (rest := []) (lenOf pd__40Ljava_47lang_47Object_59_41Z rfl) rfl (by show 2 * 0 + _ ≤ _; exact Nat.le_of_eq rfl) (hb hby d1_25) (fun _ _ => ⟨rfl, rfl, (by decide : 15 + 0 ≤ _), (by decide : 236 + 0 ≤ _)⟩)
  dsimp only [Pt.U, Pt.locs, Pt.cells, Pt.slots] at X30 l30 y30 z30 st30 hQ30
  have X30 := own_un X30 l30 y30 z30
  obtain ⟨rfl, N30q, eh30⟩ := hQ30
  have N30 := Fr.app N29 N30q
  obtain ⟨cl31, Ar31, q31, Z31, N31, H31, G31⟩ := id V_z_c1
  have hin31 : ¬ ((7 : Int32) < 0 ∨ cl31.slots.size ≤ ((7 : Int32)).toNatClampNeg) := inb_of Z31 ⟨by decide, by decide⟩
  have hat31 : cl31.slots[((7 : Int32)).toNatClampNeg]? = some (.ref s_AVG) := H31.at hin31 rfl
  have E_s_AVG := o_E_s_AVG.ext O.2
  have F_ordinal_s_AVG := o_F_ordinal_s_AVG.ext O.2
  have w32 : ∀ t, Steps p.tables e below (T30.setTop (mkF m 21 #[.val .null, .val (.ref z_1), .val (.int (8 : Int32)), .val (.int (7 : Int32)), .val (.ref s_AVG)] [(.ref s_AVG)])) t → Steps p.tables e below (s₁.setTop (entryFrame m #[.null] 5)) t := fun t k => by
    refine w28 t ?_
    refine st29.trans ?_
    show Steps p.tables e below (T29.setTop (mkF m 24 #[.val .null, .val (.ref z_1), .val (.int (8 : Int32)), .val (.int (6 : Int32)), .val (.ref s_MAX)] [(.ref z_29)])) _
    refine XS.aloadN X29.here hx rfl (hb hby d1_24) rfl rfl ?_
    show Steps p.tables e below (T29.setTop (mkF m 25 #[.val .null, .val (.ref z_1), .val (.int (8 : Int32)), .val (.int (6 : Int32)), .val (.ref s_MAX)] [.null, (.ref z_29)])) _
    refine st30.trans ?_
    show Steps p.tables e below (T30.setTop (mkF m 28 #[.val .null, .val (.ref z_1), .val (.int (8 : Int32)), .val (.int (6 : Int32)), .val (.ref s_MAX)] [(.int (0 : Int32))])) _
    refine XS.ifYes X30.here hx rfl (pc0 := 28) (pc' := 37) rfl (hb hby d1_28) rfl ((if0 _ _).trans (teq (rfl : (0 : Int32) = (0 : Int32))).1) (by decide) (by decide) ?_
    show Steps p.tables e below (T30.setTop (mkF m 37 #[.val .null, .val (.ref z_1), .val (.int (8 : Int32)), .val (.int (6 : Int32)), .val (.ref s_MAX)] [])) _
    refine XS.iinc X30.here hx rfl (hb hby d1_37) rfl (l' := #[.val .null, .val (.ref z_1), .val (.int (8 : Int32)), .val (.int (7 : Int32)), .val (.ref s_MAX)]) rfl ?_
    show Steps p.tables e below (T30.setTop (mkF m 40 #[.val .null, .val (.ref z_1), .val (.int (8 : Int32)), .val (.int (7 : Int32)), .val (.ref s_MAX)] [])) _
    refine XS.goto X30.here hx rfl (pc0 := 40) (pc' := 9) rfl (hb hby d1_40) (by decide) (by decide) ?_
    show Steps p.tables e below (T30.setTop (mkF m 9 #[.val .null, .val (.ref z_1), .val (.int (8 : Int32)), .val (.int (7 : Int32)), .val (.ref s_MAX)] [])) _
    refine XS.iloadN X30.here hx rfl (hb hby d1_9) rfl ?_
    show Steps p.tables e below (T30.setTop (mkF m 10 #[.val .null, .val (.ref z_1), .val (.int (8 : Int32)), .val (.int (7 : Int32)), .val (.ref s_MAX)] [(.int (7 : Int32))])) _
    refine XS.iloadN X30.here hx rfl (hb hby d1_10) rfl ?_
    show Steps p.tables e below (T30.setTop (mkF m 11 #[.val .null, .val (.ref z_1), .val (.int (8 : Int32)), .val (.int (7 : Int32)), .val (.ref s_MAX)] [(.int (8 : Int32)), (.int (7 : Int32))])) _
    refine XS.icmpNo X30.here hx rfl (hb hby d1_11) rfl (tlt ((by decide) : (7 : Int32) < (8 : Int32))).2.1 ?_
    show Steps p.tables e below (T30.setTop (mkF m 14 #[.val .null, .val (.ref z_1), .val (.int (8 : Int32)), .val (.int (7 : Int32)), .val (.ref s_MAX)] [])) _
    refine XS.aloadN X30.here hx rfl (hb hby d1_14) rfl rfl ?_
    show Steps p.tables e below (T30.setTop (mkF m 15 #[.val .null, .val (.ref z_1), .val (.int (8 : Int32)), .val (.int (7 : Int32)), .val (.ref s_MAX)] [(.ref z_1)])) _
    refine XS.iloadN X30.here hx rfl (hb hby d1_15) rfl ?_
    show Steps p.tables e below (T30.setTop (mkF m 16 #[.val .null, .val (.ref z_1), .val (.int (8 : Int32)), .val (.int (7 : Int32)), .val (.ref s_MAX)] [(.int (7 : Int32)), (.ref z_1)])) _
    refine X30.aaload hx (j := (7 : Int32)) (v := (.ref s_AVG)) (by rw [eh30]; exact Ar31.1) (State.isArrayOf_alike hZ.alike Ar31.2.1) rfl Ar31.2.2 hin31 hat31 (g := (mkF m 16 #[.val .null, .val (.ref z_1), .val (.int (8 : Int32)), .val (.int (7 : Int32)), .val (.ref s_MAX)] [(.int (7 : Int32)), (.ref z_1)])) rfl rfl (hb hby d1_16) _ ?_
    show Steps p.tables e below (T30.setTop (mkF m 17 #[.val .null, .val (.ref z_1), .val (.int (8 : Int32)), .val (.int (7 : Int32)), .val (.ref s_MAX)] [(.ref s_AVG)])) _
    refine XS.astore X30.here hx rfl (hb hby d1_17) rfl rfl (l' := #[.val .null, .val (.ref z_1), .val (.int (8 : Int32)), .val (.int (7 : Int32)), .val (.ref s_AVG)]) rfl ?_
    show Steps p.tables e below (T30.setTop (mkF m 19 #[.val .null, .val (.ref z_1), .val (.int (8 : Int32)), .val (.int (7 : Int32)), .val (.ref s_AVG)] [])) _
    refine XS.aload X30.here hx rfl (hb hby d1_19) rfl rfl ?_
    show Steps p.tables e below (T30.setTop (mkF m 21 #[.val .null, .val (.ref z_1), .val (.int (8 : Int32)), .val (.int (7 : Int32)), .val (.ref s_AVG)] [(.ref s_AVG)])) _
    exact k
  obtain ⟨cq33, kq33, q33a, q33b, q33c⟩ := isOf hZ eh30 E_s_AVG
  obtain ⟨_, _, ⟨T33, L33, k33, n33⟩, -, X33, sn33, gr33, ⟨Lc33, hQ33, l33, y33, z33, R33⟩, st33⟩ := X30.virtualBackS hx (y := (⟨"com/example/querent/querent/translation/Aggregation", "operation", "()Ljava/lang/String;"⟩ : MethodName)) (z := (⟨"com/example/querent/querent/translation/Aggregation", "operation", "()Ljava/lang/String;"⟩ : MethodName)) hown (mvT hZ (hw _ (List.mem_of_getElem? (i := 70) rfl))) (mvT hZ (hw _ (List.mem_of_getElem? (i := 71) rfl))) (notFace_of_selects (args := #[]) (mvT hZ (hw _ (List.mem_of_getElem? (i := 73) rfl)))) (mvT hZ (hw _ (List.mem_of_getElem? (i := 73) rfl))) (mvT hZ (hw _ (List.mem_of_getElem? (i := 72) rfl))) (by decide) (backOfSH (W := 0) (rm3_7 l Z a0 hw [] s_AVG T29.heap n0 O E_s_AVG F_ordinal_s_AVG) hZ (hw _ (List.mem_of_getElem? (i := 74) rfl)) (hw _ (List.mem_of_getElem? (i := 35) rfl)) (by decide) (by decide) hEL C.1) q33a q33c (g := (mkF m 21 #[.val .null, .val (.ref z_1), .val (.int (8 : Int32)), .val (.int (7 : Int32)), .val (.ref s_AVG)] [(.ref s_AVG)])) rfl (by rw [hml]; rfl) (Steps.refl _) (argsL := []) (rest := []) (lenOf pd__40_41Ljava_47lang_47String_59 rfl) rfl (by show 2 * 0 + _ ≤ _; exact Nat.le_of_eq rfl) (hb hby d1_21) (fun _ _ => ⟨rfl, eh30, (by decide : 15 + 2 ≤ _), (by decide : 236 + 16 ≤ _)⟩)
  dsimp only [Pt.U, Pt.locs, Pt.cells, Pt.slots] at X33 l33 y33 z33 st33 hQ33 sn33 gr33 R33
  have X33 := own_un X33 l33 y33 z33
  obtain ⟨X33, hS, hZ, hown⟩ := rebS hS (by rw [eh30]; exact hk) X33 sn33 gr33 hZ hown
  obtain ⟨z_33, t1_33, kb_33, rfl, N33q, K33, E_z_c33, F_c_z_c33, F_v_z_c33, V_t_c33⟩ := hQ33
  have N33 := Fr.app N30 N33q
  have R := R33
  have C := C.trans R
  have hk : T33.heap.size ≤ T33.heap.size := Nat.le_refl _
  have V_z_c1 := V_z_c1.keep K33 nin0
  have E_s_AVG := E_s_AVG.keep K33
  have F_ordinal_s_AVG := F_ordinal_s_AVG.keep K33 nin0
  have O := O.keep K33 all0
  have K := K.trans K33 all0
  obtain ⟨cq34, kq34, q34a, q34b, q34c⟩ := isOf hZ rfl E_z_c33
  obtain ⟨_, _, ⟨T34, L34, k34, n34⟩, -, X34, ⟨Lc34, hQ34, l34, y34, z34⟩, st34⟩ := X33.virtualBack hx (y := (⟨"java/lang/String", "equals", "(Ljava/lang/Object;)Z"⟩ : MethodName)) (z := (⟨"java/lang/String", "equals", "(Ljava/lang/Object;)Z"⟩ : MethodName)) hown (mvT hZ (hw _ (List.mem_of_getElem? (i := 85) rfl))) (mvT hZ (hw _ (List.mem_of_getElem? (i := 86) rfl))) (notFace_of_selects (args := #[]) (mvT hZ (hw _ (List.mem_of_getElem? (i := 88) rfl)))) (mvT hZ (hw _ (List.mem_of_getElem? (i := 88) rfl))) (mvT hZ (hw _ (List.mem_of_getElem? (i := 87) rfl))) (by decide) (backOf (W := 0) (rm5_n l Z a0 hw [] z_33 T33.heap n0 O ) hZ (hw _ (List.mem_of_getElem? (i := 89) rfl)) (hw _ (List.mem_of_getElem? (i := 3) rfl)) (by decide) (by decide)) q34a q34c (g := (mkF m 25 #[.val .null, .val (.ref z_1), .val (.int (8 : Int32)), .val (.int (7 : Int32)), .val (.ref s_AVG)] [.null, (.ref z_33)])) rfl (by rw [hml]; rfl) (Steps.refl _) (argsL := [.null]) (rest := []) (lenOf pd__40Ljava_47lang_47Object_59_41Z rfl) rfl (by show 2 * 0 + _ ≤ _; exact Nat.le_of_eq rfl) (hb hby d1_25) (fun _ _ => ⟨rfl, rfl, (by decide : 17 + 0 ≤ _), (by decide : 252 + 0 ≤ _)⟩)
  dsimp only [Pt.U, Pt.locs, Pt.cells, Pt.slots] at X34 l34 y34 z34 st34 hQ34
  have X34 := own_un X34 l34 y34 z34
  obtain ⟨rfl, N34q, eh34⟩ := hQ34
  have N34 := Fr.app N33 N34q
  have E_s_EMPTY := o_E_s_EMPTY.ext O.2
  have F_o_s_EMPTY := o_F_o_s_EMPTY.ext O.2
  obtain ⟨_, _, ⟨T35, L35, k35, n35⟩, -, X35, ⟨Lc35, hQ35, l35, y35, z35⟩, st35⟩ := Jvm.LawKit.callS X34 hx (y := (⟨"java/util/Optional", "empty", "()Ljava/util/Optional;"⟩ : MethodName)) hown (mvT hZ (hw _ (List.mem_of_getElem? (i := 129) rfl))) (mvT hZ (hw _ (List.mem_of_getElem? (i := 130) rfl))) (mvT hZ (hw _ (List.mem_of_getElem? (i := 92) rfl))) (mvT hZ (hw _ (List.mem_of_getElem? (i := 131) rfl))) (by decide) (backOf (W := 0) (rm12 l Z a0 hw [] s_EMPTY T33.heap n0 O S_s_EMPTY) hZ (hw _ (List.mem_of_getElem? (i := 131) rfl)) (hw _ (List.mem_of_getElem? (i := 92) rfl)) (by decide) (by decide)) (g := (mkF m 43 #[.val .null, .val (.ref z_1), .val (.int (8 : Int32)), .val (.int (8 : Int32)), .val (.ref s_AVG)] [])) rfl (by rw [hml]; rfl) (argsL := []) (rest := []) (lenOf pd__40_41Ljava_47util_47Optional_59 rfl) rfl (by show 2 * 0 + _ ≤ _; exact Nat.le_of_eq rfl) (hb hby d1_43) (fun _ _ => ⟨rfl, eh34, (by decide : 17 + 0 ≤ _), (by decide : 252 + 0 ≤ _)⟩)
  dsimp only [Pt.U, Pt.locs, Pt.cells, Pt.slots] at X35 l35 y35 z35 st35 hQ35
  have X35 := own_un X35 l35 y35 z35
  obtain ⟨rfl, N35q, eh35⟩ := hQ35
  have N35 := Fr.app N34 N35q
  have w36 : ∀ t, Steps p.tables e below (T35.setTop (mkF m 46 #[.val .null, .val (.ref z_1), .val (.int (8 : Int32)), .val (.int (8 : Int32)), .val (.ref s_AVG)] [(.ref s_EMPTY)])) t → Steps p.tables e below (s₁.setTop (entryFrame m #[.null] 5)) t := fun t k => by
    refine w32 t ?_
    refine st33.trans ?_
    show Steps p.tables e below (T33.setTop (mkF m 24 #[.val .null, .val (.ref z_1), .val (.int (8 : Int32)), .val (.int (7 : Int32)), .val (.ref s_AVG)] [(.ref z_33)])) _
    refine XS.aloadN X33.here hx rfl (hb hby d1_24) rfl rfl ?_
    show Steps p.tables e below (T33.setTop (mkF m 25 #[.val .null, .val (.ref z_1), .val (.int (8 : Int32)), .val (.int (7 : Int32)), .val (.ref s_AVG)] [.null, (.ref z_33)])) _
    refine st34.trans ?_
    show Steps p.tables e below (T34.setTop (mkF m 28 #[.val .null, .val (.ref z_1), .val (.int (8 : Int32)), .val (.int (7 : Int32)), .val (.ref s_AVG)] [(.int (0 : Int32))])) _
    refine XS.ifYes X34.here hx rfl (pc0 := 28) (pc' := 37) rfl (hb hby d1_28) rfl ((if0 _ _).trans (teq (rfl : (0 : Int32) = (0 : Int32))).1) (by decide) (by decide) ?_
    show Steps p.tables e below (T34.setTop (mkF m 37 #[.val .null, .val (.ref z_1), .val (.int (8 : Int32)), .val (.int (7 : Int32)), .val (.ref s_AVG)] [])) _
    refine XS.iinc X34.here hx rfl (hb hby d1_37) rfl (l' := #[.val .null, .val (.ref z_1), .val (.int (8 : Int32)), .val (.int (8 : Int32)), .val (.ref s_AVG)]) rfl ?_
    show Steps p.tables e below (T34.setTop (mkF m 40 #[.val .null, .val (.ref z_1), .val (.int (8 : Int32)), .val (.int (8 : Int32)), .val (.ref s_AVG)] [])) _
    refine XS.goto X34.here hx rfl (pc0 := 40) (pc' := 9) rfl (hb hby d1_40) (by decide) (by decide) ?_
    show Steps p.tables e below (T34.setTop (mkF m 9 #[.val .null, .val (.ref z_1), .val (.int (8 : Int32)), .val (.int (8 : Int32)), .val (.ref s_AVG)] [])) _
    refine XS.iloadN X34.here hx rfl (hb hby d1_9) rfl ?_
    show Steps p.tables e below (T34.setTop (mkF m 10 #[.val .null, .val (.ref z_1), .val (.int (8 : Int32)), .val (.int (8 : Int32)), .val (.ref s_AVG)] [(.int (8 : Int32))])) _
    refine XS.iloadN X34.here hx rfl (hb hby d1_10) rfl ?_
    show Steps p.tables e below (T34.setTop (mkF m 11 #[.val .null, .val (.ref z_1), .val (.int (8 : Int32)), .val (.int (8 : Int32)), .val (.ref s_AVG)] [(.int (8 : Int32)), (.int (8 : Int32))])) _
    refine XS.icmpYes X34.here hx rfl (pc0 := 11) (pc' := 43) rfl (hb hby d1_11) rfl (flt ((by decide) : ¬ ((8 : Int32) < (8 : Int32)))).2.1 (by decide) (by decide) ?_
    show Steps p.tables e below (T34.setTop (mkF m 43 #[.val .null, .val (.ref z_1), .val (.int (8 : Int32)), .val (.int (8 : Int32)), .val (.ref s_AVG)] [])) _
    refine st35 _ ?_
    show Steps p.tables e below (T35.setTop (mkF m 46 #[.val .null, .val (.ref z_1), .val (.int (8 : Int32)), .val (.int (8 : Int32)), .val (.ref s_AVG)] [(.ref s_EMPTY)])) _
    exact k
  obtain ⟨fs, hr, hrun, hended, hE⟩ := Stand.leaveW (s := s) (vm₁ := T33.vm) X35 hS (by rw [eh35]; exact hk) (v := some (.ref s_EMPTY)) (fun h => by rw [Bd.returns] at h; cases h)
  refine ⟨_, _, w36 _ ?_, hrun, hended, _, _, rfl, ?_, ?_, own_mono hE (by decide) (by decide)⟩
  · jvm_step X35.here [X35.here.top, hx, (hb hby d1_46), X35.method', Bd.returns, Value.isRef, FieldType.isReference]
    first | (intro acts; rw [hr _ acts rfl rfl rfl]) | rw [hr _ _ rfl rfl rfl]
    exact Steps.refl _
  · show Q1_null Z kv s_VALUES s_COUNT s_SUM_INTEGER s_SUM_LONG s_SUM_DOUBLE s_SUM_BIG_DECIMAL s_MIN s_MAX s_AVG s_EMPTY h0 n0 _ T35.heap _
    rw [eh35]
    exact ⟨s_EMPTY, rfl, N35, K, E_s_EMPTY, F_o_s_EMPTY⟩
  · rw [hh]; show CHr Z consts_1 s.vm h0 T35.vm T35.heap; rw [eh35]; exact C.trans (CHv.at X35 hZ hEL C.1)
theorem d18_0 : decode method_3_code 0 = .ok (.iload_n 0, 1) := by decide +kernel
theorem d18_1 : decode method_3_code 1 = .ok (.bipush 109, 2) := by decide +kernel
theorem d18_3 : decode method_3_code 3 = .ok (.if_icmp .ne 19, 3) := by decide +kernel
theorem d18_6 : decode method_3_code 6 = .ok (.iload_n 1, 1) := by decide +kernel
theorem d18_7 : decode method_3_code 7 = .ok (.bipush 105, 2) := by decide +kernel
theorem d18_9 : decode method_3_code 9 = .ok (.if_icmp .ne 13, 3) := by decide +kernel
theorem d18_12 : decode method_3_code 12 = .ok (.iload_n 2, 1) := by decide +kernel
theorem d18_13 : decode method_3_code 13 = .ok (.bipush 110, 2) := by decide +kernel
theorem d18_15 : decode method_3_code 15 = .ok (.if_icmp .ne 7, 3) := by decide +kernel
theorem d18_18 : decode method_3_code 18 = .ok (.getstatic 69, 3) := by decide +kernel
theorem d18_21 : decode method_3_code 21 = .ok (.areturn, 1) := by decide +kernel
theorem d18_22 : decode method_3_code 22 = .ok (.iload_n 0, 1) := by decide +kernel
theorem d18_23 : decode method_3_code 23 = .ok (.bipush 109, 2) := by decide +kernel
theorem d18_25 : decode method_3_code 25 = .ok (.if_icmp .ne 19, 3) := by decide +kernel
theorem d18_28 : decode method_3_code 28 = .ok (.iload_n 1, 1) := by decide +kernel
theorem d18_29 : decode method_3_code 29 = .ok (.bipush 97, 2) := by decide +kernel
theorem d18_31 : decode method_3_code 31 = .ok (.if_icmp .ne 13, 3) := by decide +kernel
theorem d18_44 : decode method_3_code 44 = .ok (.iload_n 0, 1) := by decide +kernel
theorem d18_45 : decode method_3_code 45 = .ok (.bipush 97, 2) := by decide +kernel
theorem d18_47 : decode method_3_code 47 = .ok (.if_icmp .ne 19, 3) := by decide +kernel
theorem d18_66 : decode method_3_code 66 = .ok (.aconst_null, 1) := by decide +kernel
theorem d18_67 : decode method_3_code 67 = .ok (.areturn, 1) := by decide +kernel
theorem d18_34 : decode method_3_code 34 = .ok (.iload_n 2, 1) := by decide +kernel
theorem d18_35 : decode method_3_code 35 = .ok (.bipush 120, 2) := by decide +kernel
theorem d18_37 : decode method_3_code 37 = .ok (.if_icmp .ne 7, 3) := by decide +kernel
theorem d18_40 : decode method_3_code 40 = .ok (.getstatic 72, 3) := by decide +kernel
theorem d18_43 : decode method_3_code 43 = .ok (.areturn, 1) := by decide +kernel
theorem d18_50 : decode method_3_code 50 = .ok (.iload_n 1, 1) := by decide +kernel
theorem d18_51 : decode method_3_code 51 = .ok (.bipush 118, 2) := by decide +kernel
theorem d18_53 : decode method_3_code 53 = .ok (.if_icmp .ne 13, 3) := by decide +kernel
theorem d18_56 : decode method_3_code 56 = .ok (.iload_n 2, 1) := by decide +kernel
theorem d18_57 : decode method_3_code 57 = .ok (.bipush 103, 2) := by decide +kernel
theorem d18_59 : decode method_3_code 59 = .ok (.if_icmp .ne 7, 3) := by decide +kernel
theorem d18_62 : decode method_3_code 62 = .ok (.getstatic 75, 3) := by decide +kernel
theorem d18_65 : decode method_3_code 65 = .ok (.areturn, 1) := by decide +kernel
theorem pn_com_example_querent_querent_translation_AggregationOfPinLaw : plainName "com/example/querent/querent/translation/AggregationOfPinLaw" = true := by first | (simp [plainName, overriddenIn]; done) | decide +kernel
theorem ef_18 (m : MethodId) (x0 : Int32) (x1 : Int32) (x2 : Int32) : entryFrame m #[(.int x0), (.int x1), (.int x2)] 3 = mkF m 0 #[.val (.int x0), .val (.int x1), .val (.int x2)] [] := by first | (simp [entryFrame, mkF, argsToLocals, Value.category]; done) | rfl
def Q18 (Z : State) (i : Int32) (j : Int32) (q : Int32) (s_MIN : Addr) (s_MAX : Addr) (s_AVG : Addr) (h0 : Heap) (n0 : Nat) (v : Option Value) (h : Heap) (L : List Loc) : Prop := v = some (own_th i j q (.ref s_MIN) (.ref s_MAX) (.ref s_AVG)) ∧ Fr n0 L ∧ h = h0
set_option maxRecDepth 65536 in
set_option maxHeartbeats 40000000 in
theorem rm18 (l : Launch) (Z : State) (a0 : Array Value) (hw : ∀ d ∈ tables_1, d.before a0 Z = true) (ws : List Jvm.Cond) (i : Int32) (j : Int32) (q : Int32) (s_MIN : Addr) (s_MAX : Addr) (s_AVG : Addr) (h0 : Heap) (n0 : Nat) (O0 : Old Z n0 h0) (S_s_MIN : Sta Z Z.heap "com/example/querent/querent/translation/Aggregation" "MIN" "Lcom/example/querent/querent/translation/Aggregation;" (.ref s_MIN)) (S_s_MAX : Sta Z Z.heap "com/example/querent/querent/translation/Aggregation" "MAX" "Lcom/example/querent/querent/translation/Aggregation;" (.ref s_MAX)) (S_s_AVG : Sta Z Z.heap "com/example/querent/querent/translation/Aggregation" "AVG" "Lcom/example/querent/querent/translation/Aggregation;" (.ref s_AVG)) :
    MetFree l (⟨"com/example/querent/querent/translation/AggregationOfPinLaw", "three", "(CCC)Lcom/example/querent/querent/translation/Aggregation;"⟩ : MethodName) (head1 (Jvm.Cond.code (⟨"com/example/querent/querent/translation/AggregationOfPinLaw", "three", "(CCC)Lcom/example/querent/querent/translation/Aggregation;"⟩ : MethodName) method_3_code 3 (some (.object "com/example/querent/querent/translation/Aggregation")) :: ws) ({ frames := 0, cells := 0, slots := 0, locals := 0 } : Room)) (fun aA uU => aA = #[(.int i), (.int j), (.int q)] ∧ Z.Warmed39 uU.vm ∧ uU.heap = h0) (fun _ _ _ _ _ => True) (fun _ uU oO uU' => ∃ vV lL, oO = .returned vV ∧ Q18 Z i j q s_MIN s_MAX s_AVG h0 n0 vV uU'.heap lL ∧ FrameEnd uU oO uU' lL ({ frames := 0, cells := 0, slots := 0, locals := 0 } : Room).cells ({ frames := 0, cells := 0, slots := 0, locals := 0 } : Room).slots) := by
  refine MetFree.of_bodySF (plainFor_of_name pn_com_example_querent_querent_translation_AggregationOfPinLaw) hisR ?_
  intro p e s m args below meth c s₁ Bd hml0 hP hK
  obtain ⟨rfl, hZ, hh⟩ := hP
  have hx := Bd.exec
  have hby := Bd.bytes
  have hml : c.maxLocals = 3 := hml0
  have hown : s.vm.findClass "com/example/querent/querent/translation/AggregationOfPinLaw" = some m.cls := findClass_of_methodNamed Bd.named
  have hnm := (name_of_methodNamed Bd.named Bd.method).1
  have X0 : Stand p l e ({ frames := 0, cells := 0, slots := 0, locals := 0 } : Room) s m #[(.int i), (.int j), (.int q)] below meth c s₁ [] 0 0 := Stand.of_body Bd
  have e0 : s₁.heap = h0 := by rw [← hh, Bd.state]; rfl
  have N0 := Fr.nil n0
  have O := O0
  have pre0 : ∀ t, Steps p.tables e below (s₁.setTop (mkF m 0 #[.val (.int i), .val (.int j), .val (.int q)] [])) t → Steps p.tables e below (s₁.setTop (entryFrame m #[(.int i), (.int j), (.int q)] 3)) t := fun t k => castTop (ef_18 m i j q) k
  have w1 : ∀ t, Steps p.tables e below (s₁.setTop (mkF m 3 #[.val (.int i), .val (.int j), .val (.int q)] [(.int (109 : Int32)), (.int i)])) t → Steps p.tables e below (s₁.setTop (entryFrame m #[(.int i), (.int j), (.int q)] 3)) t := fun t k => by
    refine pre0 t ?_
    refine XS.iloadN X0.here hx rfl (hb hby d18_0) rfl ?_
    show Steps p.tables e below (s₁.setTop (mkF m 1 #[.val (.int i), .val (.int j), .val (.int q)] [(.int i)])) _
    refine XS.bipush X0.here hx rfl (hb hby d18_1) ?_
    show Steps p.tables e below (s₁.setTop (mkF m 3 #[.val (.int i), .val (.int j), .val (.int q)] [(.int (109 : Int32)), (.int i)])) _
    exact k
  by_cases hc3_2 : i = (109 : Int32)
  · have w3 : ∀ t, Steps p.tables e below (s₁.setTop (mkF m 9 #[.val (.int i), .val (.int j), .val (.int q)] [(.int (105 : Int32)), (.int j)])) t → Steps p.tables e below (s₁.setTop (entryFrame m #[(.int i), (.int j), (.int q)] 3)) t := fun t k => by
      refine w1 t ?_
      refine XS.icmpNo X0.here hx rfl (hb hby d18_3) rfl (teq hc3_2).2 ?_
      show Steps p.tables e below (s₁.setTop (mkF m 6 #[.val (.int i), .val (.int j), .val (.int q)] [])) _
      refine XS.iloadN X0.here hx rfl (hb hby d18_6) rfl ?_
      show Steps p.tables e below (s₁.setTop (mkF m 7 #[.val (.int i), .val (.int j), .val (.int q)] [(.int j)])) _
      refine XS.bipush X0.here hx rfl (hb hby d18_7) ?_
      show Steps p.tables e below (s₁.setTop (mkF m 9 #[.val (.int i), .val (.int j), .val (.int q)] [(.int (105 : Int32)), (.int j)])) _
      exact k
    by_cases hc9_4 : j = (105 : Int32)
    · have w5 : ∀ t, Steps p.tables e below (s₁.setTop (mkF m 15 #[.val (.int i), .val (.int j), .val (.int q)] [(.int (110 : Int32)), (.int q)])) t → Steps p.tables e below (s₁.setTop (entryFrame m #[(.int i), (.int j), (.int q)] 3)) t := fun t k => by
        refine w3 t ?_
        refine XS.icmpNo X0.here hx rfl (hb hby d18_9) rfl (teq hc9_4).2 ?_
        show Steps p.tables e below (s₁.setTop (mkF m 12 #[.val (.int i), .val (.int j), .val (.int q)] [])) _
        refine XS.iloadN X0.here hx rfl (hb hby d18_12) rfl ?_
        show Steps p.tables e below (s₁.setTop (mkF m 13 #[.val (.int i), .val (.int j), .val (.int q)] [(.int q)])) _
        refine XS.bipush X0.here hx rfl (hb hby d18_13) ?_
        show Steps p.tables e below (s₁.setTop (mkF m 15 #[.val (.int i), .val (.int j), .val (.int q)] [(.int (110 : Int32)), (.int q)])) _
        exact k
      by_cases hc15_6 : q = (110 : Int32)
      · obtain ⟨T7, X7, e7, st7⟩ := getS2 X0 hx hZ hown (host := "") (Or.inl (hw _ (List.mem_of_getElem? (i := 46) rfl))) Via.refl e0 (S_s_MIN.ext O.2) (g := (mkF m 18 #[.val (.int i), .val (.int j), .val (.int q)] [])) rfl (hb hby d18_18)
        have w8 : ∀ t, Steps p.tables e below (T7.setTop (mkF m 21 #[.val (.int i), .val (.int j), .val (.int q)] [(.ref s_MIN)])) t → Steps p.tables e below (s₁.setTop (entryFrame m #[(.int i), (.int j), (.int q)] 3)) t := fun t k => by
          refine w5 t ?_
          refine XS.icmpNo X0.here hx rfl (hb hby d18_15) rfl (teq hc15_6).2 ?_
          show Steps p.tables e below (s₁.setTop (mkF m 18 #[.val (.int i), .val (.int j), .val (.int q)] [])) _
          refine st7 _ ?_
          show Steps p.tables e below (T7.setTop (mkF m 21 #[.val (.int i), .val (.int j), .val (.int q)] [(.ref s_MIN)])) _
          exact k
        obtain ⟨fs, hr, hrun, hended, hW, hsame⟩ := X7.leave (v := some (.ref s_MIN)) (fun h => by rw [Bd.returns] at h; cases h)
        refine ⟨_, _, w8 _ ?_, hrun, hended, _, _, rfl, ?_, ⟨_, rfl⟩, hW, hsame.mono (by decide) (by decide)⟩
        · jvm_step X7.here [X7.here.top, hx, (hb hby d18_21), X7.method', Bd.returns, Value.isRef, FieldType.isReference]
          first | (intro acts; rw [hr _ acts rfl rfl rfl]) | rw [hr _ _ rfl rfl rfl]
          exact Steps.refl _
        · show Q18 Z i j q s_MIN s_MAX s_AVG h0 n0 _ T7.heap _
          rw [e7]
          exact ⟨(by simp [own_th, hc15_6, hc3_2, hc9_4]), N0, rfl⟩
      · have w9 : ∀ t, Steps p.tables e below (s₁.setTop (mkF m 67 #[.val (.int i), .val (.int j), .val (.int q)] [.null])) t → Steps p.tables e below (s₁.setTop (entryFrame m #[(.int i), (.int j), (.int q)] 3)) t := fun t k => by
          refine w5 t ?_
          refine XS.icmpYes X0.here hx rfl (pc0 := 15) (pc' := 22) rfl (hb hby d18_15) rfl (feq hc15_6).2 (by decide) (by decide) ?_
          show Steps p.tables e below (s₁.setTop (mkF m 22 #[.val (.int i), .val (.int j), .val (.int q)] [])) _
          refine XS.iloadN X0.here hx rfl (hb hby d18_22) rfl ?_
          show Steps p.tables e below (s₁.setTop (mkF m 23 #[.val (.int i), .val (.int j), .val (.int q)] [(.int i)])) _
          refine XS.bipush X0.here hx rfl (hb hby d18_23) ?_
          show Steps p.tables e below (s₁.setTop (mkF m 25 #[.val (.int i), .val (.int j), .val (.int q)] [(.int (109 : Int32)), (.int i)])) _
          refine XS.icmpNo X0.here hx rfl (hb hby d18_25) rfl (teq (hc3_2 : i = (109 : Int32))).2 ?_
          show Steps p.tables e below (s₁.setTop (mkF m 28 #[.val (.int i), .val (.int j), .val (.int q)] [])) _
          refine XS.iloadN X0.here hx rfl (hb hby d18_28) rfl ?_
          show Steps p.tables e below (s₁.setTop (mkF m 29 #[.val (.int i), .val (.int j), .val (.int q)] [(.int j)])) _
          refine XS.bipush X0.here hx rfl (hb hby d18_29) ?_
          show Steps p.tables e below (s₁.setTop (mkF m 31 #[.val (.int i), .val (.int j), .val (.int q)] [(.int (97 : Int32)), (.int j)])) _
          refine XS.icmpYes X0.here hx rfl (pc0 := 31) (pc' := 44) rfl (hb hby d18_31) rfl (feq (fun q => absurd (hc9_4.symm.trans q) (by decide) : ¬ (j = (97 : Int32)))).2 (by decide) (by decide) ?_
          show Steps p.tables e below (s₁.setTop (mkF m 44 #[.val (.int i), .val (.int j), .val (.int q)] [])) _
          refine XS.iloadN X0.here hx rfl (hb hby d18_44) rfl ?_
          show Steps p.tables e below (s₁.setTop (mkF m 45 #[.val (.int i), .val (.int j), .val (.int q)] [(.int i)])) _
          refine XS.bipush X0.here hx rfl (hb hby d18_45) ?_
          show Steps p.tables e below (s₁.setTop (mkF m 47 #[.val (.int i), .val (.int j), .val (.int q)] [(.int (97 : Int32)), (.int i)])) _
          refine XS.icmpYes X0.here hx rfl (pc0 := 47) (pc' := 66) rfl (hb hby d18_47) rfl (feq (fun q => absurd (hc3_2.symm.trans q) (by decide) : ¬ (i = (97 : Int32)))).2 (by decide) (by decide) ?_
          show Steps p.tables e below (s₁.setTop (mkF m 66 #[.val (.int i), .val (.int j), .val (.int q)] [])) _
          refine XS.aconstNull X0.here hx rfl (hb hby d18_66) ?_
          show Steps p.tables e below (s₁.setTop (mkF m 67 #[.val (.int i), .val (.int j), .val (.int q)] [.null])) _
          exact k
        obtain ⟨fs, hr, hrun, hended, hW, hsame⟩ := X0.leave (v := some .null) (fun h => by rw [Bd.returns] at h; cases h)
        refine ⟨_, _, w9 _ ?_, hrun, hended, _, _, rfl, ?_, ⟨_, rfl⟩, hW, hsame.mono (by decide) (by decide)⟩
        · jvm_step X0.here [X0.here.top, hx, (hb hby d18_67), X0.method', Bd.returns, Value.isRef, FieldType.isReference]
          first | (intro acts; rw [hr _ acts rfl rfl rfl]) | rw [hr _ _ rfl rfl rfl]
          exact Steps.refl _
        · show Q18 Z i j q s_MIN s_MAX s_AVG h0 n0 _ s₁.heap _
          rw [e0]
          exact ⟨(by simp [own_th, hc15_6, hc3_2, hc9_4]), N0, rfl⟩
    · have w10 : ∀ t, Steps p.tables e below (s₁.setTop (mkF m 31 #[.val (.int i), .val (.int j), .val (.int q)] [(.int (97 : Int32)), (.int j)])) t → Steps p.tables e below (s₁.setTop (entryFrame m #[(.int i), (.int j), (.int q)] 3)) t := fun t k => by
        refine w3 t ?_
        refine XS.icmpYes X0.here hx rfl (pc0 := 9) (pc' := 22) rfl (hb hby d18_9) rfl (feq hc9_4).2 (by decide) (by decide) ?_
        show Steps p.tables e below (s₁.setTop (mkF m 22 #[.val (.int i), .val (.int j), .val (.int q)] [])) _
        refine XS.iloadN X0.here hx rfl (hb hby d18_22) rfl ?_
        show Steps p.tables e below (s₁.setTop (mkF m 23 #[.val (.int i), .val (.int j), .val (.int q)] [(.int i)])) _
        refine XS.bipush X0.here hx rfl (hb hby d18_23) ?_
        show Steps p.tables e below (s₁.setTop (mkF m 25 #[.val (.int i), .val (.int j), .val (.int q)] [(.int (109 : Int32)), (.int i)])) _
        refine XS.icmpNo X0.here hx rfl (hb hby d18_25) rfl (teq (hc3_2 : i = (109 : Int32))).2 ?_
        show Steps p.tables e below (s₁.setTop (mkF m 28 #[.val (.int i), .val (.int j), .val (.int q)] [])) _
        refine XS.iloadN X0.here hx rfl (hb hby d18_28) rfl ?_
        show Steps p.tables e below (s₁.setTop (mkF m 29 #[.val (.int i), .val (.int j), .val (.int q)] [(.int j)])) _
        refine XS.bipush X0.here hx rfl (hb hby d18_29) ?_
        show Steps p.tables e below (s₁.setTop (mkF m 31 #[.val (.int i), .val (.int j), .val (.int q)] [(.int (97 : Int32)), (.int j)])) _
        exact k
      by_cases hc31_11 : j = (97 : Int32)
      · have w12 : ∀ t, Steps p.tables e below (s₁.setTop (mkF m 37 #[.val (.int i), .val (.int j), .val (.int q)] [(.int (120 : Int32)), (.int q)])) t → Steps p.tables e below (s₁.setTop (entryFrame m #[(.int i), (.int j), (.int q)] 3)) t := fun t k => by
          refine w10 t ?_
          refine XS.icmpNo X0.here hx rfl (hb hby d18_31) rfl (teq hc31_11).2 ?_
          show Steps p.tables e below (s₁.setTop (mkF m 34 #[.val (.int i), .val (.int j), .val (.int q)] [])) _
          refine XS.iloadN X0.here hx rfl (hb hby d18_34) rfl ?_
          show Steps p.tables e below (s₁.setTop (mkF m 35 #[.val (.int i), .val (.int j), .val (.int q)] [(.int q)])) _
          refine XS.bipush X0.here hx rfl (hb hby d18_35) ?_
          show Steps p.tables e below (s₁.setTop (mkF m 37 #[.val (.int i), .val (.int j), .val (.int q)] [(.int (120 : Int32)), (.int q)])) _
          exact k
        by_cases hc37_13 : q = (120 : Int32)
        · obtain ⟨T14, X14, e14, st14⟩ := getS2 X0 hx hZ hown (host := "") (Or.inl (hw _ (List.mem_of_getElem? (i := 48) rfl))) Via.refl e0 (S_s_MAX.ext O.2) (g := (mkF m 40 #[.val (.int i), .val (.int j), .val (.int q)] [])) rfl (hb hby d18_40)
          have w15 : ∀ t, Steps p.tables e below (T14.setTop (mkF m 43 #[.val (.int i), .val (.int j), .val (.int q)] [(.ref s_MAX)])) t → Steps p.tables e below (s₁.setTop (entryFrame m #[(.int i), (.int j), (.int q)] 3)) t := fun t k => by
            refine w12 t ?_
            refine XS.icmpNo X0.here hx rfl (hb hby d18_37) rfl (teq hc37_13).2 ?_
            show Steps p.tables e below (s₁.setTop (mkF m 40 #[.val (.int i), .val (.int j), .val (.int q)] [])) _
            refine st14 _ ?_
            show Steps p.tables e below (T14.setTop (mkF m 43 #[.val (.int i), .val (.int j), .val (.int q)] [(.ref s_MAX)])) _
            exact k
          obtain ⟨fs, hr, hrun, hended, hW, hsame⟩ := X14.leave (v := some (.ref s_MAX)) (fun h => by rw [Bd.returns] at h; cases h)
          refine ⟨_, _, w15 _ ?_, hrun, hended, _, _, rfl, ?_, ⟨_, rfl⟩, hW, hsame.mono (by decide) (by decide)⟩
          · jvm_step X14.here [X14.here.top, hx, (hb hby d18_43), X14.method', Bd.returns, Value.isRef, FieldType.isReference]
            first | (intro acts; rw [hr _ acts rfl rfl rfl]) | rw [hr _ _ rfl rfl rfl]
            exact Steps.refl _
          · show Q18 Z i j q s_MIN s_MAX s_AVG h0 n0 _ T14.heap _
            rw [e14]
            exact ⟨(by simp [own_th, hc31_11, hc37_13, hc3_2, hc9_4]), N0, rfl⟩
        · have w16 : ∀ t, Steps p.tables e below (s₁.setTop (mkF m 67 #[.val (.int i), .val (.int j), .val (.int q)] [.null])) t → Steps p.tables e below (s₁.setTop (entryFrame m #[(.int i), (.int j), (.int q)] 3)) t := fun t k => by
            refine w12 t ?_
            refine XS.icmpYes X0.here hx rfl (pc0 := 37) (pc' := 44) rfl (hb hby d18_37) rfl (feq hc37_13).2 (by decide) (by decide) ?_
            show Steps p.tables e below (s₁.setTop (mkF m 44 #[.val (.int i), .val (.int j), .val (.int q)] [])) _
            refine XS.iloadN X0.here hx rfl (hb hby d18_44) rfl ?_
            show Steps p.tables e below (s₁.setTop (mkF m 45 #[.val (.int i), .val (.int j), .val (.int q)] [(.int i)])) _
            refine XS.bipush X0.here hx rfl (hb hby d18_45) ?_
            show Steps p.tables e below (s₁.setTop (mkF m 47 #[.val (.int i), .val (.int j), .val (.int q)] [(.int (97 : Int32)), (.int i)])) _
            refine XS.icmpYes X0.here hx rfl (pc0 := 47) (pc' := 66) rfl (hb hby d18_47) rfl (feq (fun q => absurd (hc3_2.symm.trans q) (by decide) : ¬ (i = (97 : Int32)))).2 (by decide) (by decide) ?_
            show Steps p.tables e below (s₁.setTop (mkF m 66 #[.val (.int i), .val (.int j), .val (.int q)] [])) _
            refine XS.aconstNull X0.here hx rfl (hb hby d18_66) ?_
            show Steps p.tables e below (s₁.setTop (mkF m 67 #[.val (.int i), .val (.int j), .val (.int q)] [.null])) _
            exact k
          obtain ⟨fs, hr, hrun, hended, hW, hsame⟩ := X0.leave (v := some .null) (fun h => by rw [Bd.returns] at h; cases h)
          refine ⟨_, _, w16 _ ?_, hrun, hended, _, _, rfl, ?_, ⟨_, rfl⟩, hW, hsame.mono (by decide) (by decide)⟩
          · jvm_step X0.here [X0.here.top, hx, (hb hby d18_67), X0.method', Bd.returns, Value.isRef, FieldType.isReference]
            first | (intro acts; rw [hr _ acts rfl rfl rfl]) | rw [hr _ _ rfl rfl rfl]
            exact Steps.refl _
          · show Q18 Z i j q s_MIN s_MAX s_AVG h0 n0 _ s₁.heap _
            rw [e0]
            exact ⟨(by simp [own_th, hc31_11, hc37_13, hc3_2, hc9_4]), N0, rfl⟩
      · have w17 : ∀ t, Steps p.tables e below (s₁.setTop (mkF m 67 #[.val (.int i), .val (.int j), .val (.int q)] [.null])) t → Steps p.tables e below (s₁.setTop (entryFrame m #[(.int i), (.int j), (.int q)] 3)) t := fun t k => by
          refine w10 t ?_
          refine XS.icmpYes X0.here hx rfl (pc0 := 31) (pc' := 44) rfl (hb hby d18_31) rfl (feq hc31_11).2 (by decide) (by decide) ?_
          show Steps p.tables e below (s₁.setTop (mkF m 44 #[.val (.int i), .val (.int j), .val (.int q)] [])) _
          refine XS.iloadN X0.here hx rfl (hb hby d18_44) rfl ?_
          show Steps p.tables e below (s₁.setTop (mkF m 45 #[.val (.int i), .val (.int j), .val (.int q)] [(.int i)])) _
          refine XS.bipush X0.here hx rfl (hb hby d18_45) ?_
          show Steps p.tables e below (s₁.setTop (mkF m 47 #[.val (.int i), .val (.int j), .val (.int q)] [(.int (97 : Int32)), (.int i)])) _
          refine XS.icmpYes X0.here hx rfl (pc0 := 47) (pc' := 66) rfl (hb hby d18_47) rfl (feq (fun q => absurd (hc3_2.symm.trans q) (by decide) : ¬ (i = (97 : Int32)))).2 (by decide) (by decide) ?_
          show Steps p.tables e below (s₁.setTop (mkF m 66 #[.val (.int i), .val (.int j), .val (.int q)] [])) _
          refine XS.aconstNull X0.here hx rfl (hb hby d18_66) ?_
          show Steps p.tables e below (s₁.setTop (mkF m 67 #[.val (.int i), .val (.int j), .val (.int q)] [.null])) _
          exact k
        obtain ⟨fs, hr, hrun, hended, hW, hsame⟩ := X0.leave (v := some .null) (fun h => by rw [Bd.returns] at h; cases h)
        refine ⟨_, _, w17 _ ?_, hrun, hended, _, _, rfl, ?_, ⟨_, rfl⟩, hW, hsame.mono (by decide) (by decide)⟩
        · jvm_step X0.here [X0.here.top, hx, (hb hby d18_67), X0.method', Bd.returns, Value.isRef, FieldType.isReference]
          first | (intro acts; rw [hr _ acts rfl rfl rfl]) | rw [hr _ _ rfl rfl rfl]
          exact Steps.refl _
        · show Q18 Z i j q s_MIN s_MAX s_AVG h0 n0 _ s₁.heap _
          rw [e0]
          exact ⟨(by simp [own_th, hc31_11, hc3_2, hc9_4]), N0, rfl⟩
  · have w18 : ∀ t, Steps p.tables e below (s₁.setTop (mkF m 47 #[.val (.int i), .val (.int j), .val (.int q)] [(.int (97 : Int32)), (.int i)])) t → Steps p.tables e below (s₁.setTop (entryFrame m #[(.int i), (.int j), (.int q)] 3)) t := fun t k => by
      refine w1 t ?_
      refine XS.icmpYes X0.here hx rfl (pc0 := 3) (pc' := 22) rfl (hb hby d18_3) rfl (feq hc3_2).2 (by decide) (by decide) ?_
      show Steps p.tables e below (s₁.setTop (mkF m 22 #[.val (.int i), .val (.int j), .val (.int q)] [])) _
      refine XS.iloadN X0.here hx rfl (hb hby d18_22) rfl ?_
      show Steps p.tables e below (s₁.setTop (mkF m 23 #[.val (.int i), .val (.int j), .val (.int q)] [(.int i)])) _
      refine XS.bipush X0.here hx rfl (hb hby d18_23) ?_
      show Steps p.tables e below (s₁.setTop (mkF m 25 #[.val (.int i), .val (.int j), .val (.int q)] [(.int (109 : Int32)), (.int i)])) _
      refine XS.icmpYes X0.here hx rfl (pc0 := 25) (pc' := 44) rfl (hb hby d18_25) rfl (feq (hc3_2 : ¬ (i = (109 : Int32)))).2 (by decide) (by decide) ?_
      show Steps p.tables e below (s₁.setTop (mkF m 44 #[.val (.int i), .val (.int j), .val (.int q)] [])) _
      refine XS.iloadN X0.here hx rfl (hb hby d18_44) rfl ?_
      show Steps p.tables e below (s₁.setTop (mkF m 45 #[.val (.int i), .val (.int j), .val (.int q)] [(.int i)])) _
      refine XS.bipush X0.here hx rfl (hb hby d18_45) ?_
      show Steps p.tables e below (s₁.setTop (mkF m 47 #[.val (.int i), .val (.int j), .val (.int q)] [(.int (97 : Int32)), (.int i)])) _
      exact k
    by_cases hc47_19 : i = (97 : Int32)
    · have w20 : ∀ t, Steps p.tables e below (s₁.setTop (mkF m 53 #[.val (.int i), .val (.int j), .val (.int q)] [(.int (118 : Int32)), (.int j)])) t → Steps p.tables e below (s₁.setTop (entryFrame m #[(.int i), (.int j), (.int q)] 3)) t := fun t k => by
        refine w18 t ?_
        refine XS.icmpNo X0.here hx rfl (hb hby d18_47) rfl (teq hc47_19).2 ?_
        show Steps p.tables e below (s₁.setTop (mkF m 50 #[.val (.int i), .val (.int j), .val (.int q)] [])) _
        refine XS.iloadN X0.here hx rfl (hb hby d18_50) rfl ?_
        show Steps p.tables e below (s₁.setTop (mkF m 51 #[.val (.int i), .val (.int j), .val (.int q)] [(.int j)])) _
        refine XS.bipush X0.here hx rfl (hb hby d18_51) ?_
        show Steps p.tables e below (s₁.setTop (mkF m 53 #[.val (.int i), .val (.int j), .val (.int q)] [(.int (118 : Int32)), (.int j)])) _
        exact k
      by_cases hc53_21 : j = (118 : Int32)
      · have w22 : ∀ t, Steps p.tables e below (s₁.setTop (mkF m 59 #[.val (.int i), .val (.int j), .val (.int q)] [(.int (103 : Int32)), (.int q)])) t → Steps p.tables e below (s₁.setTop (entryFrame m #[(.int i), (.int j), (.int q)] 3)) t := fun t k => by
          refine w20 t ?_
          refine XS.icmpNo X0.here hx rfl (hb hby d18_53) rfl (teq hc53_21).2 ?_
          show Steps p.tables e below (s₁.setTop (mkF m 56 #[.val (.int i), .val (.int j), .val (.int q)] [])) _
          refine XS.iloadN X0.here hx rfl (hb hby d18_56) rfl ?_
          show Steps p.tables e below (s₁.setTop (mkF m 57 #[.val (.int i), .val (.int j), .val (.int q)] [(.int q)])) _
          refine XS.bipush X0.here hx rfl (hb hby d18_57) ?_
          show Steps p.tables e below (s₁.setTop (mkF m 59 #[.val (.int i), .val (.int j), .val (.int q)] [(.int (103 : Int32)), (.int q)])) _
          exact k
        by_cases hc59_23 : q = (103 : Int32)
        · obtain ⟨T24, X24, e24, st24⟩ := getS2 X0 hx hZ hown (host := "") (Or.inl (hw _ (List.mem_of_getElem? (i := 50) rfl))) Via.refl e0 (S_s_AVG.ext O.2) (g := (mkF m 62 #[.val (.int i), .val (.int j), .val (.int q)] [])) rfl (hb hby d18_62)
          have w25 : ∀ t, Steps p.tables e below (T24.setTop (mkF m 65 #[.val (.int i), .val (.int j), .val (.int q)] [(.ref s_AVG)])) t → Steps p.tables e below (s₁.setTop (entryFrame m #[(.int i), (.int j), (.int q)] 3)) t := fun t k => by
            refine w22 t ?_
            refine XS.icmpNo X0.here hx rfl (hb hby d18_59) rfl (teq hc59_23).2 ?_
            show Steps p.tables e below (s₁.setTop (mkF m 62 #[.val (.int i), .val (.int j), .val (.int q)] [])) _
            refine st24 _ ?_
            show Steps p.tables e below (T24.setTop (mkF m 65 #[.val (.int i), .val (.int j), .val (.int q)] [(.ref s_AVG)])) _
            exact k
          obtain ⟨fs, hr, hrun, hended, hW, hsame⟩ := X24.leave (v := some (.ref s_AVG)) (fun h => by rw [Bd.returns] at h; cases h)
          refine ⟨_, _, w25 _ ?_, hrun, hended, _, _, rfl, ?_, ⟨_, rfl⟩, hW, hsame.mono (by decide) (by decide)⟩
          · jvm_step X24.here [X24.here.top, hx, (hb hby d18_65), X24.method', Bd.returns, Value.isRef, FieldType.isReference]
            first | (intro acts; rw [hr _ acts rfl rfl rfl]) | rw [hr _ _ rfl rfl rfl]
            exact Steps.refl _
          · show Q18 Z i j q s_MIN s_MAX s_AVG h0 n0 _ T24.heap _
            rw [e24]
            exact ⟨(by simp [own_th, hc3_2, hc47_19, hc53_21, hc59_23]), N0, rfl⟩
        · have w26 : ∀ t, Steps p.tables e below (s₁.setTop (mkF m 67 #[.val (.int i), .val (.int j), .val (.int q)] [.null])) t → Steps p.tables e below (s₁.setTop (entryFrame m #[(.int i), (.int j), (.int q)] 3)) t := fun t k => by
            refine w22 t ?_
            refine XS.icmpYes X0.here hx rfl (pc0 := 59) (pc' := 66) rfl (hb hby d18_59) rfl (feq hc59_23).2 (by decide) (by decide) ?_
            show Steps p.tables e below (s₁.setTop (mkF m 66 #[.val (.int i), .val (.int j), .val (.int q)] [])) _
            refine XS.aconstNull X0.here hx rfl (hb hby d18_66) ?_
            show Steps p.tables e below (s₁.setTop (mkF m 67 #[.val (.int i), .val (.int j), .val (.int q)] [.null])) _
            exact k
          obtain ⟨fs, hr, hrun, hended, hW, hsame⟩ := X0.leave (v := some .null) (fun h => by rw [Bd.returns] at h; cases h)
          refine ⟨_, _, w26 _ ?_, hrun, hended, _, _, rfl, ?_, ⟨_, rfl⟩, hW, hsame.mono (by decide) (by decide)⟩
          · jvm_step X0.here [X0.here.top, hx, (hb hby d18_67), X0.method', Bd.returns, Value.isRef, FieldType.isReference]
            first | (intro acts; rw [hr _ acts rfl rfl rfl]) | rw [hr _ _ rfl rfl rfl]
            exact Steps.refl _
          · show Q18 Z i j q s_MIN s_MAX s_AVG h0 n0 _ s₁.heap _
            rw [e0]
            exact ⟨(by simp [own_th, hc3_2, hc47_19, hc53_21, hc59_23]), N0, rfl⟩
      · have w27 : ∀ t, Steps p.tables e below (s₁.setTop (mkF m 67 #[.val (.int i), .val (.int j), .val (.int q)] [.null])) t → Steps p.tables e below (s₁.setTop (entryFrame m #[(.int i), (.int j), (.int q)] 3)) t := fun t k => by
          refine w20 t ?_
          refine XS.icmpYes X0.here hx rfl (pc0 := 53) (pc' := 66) rfl (hb hby d18_53) rfl (feq hc53_21).2 (by decide) (by decide) ?_
          show Steps p.tables e below (s₁.setTop (mkF m 66 #[.val (.int i), .val (.int j), .val (.int q)] [])) _
          refine XS.aconstNull X0.here hx rfl (hb hby d18_66) ?_
          show Steps p.tables e below (s₁.setTop (mkF m 67 #[.val (.int i), .val (.int j), .val (.int q)] [.null])) _
          exact k
        obtain ⟨fs, hr, hrun, hended, hW, hsame⟩ := X0.leave (v := some .null) (fun h => by rw [Bd.returns] at h; cases h)
        refine ⟨_, _, w27 _ ?_, hrun, hended, _, _, rfl, ?_, ⟨_, rfl⟩, hW, hsame.mono (by decide) (by decide)⟩
        · jvm_step X0.here [X0.here.top, hx, (hb hby d18_67), X0.method', Bd.returns, Value.isRef, FieldType.isReference]
          first | (intro acts; rw [hr _ acts rfl rfl rfl]) | rw [hr _ _ rfl rfl rfl]
          exact Steps.refl _
        · show Q18 Z i j q s_MIN s_MAX s_AVG h0 n0 _ s₁.heap _
          rw [e0]
          exact ⟨(by simp [own_th, hc3_2, hc47_19, hc53_21]), N0, rfl⟩
    · have w28 : ∀ t, Steps p.tables e below (s₁.setTop (mkF m 67 #[.val (.int i), .val (.int j), .val (.int q)] [.null])) t → Steps p.tables e below (s₁.setTop (entryFrame m #[(.int i), (.int j), (.int q)] 3)) t := fun t k => by
        refine w18 t ?_
        refine XS.icmpYes X0.here hx rfl (pc0 := 47) (pc' := 66) rfl (hb hby d18_47) rfl (feq hc47_19).2 (by decide) (by decide) ?_
        show Steps p.tables e below (s₁.setTop (mkF m 66 #[.val (.int i), .val (.int j), .val (.int q)] [])) _
        refine XS.aconstNull X0.here hx rfl (hb hby d18_66) ?_
        show Steps p.tables e below (s₁.setTop (mkF m 67 #[.val (.int i), .val (.int j), .val (.int q)] [.null])) _
        exact k
      obtain ⟨fs, hr, hrun, hended, hW, hsame⟩ := X0.leave (v := some .null) (fun h => by rw [Bd.returns] at h; cases h)
      refine ⟨_, _, w28 _ ?_, hrun, hended, _, _, rfl, ?_, ⟨_, rfl⟩, hW, hsame.mono (by decide) (by decide)⟩
      · jvm_step X0.here [X0.here.top, hx, (hb hby d18_67), X0.method', Bd.returns, Value.isRef, FieldType.isReference]
        first | (intro acts; rw [hr _ acts rfl rfl rfl]) | rw [hr _ _ rfl rfl rfl]
        exact Steps.refl _
      · show Q18 Z i j q s_MIN s_MAX s_AVG h0 n0 _ s₁.heap _
        rw [e0]
        exact ⟨(by simp [own_th, hc3_2, hc47_19]), N0, rfl⟩
def own_F0 (x0 : Int32) (x1 : Int32) (x2 : Int32) (x3 : Int32) (x4 : Int32) (x5 : Int32) : Array Slot := #[.val (.int x0), .val (.int x1), .val (.int x2), .val (.int x3), .val (.int x4), .val (.int x5), .unset, .unset, .unset, .unset, .unset, .unset, .unset, .unset]
def own_F1 (x0 : Int32) (x1 : Int32) (x2 : Int32) (x3 : Int32) (x4 : Int32) (x5 : Int32) (x6 : Int32) : Array Slot := #[.val (.int x0), .val (.int x1), .val (.int x2), .val (.int x3), .val (.int x4), .val (.int x5), .val (.int x6), .unset, .unset, .unset, .unset, .unset, .unset, .unset]
def own_F2 (x0 : Int32) (x1 : Int32) (x2 : Int32) (x3 : Int32) (x4 : Int32) (x5 : Int32) (x6 : Int32) (x9 : Int32) : Array Slot := #[.val (.int x0), .val (.int x1), .val (.int x2), .val (.int x3), .val (.int x4), .val (.int x5), .val (.int x6), .unset, .unset, .val (.int x9), .unset, .unset, .unset, .unset]
def own_F3 (x0 : Int32) (x1 : Int32) (x2 : Int32) (x3 : Int32) (x4 : Int32) (x5 : Int32) (x6 : Int32) (x9 : Int32) (x10 : Int32) : Array Slot := #[.val (.int x0), .val (.int x1), .val (.int x2), .val (.int x3), .val (.int x4), .val (.int x5), .val (.int x6), .unset, .unset, .val (.int x9), .val (.int x10), .unset, .unset, .unset]
def own_F4 (x0 : Int32) (x1 : Int32) (x2 : Int32) (x3 : Int32) (x4 : Int32) (x5 : Int32) (x6 : Int32) (x9 : Int32) (x10 : Int32) (x11 : Int32) : Array Slot := #[.val (.int x0), .val (.int x1), .val (.int x2), .val (.int x3), .val (.int x4), .val (.int x5), .val (.int x6), .unset, .unset, .val (.int x9), .val (.int x10), .val (.int x11), .unset, .unset]
theorem pd__40_91C_41V : parseMethodDescriptor "([C)V" = some ⟨[(.array .char)], none⟩ := by decide +kernel
def own_F5 (x0 : Int32) (x1 : Int32) (x2 : Int32) (x3 : Int32) (x4 : Int32) (x5 : Int32) (x6 : Int32) (x7 : Addr) (x9 : Int32) (x10 : Int32) (x11 : Int32) : Array Slot := #[.val (.int x0), .val (.int x1), .val (.int x2), .val (.int x3), .val (.int x4), .val (.int x5), .val (.int x6), .val (.ref x7), .unset, .val (.int x9), .val (.int x10), .val (.int x11), .unset, .unset]
theorem pd__40CCC_41Lcom_47example_47querent_47querent_47translation_47Aggregation_59 : parseMethodDescriptor "(CCC)Lcom/example/querent/querent/translation/Aggregation;" = some ⟨[.char, .char, .char], some (.object "com/example/querent/querent/translation/Aggregation")⟩ := by decide +kernel
def own_F6 (x0 : Int32) (x1 : Int32) (x2 : Int32) (x3 : Int32) (x4 : Int32) (x5 : Int32) (x6 : Int32) (x7 : Addr) (x8 : Addr) (x9 : Int32) (x10 : Int32) (x11 : Int32) : Array Slot := #[.val (.int x0), .val (.int x1), .val (.int x2), .val (.int x3), .val (.int x4), .val (.int x5), .val (.int x6), .val (.ref x7), .val (.ref x8), .val (.int x9), .val (.int x10), .val (.int x11), .unset, .unset]
theorem pd__40Ljava_47lang_47String_59_41Ljava_47util_47Optional_59 : parseMethodDescriptor "(Ljava/lang/String;)Ljava/util/Optional;" = some ⟨[(.object "java/lang/String")], some (.object "java/util/Optional")⟩ := by decide +kernel
def own_F7 (x0 : Int32) (x1 : Int32) (x2 : Int32) (x3 : Int32) (x4 : Int32) (x5 : Int32) (x6 : Int32) (x7 : Addr) (x8 : Addr) (x9 : Addr) (x10 : Int32) (x11 : Int32) : Array Slot := #[.val (.int x0), .val (.int x1), .val (.int x2), .val (.int x3), .val (.int x4), .val (.int x5), .val (.int x6), .val (.ref x7), .val (.ref x8), .val (.ref x9), .val (.int x10), .val (.int x11), .unset, .unset]
def own_F8 (x0 : Int32) (x1 : Int32) (x2 : Int32) (x3 : Int32) (x4 : Int32) (x5 : Int32) (x6 : Int32) (x7 : Addr) (x9 : Int32) (x10 : Int32) (x11 : Int32) : Array Slot := #[.val (.int x0), .val (.int x1), .val (.int x2), .val (.int x3), .val (.int x4), .val (.int x5), .val (.int x6), .val (.ref x7), .val .null, .val (.int x9), .val (.int x10), .val (.int x11), .unset, .unset]
def own_F9 (x0 : Int32) (x1 : Int32) (x2 : Int32) (x3 : Int32) (x4 : Int32) (x5 : Int32) (x6 : Int32) (x7 : Addr) (x10 : Int32) (x11 : Int32) : Array Slot := #[.val (.int x0), .val (.int x1), .val (.int x2), .val (.int x3), .val (.int x4), .val (.int x5), .val (.int x6), .val (.ref x7), .val .null, .val .null, .val (.int x10), .val (.int x11), .unset, .unset]
def own_F10 (x0 : Int32) (x1 : Int32) (x2 : Int32) (x3 : Int32) (x4 : Int32) (x5 : Int32) (x6 : Int32) (x9 : Int32) (x10 : Int32) (x11 : Int32) (x12 : Int32) : Array Slot := #[.val (.int x0), .val (.int x1), .val (.int x2), .val (.int x3), .val (.int x4), .val (.int x5), .val (.int x6), .unset, .unset, .val (.int x9), .val (.int x10), .val (.int x11), .val (.int x12), .unset]
def own_F11 (x0 : Int32) (x1 : Int32) (x2 : Int32) (x3 : Int32) (x4 : Int32) (x5 : Int32) (x6 : Int32) (x9 : Int32) (x10 : Int32) (x11 : Int32) (x12 : Int32) (x13 : Int32) : Array Slot := #[.val (.int x0), .val (.int x1), .val (.int x2), .val (.int x3), .val (.int x4), .val (.int x5), .val (.int x6), .unset, .unset, .val (.int x9), .val (.int x10), .val (.int x11), .val (.int x12), .val (.int x13)]
def own_F12 (x0 : Int32) (x1 : Int32) (x2 : Int32) (x3 : Int32) (x4 : Int32) (x5 : Int32) (x6 : Int32) (x7 : Addr) (x9 : Int32) (x10 : Int32) (x11 : Int32) (x12 : Int32) (x13 : Int32) : Array Slot := #[.val (.int x0), .val (.int x1), .val (.int x2), .val (.int x3), .val (.int x4), .val (.int x5), .val (.int x6), .val (.ref x7), .unset, .val (.int x9), .val (.int x10), .val (.int x11), .val (.int x12), .val (.int x13)]
def own_F13 (x0 : Int32) (x1 : Int32) (x2 : Int32) (x3 : Int32) (x4 : Int32) (x5 : Int32) (x6 : Int32) (x7 : Addr) (x8 : Addr) (x9 : Int32) (x10 : Int32) (x11 : Int32) (x12 : Int32) (x13 : Int32) : Array Slot := #[.val (.int x0), .val (.int x1), .val (.int x2), .val (.int x3), .val (.int x4), .val (.int x5), .val (.int x6), .val (.ref x7), .val (.ref x8), .val (.int x9), .val (.int x10), .val (.int x11), .val (.int x12), .val (.int x13)]
def own_F14 (x0 : Int32) (x1 : Int32) (x2 : Int32) (x3 : Int32) (x4 : Int32) (x5 : Int32) (x6 : Int32) (x7 : Addr) (x8 : Addr) (x9 : Addr) (x10 : Int32) (x11 : Int32) (x12 : Int32) (x13 : Int32) : Array Slot := #[.val (.int x0), .val (.int x1), .val (.int x2), .val (.int x3), .val (.int x4), .val (.int x5), .val (.int x6), .val (.ref x7), .val (.ref x8), .val (.ref x9), .val (.int x10), .val (.int x11), .val (.int x12), .val (.int x13)]
def own_F15 (x0 : Int32) (x1 : Int32) (x2 : Int32) (x3 : Int32) (x4 : Int32) (x5 : Int32) (x6 : Int32) (x7 : Addr) (x9 : Int32) (x10 : Int32) (x11 : Int32) (x12 : Int32) (x13 : Int32) : Array Slot := #[.val (.int x0), .val (.int x1), .val (.int x2), .val (.int x3), .val (.int x4), .val (.int x5), .val (.int x6), .val (.ref x7), .val .null, .val (.int x9), .val (.int x10), .val (.int x11), .val (.int x12), .val (.int x13)]
def own_F16 (x0 : Int32) (x1 : Int32) (x2 : Int32) (x3 : Int32) (x4 : Int32) (x5 : Int32) (x6 : Int32) (x7 : Addr) (x10 : Int32) (x11 : Int32) (x12 : Int32) (x13 : Int32) : Array Slot := #[.val (.int x0), .val (.int x1), .val (.int x2), .val (.int x3), .val (.int x4), .val (.int x5), .val (.int x6), .val (.ref x7), .val .null, .val .null, .val (.int x10), .val (.int x11), .val (.int x12), .val (.int x13)]
def own_F17 (x0 : Int32) (x1 : Int32) (x2 : Int32) (x3 : Int32) (x4 : Int32) (x5 : Int32) (x6 : Int32) (x9 : Addr) : Array Slot := #[.val (.int x0), .val (.int x1), .val (.int x2), .val (.int x3), .val (.int x4), .val (.int x5), .val (.int x6), .unset, .unset, .val (.ref x9), .unset, .unset, .unset, .unset]
def own_F18 (x0 : Int32) (x1 : Int32) (x2 : Int32) (x3 : Int32) (x4 : Int32) (x5 : Int32) (x6 : Int32) (x9 : Addr) (x10 : Addr) : Array Slot := #[.val (.int x0), .val (.int x1), .val (.int x2), .val (.int x3), .val (.int x4), .val (.int x5), .val (.int x6), .unset, .unset, .val (.ref x9), .val (.ref x10), .unset, .unset, .unset]
def own_F19 (x0 : Int32) (x1 : Int32) (x2 : Int32) (x3 : Int32) (x4 : Int32) (x5 : Int32) (x6 : Int32) (x9 : Addr) (x10 : Addr) (x11 : Int32) : Array Slot := #[.val (.int x0), .val (.int x1), .val (.int x2), .val (.int x3), .val (.int x4), .val (.int x5), .val (.int x6), .unset, .unset, .val (.ref x9), .val (.ref x10), .val (.int x11), .unset, .unset]
theorem own_cod_67_79_85_78_84 : StrChars.Road.CodA ([(67 : Int32), (79 : Int32), (85 : Int32), (78 : Int32), (84 : Int32)] : List Int32) 0 (5 : Int32) [(.int (67 : Int32)), (.int (79 : Int32)), (.int (85 : Int32)), (.int (78 : Int32)), (.int (84 : Int32))] := Or.inl ⟨rfl, rfl, by decide +kernel, by decide +kernel⟩
theorem own_cod_67_79_85_78_84b : ∀ c ∈ ([(67 : Int32), (79 : Int32), (85 : Int32), (78 : Int32), (84 : Int32)] : List Int32), ¬ c < 0 ∧ ¬ (65535 : Int32) < c := by decide +kernel
theorem own_cod_67_111_117_110_116 : StrChars.Road.CodA ([(67 : Int32), (111 : Int32), (117 : Int32), (110 : Int32), (116 : Int32)] : List Int32) 0 (5 : Int32) [(.int (67 : Int32)), (.int (111 : Int32)), (.int (117 : Int32)), (.int (110 : Int32)), (.int (116 : Int32))] := Or.inl ⟨rfl, rfl, by decide +kernel, by decide +kernel⟩
theorem own_cod_67_111_117_110_116b : ∀ c ∈ ([(67 : Int32), (111 : Int32), (117 : Int32), (110 : Int32), (116 : Int32)] : List Int32), ¬ c < 0 ∧ ¬ (65535 : Int32) < c := by decide +kernel
theorem own_cod_115_117_109 : StrChars.Road.CodA ([(115 : Int32), (117 : Int32), (109 : Int32)] : List Int32) 0 (3 : Int32) [(.int (115 : Int32)), (.int (117 : Int32)), (.int (109 : Int32))] := Or.inl ⟨rfl, rfl, by decide +kernel, by decide +kernel⟩
theorem own_cod_115_117_109b : ∀ c ∈ ([(115 : Int32), (117 : Int32), (109 : Int32)] : List Int32), ¬ c < 0 ∧ ¬ (65535 : Int32) < c := by decide +kernel
theorem own_cod_115_117_109_105_110_116_101_103_101_114 : StrChars.Road.CodA ([(115 : Int32), (117 : Int32), (109 : Int32), (105 : Int32), (110 : Int32), (116 : Int32), (101 : Int32), (103 : Int32), (101 : Int32), (114 : Int32)] : List Int32) 0 (10 : Int32) [(.int (115 : Int32)), (.int (117 : Int32)), (.int (109 : Int32)), (.int (105 : Int32)), (.int (110 : Int32)), (.int (116 : Int32)), (.int (101 : Int32)), (.int (103 : Int32)), (.int (101 : Int32)), (.int (114 : Int32))] := Or.inl ⟨rfl, rfl, by decide +kernel, by decide +kernel⟩
theorem own_cod_115_117_109_105_110_116_101_103_101_114b : ∀ c ∈ ([(115 : Int32), (117 : Int32), (109 : Int32), (105 : Int32), (110 : Int32), (116 : Int32), (101 : Int32), (103 : Int32), (101 : Int32), (114 : Int32)] : List Int32), ¬ c < 0 ∧ ¬ (65535 : Int32) < c := by decide +kernel
theorem own_cod_115_117_109_76_111_110_103_32 : StrChars.Road.CodA ([(115 : Int32), (117 : Int32), (109 : Int32), (76 : Int32), (111 : Int32), (110 : Int32), (103 : Int32), (32 : Int32)] : List Int32) 0 (8 : Int32) [(.int (115 : Int32)), (.int (117 : Int32)), (.int (109 : Int32)), (.int (76 : Int32)), (.int (111 : Int32)), (.int (110 : Int32)), (.int (103 : Int32)), (.int (32 : Int32))] := Or.inl ⟨rfl, rfl, by decide +kernel, by decide +kernel⟩
theorem own_cod_115_117_109_76_111_110_103_32b : ∀ c ∈ ([(115 : Int32), (117 : Int32), (109 : Int32), (76 : Int32), (111 : Int32), (110 : Int32), (103 : Int32), (32 : Int32)] : List Int32), ¬ c < 0 ∧ ¬ (65535 : Int32) < c := by decide +kernel
theorem own_cod_115_117_109_100_111_117_98_108_101 : StrChars.Road.CodA ([(115 : Int32), (117 : Int32), (109 : Int32), (100 : Int32), (111 : Int32), (117 : Int32), (98 : Int32), (108 : Int32), (101 : Int32)] : List Int32) 0 (9 : Int32) [(.int (115 : Int32)), (.int (117 : Int32)), (.int (109 : Int32)), (.int (100 : Int32)), (.int (111 : Int32)), (.int (117 : Int32)), (.int (98 : Int32)), (.int (108 : Int32)), (.int (101 : Int32))] := Or.inl ⟨rfl, rfl, by decide +kernel, by decide +kernel⟩
theorem own_cod_115_117_109_100_111_117_98_108_101b : ∀ c ∈ ([(115 : Int32), (117 : Int32), (109 : Int32), (100 : Int32), (111 : Int32), (117 : Int32), (98 : Int32), (108 : Int32), (101 : Int32)] : List Int32), ¬ c < 0 ∧ ¬ (65535 : Int32) < c := by decide +kernel
theorem own_cod_83_117_109_66_105_103_68_101_99_105_109_97_108 : StrChars.Road.CodA ([(83 : Int32), (117 : Int32), (109 : Int32), (66 : Int32), (105 : Int32), (103 : Int32), (68 : Int32), (101 : Int32), (99 : Int32), (105 : Int32), (109 : Int32), (97 : Int32), (108 : Int32)] : List Int32) 0 (13 : Int32) [(.int (83 : Int32)), (.int (117 : Int32)), (.int (109 : Int32)), (.int (66 : Int32)), (.int (105 : Int32)), (.int (103 : Int32)), (.int (68 : Int32)), (.int (101 : Int32)), (.int (99 : Int32)), (.int (105 : Int32)), (.int (109 : Int32)), (.int (97 : Int32)), (.int (108 : Int32))] := Or.inl ⟨rfl, rfl, by decide +kernel, by decide +kernel⟩
theorem own_cod_83_117_109_66_105_103_68_101_99_105_109_97_108b : ∀ c ∈ ([(83 : Int32), (117 : Int32), (109 : Int32), (66 : Int32), (105 : Int32), (103 : Int32), (68 : Int32), (101 : Int32), (99 : Int32), (105 : Int32), (109 : Int32), (97 : Int32), (108 : Int32)] : List Int32), ¬ c < 0 ∧ ¬ (65535 : Int32) < c := by decide +kernel
theorem own_cod_115_117_109_66_105_103_68_101_99_105_109_97 : StrChars.Road.CodA ([(115 : Int32), (117 : Int32), (109 : Int32), (66 : Int32), (105 : Int32), (103 : Int32), (68 : Int32), (101 : Int32), (99 : Int32), (105 : Int32), (109 : Int32), (97 : Int32)] : List Int32) 0 (12 : Int32) [(.int (115 : Int32)), (.int (117 : Int32)), (.int (109 : Int32)), (.int (66 : Int32)), (.int (105 : Int32)), (.int (103 : Int32)), (.int (68 : Int32)), (.int (101 : Int32)), (.int (99 : Int32)), (.int (105 : Int32)), (.int (109 : Int32)), (.int (97 : Int32))] := Or.inl ⟨rfl, rfl, by decide +kernel, by decide +kernel⟩
theorem own_cod_115_117_109_66_105_103_68_101_99_105_109_97b : ∀ c ∈ ([(115 : Int32), (117 : Int32), (109 : Int32), (66 : Int32), (105 : Int32), (103 : Int32), (68 : Int32), (101 : Int32), (99 : Int32), (105 : Int32), (109 : Int32), (97 : Int32)] : List Int32), ¬ c < 0 ∧ ¬ (65535 : Int32) < c := by decide +kernel
theorem own_cod_109_105 : StrChars.Road.CodA ([(109 : Int32), (105 : Int32)] : List Int32) 0 (2 : Int32) [(.int (109 : Int32)), (.int (105 : Int32))] := Or.inl ⟨rfl, rfl, by decide +kernel, by decide +kernel⟩
theorem own_cod_109_105b : ∀ c ∈ ([(109 : Int32), (105 : Int32)] : List Int32), ¬ c < 0 ∧ ¬ (65535 : Int32) < c := by decide +kernel
theorem own_cod_109_97_120_120 : StrChars.Road.CodA ([(109 : Int32), (97 : Int32), (120 : Int32), (120 : Int32)] : List Int32) 0 (4 : Int32) [(.int (109 : Int32)), (.int (97 : Int32)), (.int (120 : Int32)), (.int (120 : Int32))] := Or.inl ⟨rfl, rfl, by decide +kernel, by decide +kernel⟩
theorem own_cod_109_97_120_120b : ∀ c ∈ ([(109 : Int32), (97 : Int32), (120 : Int32), (120 : Int32)] : List Int32), ¬ c < 0 ∧ ¬ (65535 : Int32) < c := by decide +kernel
theorem own_cod_65_86_71 : StrChars.Road.CodA ([(65 : Int32), (86 : Int32), (71 : Int32)] : List Int32) 0 (3 : Int32) [(.int (65 : Int32)), (.int (86 : Int32)), (.int (71 : Int32))] := Or.inl ⟨rfl, rfl, by decide +kernel, by decide +kernel⟩
theorem own_cod_65_86_71b : ∀ c ∈ ([(65 : Int32), (86 : Int32), (71 : Int32)] : List Int32), ¬ c < 0 ∧ ¬ (65535 : Int32) < c := by decide +kernel
theorem own_cod_ : StrChars.Road.CodA ([] : List Int32) 0 (0 : Int32) [] := Or.inl ⟨rfl, rfl, by decide +kernel, by decide +kernel⟩
theorem own_cod_b : ∀ c ∈ ([] : List Int32), ¬ c < 0 ∧ ¬ (65535 : Int32) < c := by decide +kernel
theorem own_cod_83_85_77_95_73_78_84_69_71_69_82 : StrChars.Road.CodA ([(83 : Int32), (85 : Int32), (77 : Int32), (95 : Int32), (73 : Int32), (78 : Int32), (84 : Int32), (69 : Int32), (71 : Int32), (69 : Int32), (82 : Int32)] : List Int32) 0 (11 : Int32) [(.int (83 : Int32)), (.int (85 : Int32)), (.int (77 : Int32)), (.int (95 : Int32)), (.int (73 : Int32)), (.int (78 : Int32)), (.int (84 : Int32)), (.int (69 : Int32)), (.int (71 : Int32)), (.int (69 : Int32)), (.int (82 : Int32))] := Or.inl ⟨rfl, rfl, by decide +kernel, by decide +kernel⟩
theorem own_cod_83_85_77_95_73_78_84_69_71_69_82b : ∀ c ∈ ([(83 : Int32), (85 : Int32), (77 : Int32), (95 : Int32), (73 : Int32), (78 : Int32), (84 : Int32), (69 : Int32), (71 : Int32), (69 : Int32), (82 : Int32)] : List Int32), ¬ c < 0 ∧ ¬ (65535 : Int32) < c := by decide +kernel
theorem own_cod_115_117_109_70_108_111_97_116 : StrChars.Road.CodA ([(115 : Int32), (117 : Int32), (109 : Int32), (70 : Int32), (108 : Int32), (111 : Int32), (97 : Int32), (116 : Int32)] : List Int32) 0 (8 : Int32) [(.int (115 : Int32)), (.int (117 : Int32)), (.int (109 : Int32)), (.int (70 : Int32)), (.int (108 : Int32)), (.int (111 : Int32)), (.int (97 : Int32)), (.int (116 : Int32))] := Or.inl ⟨rfl, rfl, by decide +kernel, by decide +kernel⟩
theorem own_cod_115_117_109_70_108_111_97_116b : ∀ c ∈ ([(115 : Int32), (117 : Int32), (109 : Int32), (70 : Int32), (108 : Int32), (111 : Int32), (97 : Int32), (116 : Int32)] : List Int32), ¬ c < 0 ∧ ¬ (65535 : Int32) < c := by decide +kernel
def own_F20 (x0 : Int32) (x1 : Int32) (x2 : Int32) (x3 : Int32) (x4 : Int32) (x5 : Int32) (x6 : Int32) (x7 : Addr) (x9 : Addr) (x10 : Addr) (x11 : Int32) : Array Slot := #[.val (.int x0), .val (.int x1), .val (.int x2), .val (.int x3), .val (.int x4), .val (.int x5), .val (.int x6), .val (.ref x7), .unset, .val (.ref x9), .val (.ref x10), .val (.int x11), .unset, .unset]
def own_F21 (x0 : Int32) (x1 : Int32) (x2 : Int32) (x3 : Int32) (x4 : Int32) (x5 : Int32) (x6 : Int32) (x7 : Addr) (x8 : Addr) (x9 : Addr) (x10 : Addr) (x11 : Int32) : Array Slot := #[.val (.int x0), .val (.int x1), .val (.int x2), .val (.int x3), .val (.int x4), .val (.int x5), .val (.int x6), .val (.ref x7), .val (.ref x8), .val (.ref x9), .val (.ref x10), .val (.int x11), .unset, .unset]
def own_F22 (x0 : Int32) (x1 : Int32) (x2 : Int32) (x3 : Int32) (x4 : Int32) (x5 : Int32) (x6 : Int32) (x7 : Addr) (x9 : Addr) (x10 : Addr) (x11 : Int32) : Array Slot := #[.val (.int x0), .val (.int x1), .val (.int x2), .val (.int x3), .val (.int x4), .val (.int x5), .val (.int x6), .val (.ref x7), .val .null, .val (.ref x9), .val (.ref x10), .val (.int x11), .unset, .unset]
def own_F23 (x0 : Int32) (x1 : Int32) (x2 : Int32) (x3 : Int32) (x4 : Int32) (x5 : Int32) (x6 : Int32) (x7 : Addr) (x10 : Addr) (x11 : Int32) : Array Slot := #[.val (.int x0), .val (.int x1), .val (.int x2), .val (.int x3), .val (.int x4), .val (.int x5), .val (.int x6), .val (.ref x7), .val .null, .val .null, .val (.ref x10), .val (.int x11), .unset, .unset]
def own_F24 (x0 : Int32) (x1 : Int32) (x2 : Int32) (x3 : Int32) (x4 : Int32) (x5 : Int32) (x6 : Int32) (x9 : Addr) (x10 : Addr) (x11 : Int32) : Array Slot := #[.val (.int x0), .val (.int x1), .val (.int x2), .val (.int x3), .val (.int x4), .val (.int x5), .val (.int x6), .val .null, .unset, .val (.ref x9), .val (.ref x10), .val (.int x11), .unset, .unset]
def own_F25 (x0 : Int32) (x1 : Int32) (x2 : Int32) (x3 : Int32) (x4 : Int32) (x5 : Int32) (x6 : Int32) (x9 : Addr) (x10 : Addr) (x11 : Int32) : Array Slot := #[.val (.int x0), .val (.int x1), .val (.int x2), .val (.int x3), .val (.int x4), .val (.int x5), .val (.int x6), .val .null, .val .null, .val (.ref x9), .val (.ref x10), .val (.int x11), .unset, .unset]
def own_F26 (x0 : Int32) (x1 : Int32) (x2 : Int32) (x3 : Int32) (x4 : Int32) (x5 : Int32) (x6 : Int32) (x10 : Addr) (x11 : Int32) : Array Slot := #[.val (.int x0), .val (.int x1), .val (.int x2), .val (.int x3), .val (.int x4), .val (.int x5), .val (.int x6), .val .null, .val .null, .val .null, .val (.ref x10), .val (.int x11), .unset, .unset]
theorem ef_0 (m : MethodId) (x0 : Int32) (x1 : Int32) (x2 : Int32) (x3 : Int32) (x4 : Int32) (x5 : Int32) : entryFrame m #[(.int x0), (.int x1), (.int x2), (.int x3), (.int x4), (.int x5)] maxLocals = mkF m 0 #[.val (.int x0), .val (.int x1), .val (.int x2), .val (.int x3), .val (.int x4), .val (.int x5), .unset, .unset, .unset, .unset, .unset, .unset, .unset, .unset] [] := by first | (simp [entryFrame, mkF, argsToLocals, Value.category, maxLocals]; done) | rfl
def Q0 (Z : State) (i : Int32) (i1 : Int32) (i2 : Int32) (i3 : Int32) (i4 : Int32) (i5 : Int32) (kv : ClassId) (zc : Int32) (s_VALUES : Addr) (s_COUNT : Addr) (s_SUM_INTEGER : Addr) (s_SUM_LONG : Addr) (s_SUM_DOUBLE : Addr) (s_SUM_BIG_DECIMAL : Addr) (s_MIN : Addr) (s_MAX : Addr) (s_AVG : Addr) (s_EMPTY : Addr) (h0 : Heap) (n0 : Nat) (v : Option Value) (h : Heap) (L : List Loc) : Prop := v = some (.int (1 : Int32)) ∧ Fr n0 L
set_option maxRecDepth 65536 in
set_option maxHeartbeats 40000000 in
theorem rm0 (l : Launch) (Z : State) (a0 : Array Value) (hw : ∀ d ∈ tables_1, d.before a0 Z = true) (ws : List Jvm.Cond) (i : Int32) (i1 : Int32) (i2 : Int32) (i3 : Int32) (i4 : Int32) (i5 : Int32) (kv : ClassId) (zc : Int32) (s_VALUES : Addr) (s_COUNT : Addr) (s_SUM_INTEGER : Addr) (s_SUM_LONG : Addr) (s_SUM_DOUBLE : Addr) (s_SUM_BIG_DECIMAL : Addr) (s_MIN : Addr) (s_MAX : Addr) (s_AVG : Addr) (s_EMPTY : Addr) (h0 : Heap) (n0 : Nat) (O0 : Old Z n0 h0) (S_s_VALUES : Sta Z Z.heap "com/example/querent/querent/translation/Aggregation" "$VALUES" "[Lcom/example/querent/querent/translation/Aggregation;" (.ref s_VALUES)) (S_s_COUNT : Sta Z Z.heap "com/example/querent/querent/translation/Aggregation" "COUNT" "Lcom/example/querent/querent/translation/Aggregation;" (.ref s_COUNT)) (S_s_SUM_INTEGER : Sta Z Z.heap "com/example/querent/querent/translation/Aggregation" "SUM_INTEGER" "Lcom/example/querent/querent/translation/Aggregation;" (.ref s_SUM_INTEGER)) (S_s_SUM_LONG : Sta Z Z.heap "com/example/querent/querent/translation/Aggregation" "SUM_LONG" "Lcom/example/querent/querent/translation/Aggregation;" (.ref s_SUM_LONG)) (S_s_SUM_DOUBLE : Sta Z Z.heap "com/example/querent/querent/translation/Aggregation" "SUM_DOUBLE" "Lcom/example/querent/querent/translation/Aggregation;" (.ref s_SUM_DOUBLE)) (S_s_SUM_BIG_DECIMAL : Sta Z Z.heap "com/example/querent/querent/translation/Aggregation" "SUM_BIG_DECIMAL" "Lcom/example/querent/querent/translation/Aggregation;" (.ref s_SUM_BIG_DECIMAL)) (S_s_MIN : Sta Z Z.heap "com/example/querent/querent/translation/Aggregation" "MIN" "Lcom/example/querent/querent/translation/Aggregation;" (.ref s_MIN)) (S_s_MAX : Sta Z Z.heap "com/example/querent/querent/translation/Aggregation" "MAX" "Lcom/example/querent/querent/translation/Aggregation;" (.ref s_MAX)) (S_s_AVG : Sta Z Z.heap "com/example/querent/querent/translation/Aggregation" "AVG" "Lcom/example/querent/querent/translation/Aggregation;" (.ref s_AVG)) (S_s_EMPTY : Sta Z Z.heap "java/util/Optional" "EMPTY" "Ljava/util/Optional;" (.ref s_EMPTY)) (o_E_s_VALUES : Exa Z Z.heap s_VALUES "[Lcom/example/querent/querent/translation/Aggregation;") (o_V_s_VALUES : Arv Z Z.heap s_VALUES kv (.object "com/example/querent/querent/translation/Aggregation") (8 : Int32) [(.ref s_COUNT), (.ref s_SUM_INTEGER), (.ref s_SUM_LONG), (.ref s_SUM_DOUBLE), (.ref s_SUM_BIG_DECIMAL), (.ref s_MIN), (.ref s_MAX), (.ref s_AVG)] .null) (o_E_s_EMPTY : Exa Z Z.heap s_EMPTY "java/util/Optional") (o_F_o_s_EMPTY : Fld Z Z.heap s_EMPTY "java/util/Optional" "value" "Ljava/lang/Object;" .null) (o_E_s_COUNT : Exa Z Z.heap s_COUNT "com/example/querent/querent/translation/Aggregation") (o_F_ordinal_s_COUNT : Fld Z Z.heap s_COUNT "java/lang/Enum" "ordinal" "I" (.int (0 : Int32))) (o_E_s_SUM_INTEGER : Exa Z Z.heap s_SUM_INTEGER "com/example/querent/querent/translation/Aggregation") (o_F_ordinal_s_SUM_INTEGER : Fld Z Z.heap s_SUM_INTEGER "java/lang/Enum" "ordinal" "I" (.int (1 : Int32))) (o_E_s_SUM_LONG : Exa Z Z.heap s_SUM_LONG "com/example/querent/querent/translation/Aggregation") (o_F_ordinal_s_SUM_LONG : Fld Z Z.heap s_SUM_LONG "java/lang/Enum" "ordinal" "I" (.int (2 : Int32))) (o_E_s_SUM_DOUBLE : Exa Z Z.heap s_SUM_DOUBLE "com/example/querent/querent/translation/Aggregation") (o_F_ordinal_s_SUM_DOUBLE : Fld Z Z.heap s_SUM_DOUBLE "java/lang/Enum" "ordinal" "I" (.int (3 : Int32))) (o_E_s_SUM_BIG_DECIMAL : Exa Z Z.heap s_SUM_BIG_DECIMAL "com/example/querent/querent/translation/Aggregation") (o_F_ordinal_s_SUM_BIG_DECIMAL : Fld Z Z.heap s_SUM_BIG_DECIMAL "java/lang/Enum" "ordinal" "I" (.int (4 : Int32))) (o_E_s_MIN : Exa Z Z.heap s_MIN "com/example/querent/querent/translation/Aggregation") (o_F_ordinal_s_MIN : Fld Z Z.heap s_MIN "java/lang/Enum" "ordinal" "I" (.int (5 : Int32))) (o_E_s_MAX : Exa Z Z.heap s_MAX "com/example/querent/querent/translation/Aggregation") (o_F_ordinal_s_MAX : Fld Z Z.heap s_MAX "java/lang/Enum" "ordinal" "I" (.int (6 : Int32))) (o_E_s_AVG : Exa Z Z.heap s_AVG "com/example/querent/querent/translation/Aggregation") (o_F_ordinal_s_AVG : Fld Z Z.heap s_AVG "java/lang/Enum" "ordinal" "I" (.int (7 : Int32))) (SC : Sta Z Z.heap "java/lang/String" "COMPACT_STRINGS" "Z" (.int zc)) (hzc : ¬ zc = 0) :
    MetFree l x (head1 (Jvm.Cond.code x code maxLocals ret :: ws) room_1) (fun aA uU => aA = #[(.int i), (.int i1), (.int i2), (.int i3), (.int i4), (.int i5)] ∧ Z.Warmed39 uU.vm ∧ uU.heap = h0 ∧ CHv Z consts_1 uU.vm h0) (fun _ _ _ _ _ => True) (fun _ uU oO uU' => ∃ vV lL, oO = .returned vV ∧ Q0 Z i i1 i2 i3 i4 i5 kv zc s_VALUES s_COUNT s_SUM_INTEGER s_SUM_LONG s_SUM_DOUBLE s_SUM_BIG_DECIMAL s_MIN s_MAX s_AVG s_EMPTY h0 n0 vV uU'.heap lL ∧ CHr Z consts_1 uU.vm uU.heap uU'.vm uU'.heap ∧ ReturnedEndW uU oO uU' lL room_1.cells room_1.slots) := by
  refine MetFree.of_bodySF (plainFor_of_name pn_com_example_querent_querent_translation_AggregationOfPinLaw) hisR ?_
  intro p e s m args below meth c s₁ Bd hml0 hP hK
  obtain ⟨rfl, hZ, hh, H0⟩ := hP
  have hx := Bd.exec
  have hby := Bd.bytes
  have hml : c.maxLocals = 14 := hml0
  have hown : s.vm.findClass "com/example/querent/querent/translation/AggregationOfPinLaw" = some m.cls := findClass_of_methodNamed Bd.named
  have hnm := (name_of_methodNamed Bd.named Bd.method).1
  have X0 : Stand p l e room_1 (s.setVm s.vm) m #[(.int i), (.int i1), (.int i2), (.int i3), (.int i4), (.int i5)] below meth c s₁ [] 0 0 := Stand.of_body Bd
  have e0 : s₁.heap = h0 := by rw [← hh, Bd.state]; rfl
  have N0 := Fr.nil n0
  have O := O0
  have hS : s.Since s.vm h0.size := own_since s _
  have hk : h0.size ≤ h0.size := Nat.le_refl _
  have C : CHr Z consts_1 s.vm h0 s.vm h0 := CHr.refl H0
  have hEL := own_EW hw
  have hSA := own_wS hw
  have pre0 : ∀ t, Steps p.tables e below (s₁.setTop (mkF m 0 #[.val (.int i), .val (.int i1), .val (.int i2), .val (.int i3), .val (.int i4), .val (.int i5), .unset, .unset, .unset, .unset, .unset, .unset, .unset, .unset] [])) t → Steps p.tables e below (s₁.setTop (entryFrame m #[(.int i), (.int i1), (.int i2), (.int i3), (.int i4), (.int i5)] maxLocals)) t := fun t k => castTop (ef_0 m i i1 i2 i3 i4 i5) k
  have w1 : ∀ t, Steps p.tables e below (s₁.setTop (mkF m 8 (own_F1 i i1 i2 i3 i4 i5 (i &&& (3 : Int32))) [(.int (1 : Int32)), (.int (i &&& (3 : Int32)))])) t → Steps p.tables e below (s₁.setTop (entryFrame m #[(.int i), (.int i1), (.int i2), (.int i3), (.int i4), (.int i5)] maxLocals)) t := fun t k => by
    refine pre0 t ?_
    refine XS.iloadN X0.here hx rfl (hb hby at_0) rfl ?_
    show Steps p.tables e below (s₁.setTop (mkF m 1 (own_F0 i i1 i2 i3 i4 i5) [(.int i)])) _
    refine XS.iconst X0.here hx rfl (hb hby at_1) ?_
    show Steps p.tables e below (s₁.setTop (mkF m 2 (own_F0 i i1 i2 i3 i4 i5) [(.int (3 : Int32)), (.int i)])) _
    refine XS.iand X0.here hx rfl (hb hby at_2) rfl ?_
    show Steps p.tables e below (s₁.setTop (mkF m 3 (own_F0 i i1 i2 i3 i4 i5) [(.int (i &&& (3 : Int32)))])) _
    refine XS.istore X0.here hx rfl (hb hby at_3) rfl (l' := (own_F1 i i1 i2 i3 i4 i5 (i &&& (3 : Int32)))) rfl ?_
    show Steps p.tables e below (s₁.setTop (mkF m 5 (own_F1 i i1 i2 i3 i4 i5 (i &&& (3 : Int32))) [])) _
    refine XS.iload X0.here hx rfl (hb hby at_5) rfl ?_
    show Steps p.tables e below (s₁.setTop (mkF m 7 (own_F1 i i1 i2 i3 i4 i5 (i &&& (3 : Int32))) [(.int (i &&& (3 : Int32)))])) _
    refine XS.iconst X0.here hx rfl (hb hby at_7) ?_
    show Steps p.tables e below (s₁.setTop (mkF m 8 (own_F1 i i1 i2 i3 i4 i5 (i &&& (3 : Int32))) [(.int (1 : Int32)), (.int (i &&& (3 : Int32)))])) _
    exact k
  by_cases hc8_2 : (1 : Int32) < (i &&& (3 : Int32))
  · have w3 : ∀ t, Steps p.tables e below (s₁.setTop (mkF m 310 (own_F1 i i1 i2 i3 i4 i5 (i &&& (3 : Int32))) [(.int (2 : Int32)), (.int (i &&& (3 : Int32)))])) t → Steps p.tables e below (s₁.setTop (entryFrame m #[(.int i), (.int i1), (.int i2), (.int i3), (.int i4), (.int i5)] maxLocals)) t := fun t k => by
      refine w1 t ?_
      refine XS.icmpYes X0.here hx rfl (pc0 := 8) (pc' := 307) rfl (hb hby at_8) rfl (tlt hc8_2).2.2.1 (by decide) (by decide) ?_
      show Steps p.tables e below (s₁.setTop (mkF m 307 (own_F1 i i1 i2 i3 i4 i5 (i &&& (3 : Int32))) [])) _
      refine XS.iload X0.here hx rfl (hb hby at_307) rfl ?_
      show Steps p.tables e below (s₁.setTop (mkF m 309 (own_F1 i i1 i2 i3 i4 i5 (i &&& (3 : Int32))) [(.int (i &&& (3 : Int32)))])) _
      refine XS.iconst X0.here hx rfl (hb hby at_309) ?_
      show Steps p.tables e below (s₁.setTop (mkF m 310 (own_F1 i i1 i2 i3 i4 i5 (i &&& (3 : Int32))) [(.int (2 : Int32)), (.int (i &&& (3 : Int32)))])) _
      exact k
    by_cases hc310_4 : (i &&& (3 : Int32)) = (2 : Int32)
    · have w5 : ∀ t, Steps p.tables e below (s₁.setTop (mkF m 337 (own_F4 i i1 i2 i3 i4 i5 (i &&& (3 : Int32)) ((i1 &&& (255 : Int32)).toUInt32.toUInt16.toUInt32.toInt32) ((i2 &&& (255 : Int32)).toUInt32.toUInt16.toUInt32.toInt32) ((i3 &&& (255 : Int32)).toUInt32.toUInt16.toUInt32.toInt32)) [])) t → Steps p.tables e below (s₁.setTop (entryFrame m #[(.int i), (.int i1), (.int i2), (.int i3), (.int i4), (.int i5)] maxLocals)) t := fun t k => by
        refine w3 t ?_
        refine XS.icmpNo X0.here hx rfl (hb hby at_310) rfl (teq hc310_4).2 ?_
        show Steps p.tables e below (s₁.setTop (mkF m 313 (own_F1 i i1 i2 i3 i4 i5 (i &&& (3 : Int32))) [])) _
        refine XS.iloadN X0.here hx rfl (hb hby at_313) rfl ?_
        show Steps p.tables e below (s₁.setTop (mkF m 314 (own_F1 i i1 i2 i3 i4 i5 (i &&& (3 : Int32))) [(.int i1)])) _
        refine XS.sipush X0.here hx rfl (hb hby at_314) ?_
        show Steps p.tables e below (s₁.setTop (mkF m 317 (own_F1 i i1 i2 i3 i4 i5 (i &&& (3 : Int32))) [(.int (255 : Int32)), (.int i1)])) _
        refine XS.iand X0.here hx rfl (hb hby at_317) rfl ?_
        show Steps p.tables e below (s₁.setTop (mkF m 318 (own_F1 i i1 i2 i3 i4 i5 (i &&& (3 : Int32))) [(.int (i1 &&& (255 : Int32)))])) _
        refine XS.i2c X0.here hx rfl (hb hby at_318) rfl ?_
        show Steps p.tables e below (s₁.setTop (mkF m 319 (own_F1 i i1 i2 i3 i4 i5 (i &&& (3 : Int32))) [(.int ((i1 &&& (255 : Int32)).toUInt32.toUInt16.toUInt32.toInt32))])) _
        refine XS.istore X0.here hx rfl (hb hby at_319) rfl (l' := (own_F2 i i1 i2 i3 i4 i5 (i &&& (3 : Int32)) ((i1 &&& (255 : Int32)).toUInt32.toUInt16.toUInt32.toInt32))) rfl ?_
        show Steps p.tables e below (s₁.setTop (mkF m 321 (own_F2 i i1 i2 i3 i4 i5 (i &&& (3 : Int32)) ((i1 &&& (255 : Int32)).toUInt32.toUInt16.toUInt32.toInt32)) [])) _
        refine XS.iloadN X0.here hx rfl (hb hby at_321) rfl ?_
        show Steps p.tables e below (s₁.setTop (mkF m 322 (own_F2 i i1 i2 i3 i4 i5 (i &&& (3 : Int32)) ((i1 &&& (255 : Int32)).toUInt32.toUInt16.toUInt32.toInt32)) [(.int i2)])) _
        refine XS.sipush X0.here hx rfl (hb hby at_322) ?_
        show Steps p.tables e below (s₁.setTop (mkF m 325 (own_F2 i i1 i2 i3 i4 i5 (i &&& (3 : Int32)) ((i1 &&& (255 : Int32)).toUInt32.toUInt16.toUInt32.toInt32)) [(.int (255 : Int32)), (.int i2)])) _
        refine XS.iand X0.here hx rfl (hb hby at_325) rfl ?_
        show Steps p.tables e below (s₁.setTop (mkF m 326 (own_F2 i i1 i2 i3 i4 i5 (i &&& (3 : Int32)) ((i1 &&& (255 : Int32)).toUInt32.toUInt16.toUInt32.toInt32)) [(.int (i2 &&& (255 : Int32)))])) _
        refine XS.i2c X0.here hx rfl (hb hby at_326) rfl ?_
        show Steps p.tables e below (s₁.setTop (mkF m 327 (own_F2 i i1 i2 i3 i4 i5 (i &&& (3 : Int32)) ((i1 &&& (255 : Int32)).toUInt32.toUInt16.toUInt32.toInt32)) [(.int ((i2 &&& (255 : Int32)).toUInt32.toUInt16.toUInt32.toInt32))])) _
        refine XS.istore X0.here hx rfl (hb hby at_327) rfl (l' := (own_F3 i i1 i2 i3 i4 i5 (i &&& (3 : Int32)) ((i1 &&& (255 : Int32)).toUInt32.toUInt16.toUInt32.toInt32) ((i2 &&& (255 : Int32)).toUInt32.toUInt16.toUInt32.toInt32))) rfl ?_
        show Steps p.tables e below (s₁.setTop (mkF m 329 (own_F3 i i1 i2 i3 i4 i5 (i &&& (3 : Int32)) ((i1 &&& (255 : Int32)).toUInt32.toUInt16.toUInt32.toInt32) ((i2 &&& (255 : Int32)).toUInt32.toUInt16.toUInt32.toInt32)) [])) _
        refine XS.iloadN X0.here hx rfl (hb hby at_329) rfl ?_
        show Steps p.tables e below (s₁.setTop (mkF m 330 (own_F3 i i1 i2 i3 i4 i5 (i &&& (3 : Int32)) ((i1 &&& (255 : Int32)).toUInt32.toUInt16.toUInt32.toInt32) ((i2 &&& (255 : Int32)).toUInt32.toUInt16.toUInt32.toInt32)) [(.int i3)])) _
        refine XS.sipush X0.here hx rfl (hb hby at_330) ?_
        show Steps p.tables e below (s₁.setTop (mkF m 333 (own_F3 i i1 i2 i3 i4 i5 (i &&& (3 : Int32)) ((i1 &&& (255 : Int32)).toUInt32.toUInt16.toUInt32.toInt32) ((i2 &&& (255 : Int32)).toUInt32.toUInt16.toUInt32.toInt32)) [(.int (255 : Int32)), (.int i3)])) _
        refine XS.iand X0.here hx rfl (hb hby at_333) rfl ?_
        show Steps p.tables e below (s₁.setTop (mkF m 334 (own_F3 i i1 i2 i3 i4 i5 (i &&& (3 : Int32)) ((i1 &&& (255 : Int32)).toUInt32.toUInt16.toUInt32.toInt32) ((i2 &&& (255 : Int32)).toUInt32.toUInt16.toUInt32.toInt32)) [(.int (i3 &&& (255 : Int32)))])) _
        refine XS.i2c X0.here hx rfl (hb hby at_334) rfl ?_
        show Steps p.tables e below (s₁.setTop (mkF m 335 (own_F3 i i1 i2 i3 i4 i5 (i &&& (3 : Int32)) ((i1 &&& (255 : Int32)).toUInt32.toUInt16.toUInt32.toInt32) ((i2 &&& (255 : Int32)).toUInt32.toUInt16.toUInt32.toInt32)) [(.int ((i3 &&& (255 : Int32)).toUInt32.toUInt16.toUInt32.toInt32))])) _
        refine XS.istore X0.here hx rfl (hb hby at_335) rfl (l' := (own_F4 i i1 i2 i3 i4 i5 (i &&& (3 : Int32)) ((i1 &&& (255 : Int32)).toUInt32.toUInt16.toUInt32.toInt32) ((i2 &&& (255 : Int32)).toUInt32.toUInt16.toUInt32.toInt32) ((i3 &&& (255 : Int32)).toUInt32.toUInt16.toUInt32.toInt32))) rfl ?_
        show Steps p.tables e below (s₁.setTop (mkF m 337 (own_F4 i i1 i2 i3 i4 i5 (i &&& (3 : Int32)) ((i1 &&& (255 : Int32)).toUInt32.toUInt16.toUInt32.toInt32) ((i2 &&& (255 : Int32)).toUInt32.toUInt16.toUInt32.toInt32) ((i3 &&& (255 : Int32)).toUInt32.toUInt16.toUInt32.toInt32)) [])) _
        exact k
      obtain ⟨ca, hca⟩ : ∃ v : Int32, v = ((i1 &&& (255 : Int32)).toUInt32.toUInt16.toUInt32.toInt32) := ⟨_, rfl⟩
      rw [← hca] at w5
      have nca : (ca.toUInt32.toUInt16.toUInt32.toInt32) = ca := by rw [hca]; exact own_cc _
      have yca : ¬ ca < 0 ∧ ¬ (255 : Int32) < ca := by rw [hca]; exact own_bI _
      obtain ⟨cb, hcb⟩ : ∃ v : Int32, v = ((i2 &&& (255 : Int32)).toUInt32.toUInt16.toUInt32.toInt32) := ⟨_, rfl⟩
      rw [← hcb] at w5
      have ncb : (cb.toUInt32.toUInt16.toUInt32.toInt32) = cb := by rw [hcb]; exact own_cc _
      have ycb : ¬ cb < 0 ∧ ¬ (255 : Int32) < cb := by rw [hcb]; exact own_bI _
      obtain ⟨cc, hcc⟩ : ∃ v : Int32, v = ((i3 &&& (255 : Int32)).toUInt32.toUInt16.toUInt32.toInt32) := ⟨_, rfl⟩
      rw [← hcc] at w5
      have ncc : (cc.toUInt32.toUInt16.toUInt32.toInt32) = cc := by rw [hcc]; exact own_cc _
      have ycc : ¬ cc < 0 ∧ ¬ (255 : Int32) < cc := by rw [hcc]; exact own_bI _
      obtain ⟨T6, h6, X6, e6, E6, A6, D6, -, st6⟩ := newO X0 hx hZ hown (hw _ (List.mem_of_getElem? (i := 0) rfl)) (hw _ (List.mem_of_getElem? (i := 4) rfl)) (hw _ (List.mem_of_getElem? (i := 3) rfl)) e0 (g := (mkF m 337 (own_F4 i i1 i2 i3 i4 i5 (i &&& (3 : Int32)) ca cb cc) [])) rfl (hb hby at_337) (by decide) (by decide)
      obtain ⟨b6, gq6⟩ : ∃ z, z = Array.size h0 := ⟨_, rfl⟩
      rw [← gq6] at A6 D6 st6
      have g_b6 : n0 ≤ b6 := Nat.le_trans (O.1 ▸ O.2.1) (Nat.le_of_eq gq6.symm)
      have sf_b6 := own_safeN C.1 E6 (Nat.le_of_eq gq6.symm)
      have R := CHr.ext E6 C.1
      have C := C.trans R
      have hk := Nat.le_trans hk E6.1
      have O := O.ext E6
      have F_value_b6 : Fld Z h6 b6 "java/lang/String" "value" "[B" .null := D6 (Or.inr (hw _ (List.mem_of_getElem? (i := 6) rfl))) (ty := (.array .byte)) (by decide)
      have F_coder_b6 : Fld Z h6 b6 "java/lang/String" "coder" "B" (.int (0 : Int32)) := D6 (Or.inr (hw _ (List.mem_of_getElem? (i := 7) rfl))) (ty := .byte) (by decide)
      obtain ⟨T7, h7, k7, X7, e7, E7, A7, st7⟩ := newP X6 hx hZ (hw _ (List.mem_of_getElem? (i := 133) rfl)) e6 (g := (mkF m 342 (own_F4 i i1 i2 i3 i4 i5 (i &&& (3 : Int32)) ca cb cc) [(.int (3 : Int32)), (.ref b6), (.ref b6)])) rfl (hb hby at_342) rfl (by decide) (cap := 3) (by decide) (by decide) (by decide) (by decide)
      obtain ⟨b7, gq7⟩ : ∃ z, z = Array.size h6 := ⟨_, rfl⟩
      rw [← gq7] at A7 st7
      have ne_b6_b7 : b6 ≠ b7 := Nat.ne_of_lt (Nat.lt_of_lt_of_le A6.lt (Nat.le_of_eq gq7.symm))
      have g_b7 : n0 ≤ b7 := Nat.le_trans (O.1 ▸ O.2.1) (Nat.le_of_eq gq7.symm)
      have sf_b7 := own_safeN C.1 E7 (Nat.le_of_eq gq7.symm)
      have R := CHr.ext E7 C.1
      have sf_b6 := R.safe A6.lt sf_b6
      have C := C.trans R
      have hk := Nat.le_trans hk E7.1
      have A6 := A6.ext E7
      have F_value_b6 := F_value_b6.ext E7
      have F_coder_b6 := F_coder_b6.ext E7
      have O := O.ext E7
      have V_b7 : Arv Z h7 b7 k7 .char (3 : Int32) [(.int (0 : Int32)), (.int (0 : Int32)), (.int (0 : Int32))] (.int (0 : Int32)) := (Arv.new A7 (by decide)).pad (pad_rep [] (.int (0 : Int32)) 3)
      obtain ⟨cl8, Ar8, q8, Z8, N8, H8, G8⟩ := id V_b7
      have hin8 : ¬ ((0 : Int32) < 0 ∨ cl8.slots.size ≤ ((0 : Int32)).toNatClampNeg) := inb_of Z8 ⟨by decide, by decide⟩
      obtain ⟨T9, h9, X9, e9, W9, st9⟩ := stC X7 hx hZ e7 Ar8 (j := (0 : Int32)) hin8 (g := (mkF m 348 (own_F4 i i1 i2 i3 i4 i5 (i &&& (3 : Int32)) ca cb cc) [(.int ca), (.int (0 : Int32)), (.ref b7), (.ref b7), (.ref b6), (.ref b6)])) rfl rfl (hb hby at_348)
      have R := CHr.wr W9 sf_b7 C.1
      have sf_b6 := R.safe A6.lt sf_b6
      have sf_b7 := R.safe V_b7.lt sf_b7
      have C := C.trans R
      have V_b7 : Arv Z h9 b7 k7 .char (3 : Int32) [(.int (ca.toUInt32.toUInt16.toUInt32.toInt32)), (.int (0 : Int32)), (.int (0 : Int32))] (.int (0 : Int32)) := Arv.set Ar8 q8 Z8 N8 H8 G8 (fits_nar_char _) W9 0 rfl (Nat.le_of_ble_eq_true rfl)
      have hk := (by rw [W9.size]; exact hk : _ ≤ Array.size h9)
      have A6 := A6.wr W9
      have F_value_b6 := F_value_b6.other W9 (Or.inl ne_b6_b7)
      have F_coder_b6 := F_coder_b6.other W9 (Or.inl ne_b6_b7)
      have O := O.wr W9 g_b7
      have N9 := Fr.snoc X9 N0 g_b7
      obtain ⟨cl10, Ar10, q10, Z10, N10, H10, G10⟩ := id V_b7
      have hin10 : ¬ ((1 : Int32) < 0 ∨ cl10.slots.size ≤ ((1 : Int32)).toNatClampNeg) := inb_of Z10 ⟨by decide, by decide⟩
      obtain ⟨T11, h11, X11, e11, W11, st11⟩ := stC X9 hx hZ e9 Ar10 (j := (1 : Int32)) hin10 (g := (mkF m 353 (own_F4 i i1 i2 i3 i4 i5 (i &&& (3 : Int32)) ca cb cc) [(.int cb), (.int (1 : Int32)), (.ref b7), (.ref b7), (.ref b6), (.ref b6)])) rfl rfl (hb hby at_353)
      have R := CHr.wr W11 sf_b7 C.1
      have sf_b6 := R.safe A6.lt sf_b6
      have sf_b7 := R.safe V_b7.lt sf_b7
      have C := C.trans R
      have V_b7 : Arv Z h11 b7 k7 .char (3 : Int32) [(.int (ca.toUInt32.toUInt16.toUInt32.toInt32)), (.int (cb.toUInt32.toUInt16.toUInt32.toInt32)), (.int (0 : Int32))] (.int (0 : Int32)) := Arv.set Ar10 q10 Z10 N10 H10 G10 (fits_nar_char _) W11 1 rfl (Nat.le_of_ble_eq_true rfl)
      have hk := (by rw [W11.size]; exact hk : _ ≤ Array.size h11)
      have A6 := A6.wr W11
      have F_value_b6 := F_value_b6.other W11 (Or.inl ne_b6_b7)
      have F_coder_b6 := F_coder_b6.other W11 (Or.inl ne_b6_b7)
      have O := O.wr W11 g_b7
      have N11 := Fr.snoc X11 N9 g_b7
      obtain ⟨cl12, Ar12, q12, Z12, N12, H12, G12⟩ := id V_b7
      have hin12 : ¬ ((2 : Int32) < 0 ∨ cl12.slots.size ≤ ((2 : Int32)).toNatClampNeg) := inb_of Z12 ⟨by decide, by decide⟩
      obtain ⟨T13, h13, X13, e13, W13, st13⟩ := stC X11 hx hZ e11 Ar12 (j := (2 : Int32)) hin12 (g := (mkF m 358 (own_F4 i i1 i2 i3 i4 i5 (i &&& (3 : Int32)) ca cb cc) [(.int cc), (.int (2 : Int32)), (.ref b7), (.ref b7), (.ref b6), (.ref b6)])) rfl rfl (hb hby at_358)
      have R := CHr.wr W13 sf_b7 C.1
      have sf_b6 := R.safe A6.lt sf_b6
      have sf_b7 := R.safe V_b7.lt sf_b7
      have C := C.trans R
      have V_b7 : Arv Z h13 b7 k7 .char (3 : Int32) [(.int (ca.toUInt32.toUInt16.toUInt32.toInt32)), (.int (cb.toUInt32.toUInt16.toUInt32.toInt32)), (.int (cc.toUInt32.toUInt16.toUInt32.toInt32))] (.int (0 : Int32)) := Arv.set Ar12 q12 Z12 N12 H12 G12 (fits_nar_char _) W13 2 rfl (Nat.le_of_ble_eq_true rfl)
      have hk := (by rw [W13.size]; exact hk : _ ≤ Array.size h13)
      have A6 := A6.wr W13
      have F_value_b6 := F_value_b6.other W13 (Or.inl ne_b6_b7)
      have F_coder_b6 := F_coder_b6.other W13 (Or.inl ne_b6_b7)
      have O := O.wr W13 g_b7
      have N13 := Fr.snoc X13 N11 g_b7
      rw [nca, ncb, ncc] at V_b7
      have hp_b6 := (own_hpc yca (own_hpc ycb (own_hpc ycc own_hpn)))
      have h9_b6 : 0 < ([ca, cb, cc] : List Int32).length ∧ ([ca, cb, cc] : List Int32).length ≤ 3 := ⟨Nat.le_of_ble_eq_true rfl, Nat.le_of_ble_eq_true rfl⟩
      obtain ⟨_, _, ⟨T14, L14, k14, n14⟩, -, X14, ⟨Lc14, hQ14, l14, y14, z14⟩, st14⟩ := X13.specialBack hx (y := (⟨"java/lang/String", "<init>", "([C)V"⟩ : MethodName)) rfl hown (mvT hZ (hw _ (List.mem_of_getElem? (i := 134) rfl))) (mvT hZ (hw _ (List.mem_of_getElem? (i := 135) rfl))) (mvT hZ (hw _ (List.mem_of_getElem? (i := 136) rfl))) (by decide) (StrChars.Road.backV (W := 1) hZ (own_wNew hw) (kI := 4) (hw _ (List.mem_of_getElem? (i := 4) rfl)) (cs := ([ca, cb, cc] : List Int32)) (bs := (([ca, cb, cc] : List Int32).map (fun c => c.toInt8.toInt32))) (n := ([ca, cb, cc] : List Int32).length) g_b6 (O.1 ▸ O.2.1) A6 F_value_b6 F_coder_b6 V_b7 (SC.ext O.2) hzc rfl rfl h9_b6.1 (Nat.le_trans h9_b6.2 (by decide)) hp_b6 rfl (by decide) (by decide)) (g := (mkF m 359 (own_F4 i i1 i2 i3 i4 i5 (i &&& (3 : Int32)) ca cb cc) [(.ref b7), (.ref b6), (.ref b6)])) rfl (by rw [hml]; rfl) (Steps.refl _) (a := b6) (argsL := [(.ref b7)]) (rest := [(.ref b6)]) (lenOf pd__40_91C_41V rfl) rfl (by show 2 * 0 + _ ≤ _; exact Nat.le_of_eq rfl) (hb hby at_359) (fun _ _ => ⟨rfl, e13, (by decide : 2 + 1 ≤ _), Nat.le_trans (Nat.add_le_add_left h9_b6.2 7) (by decide)⟩)
      dsimp only [Pt.U, Pt.locs, Pt.cells, Pt.slots] at X14 l14 y14 z14 st14 hQ14
      have X14 := own_un X14 l14 y14 z14
      have X14 := X14.more (Nat.le_refl _) (Nat.add_le_add_left h9_b6.2 7)
      obtain ⟨rfl, N14q, K14, Ex14, Fc14, t14, kb14, gn14, gz14, nx14, Fv14, Av14⟩ := hQ14
      have N14 := Fr.app N13 N14q
      have ne_b6_t14 : b6 ≠ t14 := Nat.ne_of_lt (Nat.lt_of_lt_of_le A6.lt gz14)
      have ne_b7_t14 : b7 ≠ t14 := Nat.ne_of_lt (Nat.lt_of_lt_of_le V_b7.lt gz14)
      have R := CHr.keep K14 (allS sf_b6 all0) C.1
      have sf_b6 := R.safe A6.lt sf_b6
      have sf_b7 := R.safe V_b7.lt sf_b7
      have C := C.trans R
      have hk := Nat.le_trans hk K14.1
      have A6 := A6.keep K14
      have V_b7 := V_b7.keep K14 (ninS (Ne.symm ne_b6_b7) nin0)
      have g_t14 := gn14
      have O := O.keep K14 (allS g_b6 all0)
      obtain ⟨_, _, ⟨T15, L15, k15, n15⟩, -, X15, ⟨Lc15, hQ15, l15, y15, z15⟩, st15⟩ := Jvm.LawKit.callS X14 hx (y := (⟨"com/example/querent/querent/translation/AggregationOfPinLaw", "three", "(CCC)Lcom/example/querent/querent/translation/Aggregation;"⟩ : MethodName)) hown (mvT hZ (hw _ (List.mem_of_getElem? (i := 151) rfl))) (mvT hZ (hw _ (List.mem_of_getElem? (i := 152) rfl))) (mvT hZ (hw _ (List.mem_of_getElem? (i := 153) rfl))) (mvT hZ (hw _ (List.mem_of_getElem? (i := 154) rfl))) (by decide) (backOf (W := 0) (rm18 l Z a0 hw [] ca cb cc s_MIN s_MAX s_AVG T14.heap n0 O S_s_MIN S_s_MAX S_s_AVG) hZ (hw _ (List.mem_of_getElem? (i := 154) rfl)) (hw _ (List.mem_of_getElem? (i := 153) rfl)) (by decide) (by decide)) (g := (mkF m 370 (own_F5 i i1 i2 i3 i4 i5 (i &&& (3 : Int32)) b6 ca cb cc) [(.int cc), (.int cb), (.int ca)])) rfl (by rw [hml]; rfl) (argsL := [(.int ca), (.int cb), (.int cc)]) (rest := []) (lenOf pd__40CCC_41Lcom_47example_47querent_47querent_47translation_47Aggregation_59 rfl) rfl (by show 2 * 0 + _ ≤ _; exact Nat.le_of_eq rfl) (hb hby at_370) (fun _ _ => ⟨rfl, rfl, (by decide : 3 + 0 ≤ _), (by decide : 10 + 0 ≤ _)⟩)
      dsimp only [Pt.U, Pt.locs, Pt.cells, Pt.slots] at X15 l15 y15 z15 st15 hQ15
      have X15 := own_un X15 l15 y15 z15
      obtain ⟨rfl, N15q, eh15⟩ := hQ15
      have N15 := Fr.app N14 N15q
      have w16 : ∀ t, Steps p.tables e below (T15.setTop (mkF m 373 (own_F5 i i1 i2 i3 i4 i5 (i &&& (3 : Int32)) b6 ca cb cc) [(own_th ca cb cc (.ref s_MIN) (.ref s_MAX) (.ref s_AVG))])) t → Steps p.tables e below (s₁.setTop (entryFrame m #[(.int i), (.int i1), (.int i2), (.int i3), (.int i4), (.int i5)] maxLocals)) t := fun t k => by
        refine w5 t ?_
        refine st6 _ ?_
        show Steps p.tables e below (T6.setTop (mkF m 340 (own_F4 i i1 i2 i3 i4 i5 (i &&& (3 : Int32)) ca cb cc) [(.ref b6)])) _
        refine XS.dup X6.here hx rfl (hb hby at_340) rfl rfl ?_
        show Steps p.tables e below (T6.setTop (mkF m 341 (own_F4 i i1 i2 i3 i4 i5 (i &&& (3 : Int32)) ca cb cc) [(.ref b6), (.ref b6)])) _
        refine XS.iconst X6.here hx rfl (hb hby at_341) ?_
        show Steps p.tables e below (T6.setTop (mkF m 342 (own_F4 i i1 i2 i3 i4 i5 (i &&& (3 : Int32)) ca cb cc) [(.int (3 : Int32)), (.ref b6), (.ref b6)])) _
        refine st7 _ ?_
        show Steps p.tables e below (T7.setTop (mkF m 344 (own_F4 i i1 i2 i3 i4 i5 (i &&& (3 : Int32)) ca cb cc) [(.ref b7), (.ref b6), (.ref b6)])) _
        refine XS.dup X7.here hx rfl (hb hby at_344) rfl rfl ?_
        show Steps p.tables e below (T7.setTop (mkF m 345 (own_F4 i i1 i2 i3 i4 i5 (i &&& (3 : Int32)) ca cb cc) [(.ref b7), (.ref b7), (.ref b6), (.ref b6)])) _
        refine XS.iconst X7.here hx rfl (hb hby at_345) ?_
        show Steps p.tables e below (T7.setTop (mkF m 346 (own_F4 i i1 i2 i3 i4 i5 (i &&& (3 : Int32)) ca cb cc) [(.int (0 : Int32)), (.ref b7), (.ref b7), (.ref b6), (.ref b6)])) _
        refine XS.iload X7.here hx rfl (hb hby at_346) rfl ?_
        show Steps p.tables e below (T7.setTop (mkF m 348 (own_F4 i i1 i2 i3 i4 i5 (i &&& (3 : Int32)) ca cb cc) [(.int ca), (.int (0 : Int32)), (.ref b7), (.ref b7), (.ref b6), (.ref b6)])) _
        refine st9 _ ?_
        show Steps p.tables e below (T9.setTop (mkF m 349 (own_F4 i i1 i2 i3 i4 i5 (i &&& (3 : Int32)) ca cb cc) [(.ref b7), (.ref b6), (.ref b6)])) _
        refine XS.dup X9.here hx rfl (hb hby at_349) rfl rfl ?_
        show Steps p.tables e below (T9.setTop (mkF m 350 (own_F4 i i1 i2 i3 i4 i5 (i &&& (3 : Int32)) ca cb cc) [(.ref b7), (.ref b7), (.ref b6), (.ref b6)])) _
        refine XS.iconst X9.here hx rfl (hb hby at_350) ?_
        show Steps p.tables e below (T9.setTop (mkF m 351 (own_F4 i i1 i2 i3 i4 i5 (i &&& (3 : Int32)) ca cb cc) [(.int (1 : Int32)), (.ref b7), (.ref b7), (.ref b6), (.ref b6)])) _
        refine XS.iload X9.here hx rfl (hb hby at_351) rfl ?_
        show Steps p.tables e below (T9.setTop (mkF m 353 (own_F4 i i1 i2 i3 i4 i5 (i &&& (3 : Int32)) ca cb cc) [(.int cb), (.int (1 : Int32)), (.ref b7), (.ref b7), (.ref b6), (.ref b6)])) _
        refine st11 _ ?_
        show Steps p.tables e below (T11.setTop (mkF m 354 (own_F4 i i1 i2 i3 i4 i5 (i &&& (3 : Int32)) ca cb cc) [(.ref b7), (.ref b6), (.ref b6)])) _
        refine XS.dup X11.here hx rfl (hb hby at_354) rfl rfl ?_
        show Steps p.tables e below (T11.setTop (mkF m 355 (own_F4 i i1 i2 i3 i4 i5 (i &&& (3 : Int32)) ca cb cc) [(.ref b7), (.ref b7), (.ref b6), (.ref b6)])) _
        refine XS.iconst X11.here hx rfl (hb hby at_355) ?_
        show Steps p.tables e below (T11.setTop (mkF m 356 (own_F4 i i1 i2 i3 i4 i5 (i &&& (3 : Int32)) ca cb cc) [(.int (2 : Int32)), (.ref b7), (.ref b7), (.ref b6), (.ref b6)])) _
        refine XS.iload X11.here hx rfl (hb hby at_356) rfl ?_
        show Steps p.tables e below (T11.setTop (mkF m 358 (own_F4 i i1 i2 i3 i4 i5 (i &&& (3 : Int32)) ca cb cc) [(.int cc), (.int (2 : Int32)), (.ref b7), (.ref b7), (.ref b6), (.ref b6)])) _
        refine st13 _ ?_
        show Steps p.tables e below (T13.setTop (mkF m 359 (own_F4 i i1 i2 i3 i4 i5 (i &&& (3 : Int32)) ca cb cc) [(.ref b7), (.ref b6), (.ref b6)])) _
        refine st14.trans ?_
        show Steps p.tables e below (T14.setTop (mkF m 362 (own_F4 i i1 i2 i3 i4 i5 (i &&& (3 : Int32)) ca cb cc) [(.ref b6)])) _
        refine XS.astore X14.here hx rfl (hb hby at_362) rfl rfl (l' := (own_F5 i i1 i2 i3 i4 i5 (i &&& (3 : Int32)) b6 ca cb cc)) rfl ?_
        show Steps p.tables e below (T14.setTop (mkF m 364 (own_F5 i i1 i2 i3 i4 i5 (i &&& (3 : Int32)) b6 ca cb cc) [])) _
        refine XS.iload X14.here hx rfl (hb hby at_364) rfl ?_
        show Steps p.tables e below (T14.setTop (mkF m 366 (own_F5 i i1 i2 i3 i4 i5 (i &&& (3 : Int32)) b6 ca cb cc) [(.int ca)])) _
        refine XS.iload X14.here hx rfl (hb hby at_366) rfl ?_
        show Steps p.tables e below (T14.setTop (mkF m 368 (own_F5 i i1 i2 i3 i4 i5 (i &&& (3 : Int32)) b6 ca cb cc) [(.int cb), (.int ca)])) _
        refine XS.iload X14.here hx rfl (hb hby at_368) rfl ?_
        show Steps p.tables e below (T14.setTop (mkF m 370 (own_F5 i i1 i2 i3 i4 i5 (i &&& (3 : Int32)) b6 ca cb cc) [(.int cc), (.int cb), (.int ca)])) _
        refine st15 _ ?_
        show Steps p.tables e below (T15.setTop (mkF m 373 (own_F5 i i1 i2 i3 i4 i5 (i &&& (3 : Int32)) b6 ca cb cc) [(own_th ca cb cc (.ref s_MIN) (.ref s_MAX) (.ref s_AVG))])) _
        exact k
      rcases own_th4 ca cb cc (.ref s_MIN) (.ref s_MAX) (.ref s_AVG) with ⟨⟨q1, q2, q3⟩, hv⟩ | ⟨⟨q1, q2, q3⟩, hv⟩ | ⟨⟨q1, q2, q3⟩, hv⟩ | ⟨⟨q1, q2, q3⟩, hv⟩
      · rw [hv] at w16
        obtain ⟨_, _, ⟨T17, L17, k17, n17⟩, -, X17, sn17, gr17, ⟨Lc17, hQ17, l17, y17, z17, R17⟩, st17⟩ := callSS X15 hx (y := (⟨"com/example/querent/querent/translation/Aggregation", "of", "(Ljava/lang/String;)Ljava/util/Optional;"⟩ : MethodName)) hown (mvT hZ (hw _ (List.mem_of_getElem? (i := 52) rfl))) (mvT hZ (hw _ (List.mem_of_getElem? (i := 53) rfl))) (mvT hZ (hw _ (List.mem_of_getElem? (i := 35) rfl))) (mvT hZ (hw _ (List.mem_of_getElem? (i := 54) rfl))) (by decide) (backOfSH (W := 0) (rm1 l Z a0 hw [] b6 t14 kb14 ([ca, cb, cc] : List Int32) (Int32.ofNat ([ca, cb, cc] : List Int32).length) ((([ca, cb, cc] : List Int32).map (fun c => c.toInt8.toInt32)).map Value.int) kv zc s_VALUES s_COUNT s_SUM_INTEGER s_SUM_LONG s_SUM_DOUBLE s_SUM_BIG_DECIMAL s_MIN s_MAX s_AVG s_EMPTY T14.heap n0 O S_s_VALUES S_s_COUNT S_s_SUM_INTEGER S_s_SUM_LONG S_s_SUM_DOUBLE S_s_SUM_BIG_DECIMAL S_s_MIN S_s_MAX S_s_AVG S_s_EMPTY Ex14 Fv14 Fc14 Av14 (StrChars.Road.codOf rfl (fun c hc => (hp_b6 c hc).2)) (own_up hp_b6) (Nat.le_trans h9_b6.2 (by decide)) o_E_s_VALUES o_V_s_VALUES o_E_s_EMPTY o_F_o_s_EMPTY o_E_s_COUNT o_F_ordinal_s_COUNT o_E_s_SUM_INTEGER o_F_ordinal_s_SUM_INTEGER o_E_s_SUM_LONG o_F_ordinal_s_SUM_LONG o_E_s_SUM_DOUBLE o_F_ordinal_s_SUM_DOUBLE o_E_s_SUM_BIG_DECIMAL o_F_ordinal_s_SUM_BIG_DECIMAL o_E_s_MIN o_F_ordinal_s_MIN o_E_s_MAX o_F_ordinal_s_MAX o_E_s_AVG o_F_ordinal_s_AVG SC hzc) hZ (hw _ (List.mem_of_getElem? (i := 54) rfl)) (hw _ (List.mem_of_getElem? (i := 35) rfl)) (by decide) (by decide) hEL C.1) (g := (mkF m 503 (own_F6 i i1 i2 i3 i4 i5 (i &&& (3 : Int32)) b6 s_MIN ca cb cc) [(.ref b6)])) rfl (by rw [hml]; rfl) (argsL := [(.ref b6)]) (rest := []) (lenOf pd__40Ljava_47lang_47String_59_41Ljava_47util_47Optional_59 rfl) rfl (by show 2 * 0 + _ ≤ _; exact Nat.le_of_eq rfl) (hb hby at_503) (fun _ _ => ⟨rfl, eh15, (by decide : 3 + 18 ≤ _), (by decide : 10 + 253 ≤ _)⟩)
        dsimp only [Pt.U, Pt.locs, Pt.cells, Pt.slots] at X17 l17 y17 z17 st17 hQ17 sn17 gr17 R17
        have X17 := own_un X17 l17 y17 z17
        obtain ⟨X17, hS, hZ, hown⟩ := rebS hS (by rw [eh15]; exact hk) X17 sn17 gr17 hZ hown
        obtain ⟨z_17, rfl, N17q, K17, E_z_c17, F_o_z_c17⟩ := hQ17
        have N17 := Fr.app N15 N17q
        have R := R17
        have sf_b6 := R.safe Ex14.lt sf_b6
        have sf_b7 := R.safe V_b7.lt sf_b7
        have C := C.trans R
        have hk : T17.heap.size ≤ T17.heap.size := Nat.le_refl _
        have Ex14 := Ex14.keep K17
        have V_b7 := V_b7.keep K17 nin0
        have Fc14 := Fc14.keep K17 nin0
        have Fv14 := Fv14.keep K17 nin0
        have Av14 := Av14.keep K17 nin0
        have O := O.keep K17 all0
        rw [(by rw [q1, q2, q3]; exact own_agn_5 (.ref s_COUNT) (.ref s_SUM_INTEGER) (.ref s_SUM_LONG) (.ref s_SUM_DOUBLE) (.ref s_SUM_BIG_DECIMAL) (.ref s_MIN) (.ref s_MAX) (.ref s_AVG) : own_ag ([ca, cb, cc] : List Int32) (.ref s_COUNT) (.ref s_SUM_INTEGER) (.ref s_SUM_LONG) (.ref s_SUM_DOUBLE) (.ref s_SUM_BIG_DECIMAL) (.ref s_MIN) (.ref s_MAX) (.ref s_AVG) = .ref s_MIN)] at F_o_z_c17
        obtain ⟨cq18, kq18, q18a, q18b, q18c⟩ := isOf hZ rfl E_z_c17
        obtain ⟨_, _, ⟨T18, L18, k18, n18⟩, -, X18, ⟨Lc18, hQ18, l18, y18, z18⟩, st18⟩ := X17.virtualBack hx (y := (⟨"java/util/Optional", "orElse", "(Ljava/lang/Object;)Ljava/lang/Object;"⟩ : MethodName)) (z := (⟨"java/util/Optional", "orElse", "(Ljava/lang/Object;)Ljava/lang/Object;"⟩ : MethodName)) hown (mvT hZ (hw _ (List.mem_of_getElem? (i := 109) rfl))) (mvT hZ (hw _ (List.mem_of_getElem? (i := 110) rfl))) (notFace_of_selects (args := #[]) (mvT hZ (hw _ (List.mem_of_getElem? (i := 112) rfl)))) (mvT hZ (hw _ (List.mem_of_getElem? (i := 112) rfl))) (mvT hZ (hw _ (List.mem_of_getElem? (i := 111) rfl))) (by decide) (backOf (W := 0) (rm10_y l Z a0 hw [] z_17 s_MIN T17.heap n0 O F_o_z_c17) hZ (hw _ (List.mem_of_getElem? (i := 113) rfl)) (hw _ (List.mem_of_getElem? (i := 92) rfl)) (by decide) (by decide)) q18a q18c (g := (mkF m 507 (own_F6 i i1 i2 i3 i4 i5 (i &&& (3 : Int32)) b6 s_MIN ca cb cc) [.null, (.ref z_17)])) rfl (by rw [hml]; rfl) (Steps.refl _) (argsL := [.null]) (rest := []) (lenOf pd__40Ljava_47lang_47Object_59_41Ljava_47lang_47Object_59 rfl) rfl (by show 2 * 0 + _ ≤ _; exact Nat.le_of_eq rfl) (hb hby at_507) (fun _ _ => ⟨rfl, rfl, (by decide : 21 + 0 ≤ _), (by decide : 263 + 0 ≤ _)⟩)
        dsimp only [Pt.U, Pt.locs, Pt.cells, Pt.slots] at X18 l18 y18 z18 st18 hQ18
        have X18 := own_un X18 l18 y18 z18
        obtain ⟨rfl, N18q, eh18⟩ := hQ18
        have N18 := Fr.app N17 N18q
        have E_s_MIN := o_E_s_MIN.ext O.2
        obtain ⟨T19, X19, e19, st19⟩ := castY X18 hx hZ hown (hw _ (List.mem_of_getElem? (i := 32) rfl)) eh18 (Ins.self E_s_MIN) (g := (mkF m 510 (own_F6 i i1 i2 i3 i4 i5 (i &&& (3 : Int32)) b6 s_MIN ca cb cc) [(.ref s_MIN)])) rfl rfl (hb hby at_510)
        have w20 : ∀ t, Steps p.tables e below (T19.setTop (mkF m 527 (own_F7 i i1 i2 i3 i4 i5 (i &&& (3 : Int32)) b6 s_MIN s_MIN cb cc) [(.int (1 : Int32))])) t → Steps p.tables e below (s₁.setTop (entryFrame m #[(.int i), (.int i1), (.int i2), (.int i3), (.int i4), (.int i5)] maxLocals)) t := fun t k => by
          refine w16 t ?_
          refine XS.astore X15.here hx rfl (hb hby at_373) rfl rfl (l' := (own_F6 i i1 i2 i3 i4 i5 (i &&& (3 : Int32)) b6 s_MIN ca cb cc)) rfl ?_
          show Steps p.tables e below (T15.setTop (mkF m 375 (own_F6 i i1 i2 i3 i4 i5 (i &&& (3 : Int32)) b6 s_MIN ca cb cc) [])) _
          refine XS.goto X15.here hx rfl (pc0 := 375) (pc' := 501) rfl (hb hby at_375) (by decide) (by decide) ?_
          show Steps p.tables e below (T15.setTop (mkF m 501 (own_F6 i i1 i2 i3 i4 i5 (i &&& (3 : Int32)) b6 s_MIN ca cb cc) [])) _
          refine XS.aload X15.here hx rfl (hb hby at_501) rfl rfl ?_
          show Steps p.tables e below (T15.setTop (mkF m 503 (own_F6 i i1 i2 i3 i4 i5 (i &&& (3 : Int32)) b6 s_MIN ca cb cc) [(.ref b6)])) _
          refine st17.trans ?_
          show Steps p.tables e below (T17.setTop (mkF m 506 (own_F6 i i1 i2 i3 i4 i5 (i &&& (3 : Int32)) b6 s_MIN ca cb cc) [(.ref z_17)])) _
          refine XS.aconstNull X17.here hx rfl (hb hby at_506) ?_
          show Steps p.tables e below (T17.setTop (mkF m 507 (own_F6 i i1 i2 i3 i4 i5 (i &&& (3 : Int32)) b6 s_MIN ca cb cc) [.null, (.ref z_17)])) _
          refine st18.trans ?_
          show Steps p.tables e below (T18.setTop (mkF m 510 (own_F6 i i1 i2 i3 i4 i5 (i &&& (3 : Int32)) b6 s_MIN ca cb cc) [(.ref s_MIN)])) _
          refine st19 _ ?_
          show Steps p.tables e below (T19.setTop (mkF m 513 (own_F6 i i1 i2 i3 i4 i5 (i &&& (3 : Int32)) b6 s_MIN ca cb cc) [(.ref s_MIN)])) _
          refine XS.astore X19.here hx rfl (hb hby at_513) rfl rfl (l' := (own_F7 i i1 i2 i3 i4 i5 (i &&& (3 : Int32)) b6 s_MIN s_MIN cb cc)) rfl ?_
          show Steps p.tables e below (T19.setTop (mkF m 515 (own_F7 i i1 i2 i3 i4 i5 (i &&& (3 : Int32)) b6 s_MIN s_MIN cb cc) [])) _
          refine XS.aload X19.here hx rfl (hb hby at_515) rfl rfl ?_
          show Steps p.tables e below (T19.setTop (mkF m 517 (own_F7 i i1 i2 i3 i4 i5 (i &&& (3 : Int32)) b6 s_MIN s_MIN cb cc) [(.ref s_MIN)])) _
          refine XS.aload X19.here hx rfl (hb hby at_517) rfl rfl ?_
          show Steps p.tables e below (T19.setTop (mkF m 519 (own_F7 i i1 i2 i3 i4 i5 (i &&& (3 : Int32)) b6 s_MIN s_MIN cb cc) [(.ref s_MIN), (.ref s_MIN)])) _
          refine Jvm.RoadKit.acmp (g := (mkF m 519 (own_F7 i i1 i2 i3 i4 i5 (i &&& (3 : Int32)) b6 s_MIN s_MIN cb cc) [(.ref s_MIN), (.ref s_MIN)])) X19 hx rfl rfl rfl (pc0 := 519) (pc' := 522) (same := true) rfl (hb hby at_519) rfl (decide_eq_true rfl) (by decide) (by decide) ?_
          show Steps p.tables e below (T19.setTop (mkF m 522 (own_F7 i i1 i2 i3 i4 i5 (i &&& (3 : Int32)) b6 s_MIN s_MIN cb cc) [])) _
          refine XS.iconst X19.here hx rfl (hb hby at_522) ?_
          show Steps p.tables e below (T19.setTop (mkF m 523 (own_F7 i i1 i2 i3 i4 i5 (i &&& (3 : Int32)) b6 s_MIN s_MIN cb cc) [(.int (1 : Int32))])) _
          refine XS.goto X19.here hx rfl (pc0 := 523) (pc' := 527) rfl (hb hby at_523) (by decide) (by decide) ?_
          show Steps p.tables e below (T19.setTop (mkF m 527 (own_F7 i i1 i2 i3 i4 i5 (i &&& (3 : Int32)) b6 s_MIN s_MIN cb cc) [(.int (1 : Int32))])) _
          exact k
        obtain ⟨fs, hr, hrun, hended, hE⟩ := Stand.leaveW (s := s) (vm₁ := T17.vm) X19 hS (by rw [e19]; exact hk) (v := some (.int (1 : Int32))) (fun h => by rw [Bd.returns] at h; cases h)
        refine ⟨_, _, w20 _ ?_, hrun, hended, _, _, rfl, ?_, ?_, own_mono hE (by decide) (by decide)⟩
        · exact retN X19 hx (t := .boolean) Bd.returns (by simp) (hb hby at_527) hr
        · show Q0 Z i i1 i2 i3 i4 i5 kv zc s_VALUES s_COUNT s_SUM_INTEGER s_SUM_LONG s_SUM_DOUBLE s_SUM_BIG_DECIMAL s_MIN s_MAX s_AVG s_EMPTY h0 n0 _ T19.heap _
          rw [e19]
          exact ⟨rfl, N18⟩
        · rw [hh]; show CHr Z consts_1 s.vm h0 T19.vm T19.heap; rw [e19]; exact C.trans (CHv.at X19 hZ hEL C.1)
      · rw [hv] at w16
        obtain ⟨_, _, ⟨T21, L21, k21, n21⟩, -, X21, sn21, gr21, ⟨Lc21, hQ21, l21, y21, z21, R21⟩, st21⟩ := callSS X15 hx (y := (⟨"com/example/querent/querent/translation/Aggregation", "of", "(Ljava/lang/String;)Ljava/util/Optional;"⟩ : MethodName)) hown (mvT hZ (hw _ (List.mem_of_getElem? (i := 52) rfl))) (mvT hZ (hw _ (List.mem_of_getElem? (i := 53) rfl))) (mvT hZ (hw _ (List.mem_of_getElem? (i := 35) rfl))) (mvT hZ (hw _ (List.mem_of_getElem? (i := 54) rfl))) (by decide) (backOfSH (W := 0) (rm1 l Z a0 hw [] b6 t14 kb14 ([ca, cb, cc] : List Int32) (Int32.ofNat ([ca, cb, cc] : List Int32).length) ((([ca, cb, cc] : List Int32).map (fun c => c.toInt8.toInt32)).map Value.int) kv zc s_VALUES s_COUNT s_SUM_INTEGER s_SUM_LONG s_SUM_DOUBLE s_SUM_BIG_DECIMAL s_MIN s_MAX s_AVG s_EMPTY T14.heap n0 O S_s_VALUES S_s_COUNT S_s_SUM_INTEGER S_s_SUM_LONG S_s_SUM_DOUBLE S_s_SUM_BIG_DECIMAL S_s_MIN S_s_MAX S_s_AVG S_s_EMPTY Ex14 Fv14 Fc14 Av14 (StrChars.Road.codOf rfl (fun c hc => (hp_b6 c hc).2)) (own_up hp_b6) (Nat.le_trans h9_b6.2 (by decide)) o_E_s_VALUES o_V_s_VALUES o_E_s_EMPTY o_F_o_s_EMPTY o_E_s_COUNT o_F_ordinal_s_COUNT o_E_s_SUM_INTEGER o_F_ordinal_s_SUM_INTEGER o_E_s_SUM_LONG o_F_ordinal_s_SUM_LONG o_E_s_SUM_DOUBLE o_F_ordinal_s_SUM_DOUBLE o_E_s_SUM_BIG_DECIMAL o_F_ordinal_s_SUM_BIG_DECIMAL o_E_s_MIN o_F_ordinal_s_MIN o_E_s_MAX o_F_ordinal_s_MAX o_E_s_AVG o_F_ordinal_s_AVG SC hzc) hZ (hw _ (List.mem_of_getElem? (i := 54) rfl)) (hw _ (List.mem_of_getElem? (i := 35) rfl)) (by decide) (by decide) hEL C.1) (g := (mkF m 503 (own_F6 i i1 i2 i3 i4 i5 (i &&& (3 : Int32)) b6 s_MAX ca cb cc) [(.ref b6)])) rfl (by rw [hml]; rfl) (argsL := [(.ref b6)]) (rest := []) (lenOf pd__40Ljava_47lang_47String_59_41Ljava_47util_47Optional_59 rfl) rfl (by show 2 * 0 + _ ≤ _; exact Nat.le_of_eq rfl) (hb hby at_503) (fun _ _ => ⟨rfl, eh15, (by decide : 3 + 18 ≤ _), (by decide : 10 + 253 ≤ _)⟩)
        dsimp only [Pt.U, Pt.locs, Pt.cells, Pt.slots] at X21 l21 y21 z21 st21 hQ21 sn21 gr21 R21
        have X21 := own_un X21 l21 y21 z21
        obtain ⟨X21, hS, hZ, hown⟩ := rebS hS (by rw [eh15]; exact hk) X21 sn21 gr21 hZ hown
        obtain ⟨z_21, rfl, N21q, K21, E_z_c21, F_o_z_c21⟩ := hQ21
        have N21 := Fr.app N15 N21q
        have R := R21
        have sf_b6 := R.safe Ex14.lt sf_b6
        have sf_b7 := R.safe V_b7.lt sf_b7
        have C := C.trans R
        have hk : T21.heap.size ≤ T21.heap.size := Nat.le_refl _
        have Ex14 := Ex14.keep K21
        have V_b7 := V_b7.keep K21 nin0
        have Fc14 := Fc14.keep K21 nin0
        have Fv14 := Fv14.keep K21 nin0
        have Av14 := Av14.keep K21 nin0
        have O := O.keep K21 all0
        rw [(by rw [q1, q2, q3]; exact own_agn_6 (.ref s_COUNT) (.ref s_SUM_INTEGER) (.ref s_SUM_LONG) (.ref s_SUM_DOUBLE) (.ref s_SUM_BIG_DECIMAL) (.ref s_MIN) (.ref s_MAX) (.ref s_AVG) : own_ag ([ca, cb, cc] : List Int32) (.ref s_COUNT) (.ref s_SUM_INTEGER) (.ref s_SUM_LONG) (.ref s_SUM_DOUBLE) (.ref s_SUM_BIG_DECIMAL) (.ref s_MIN) (.ref s_MAX) (.ref s_AVG) = .ref s_MAX)] at F_o_z_c21
        obtain ⟨cq22, kq22, q22a, q22b, q22c⟩ := isOf hZ rfl E_z_c21
        obtain ⟨_, _, ⟨T22, L22, k22, n22⟩, -, X22, ⟨Lc22, hQ22, l22, y22, z22⟩, st22⟩ := X21.virtualBack hx (y := (⟨"java/util/Optional", "orElse", "(Ljava/lang/Object;)Ljava/lang/Object;"⟩ : MethodName)) (z := (⟨"java/util/Optional", "orElse", "(Ljava/lang/Object;)Ljava/lang/Object;"⟩ : MethodName)) hown (mvT hZ (hw _ (List.mem_of_getElem? (i := 109) rfl))) (mvT hZ (hw _ (List.mem_of_getElem? (i := 110) rfl))) (notFace_of_selects (args := #[]) (mvT hZ (hw _ (List.mem_of_getElem? (i := 112) rfl)))) (mvT hZ (hw _ (List.mem_of_getElem? (i := 112) rfl))) (mvT hZ (hw _ (List.mem_of_getElem? (i := 111) rfl))) (by decide) (backOf (W := 0) (rm10_y l Z a0 hw [] z_21 s_MAX T21.heap n0 O F_o_z_c21) hZ (hw _ (List.mem_of_getElem? (i := 113) rfl)) (hw _ (List.mem_of_getElem? (i := 92) rfl)) (by decide) (by decide)) q22a q22c (g := (mkF m 507 (own_F6 i i1 i2 i3 i4 i5 (i &&& (3 : Int32)) b6 s_MAX ca cb cc) [.null, (.ref z_21)])) rfl (by rw [hml]; rfl) (Steps.refl _) (argsL := [.null]) (rest := []) (lenOf pd__40Ljava_47lang_47Object_59_41Ljava_47lang_47Object_59 rfl) rfl (by show 2 * 0 + _ ≤ _; exact Nat.le_of_eq rfl) (hb hby at_507) (fun _ _ => ⟨rfl, rfl, (by decide : 21 + 0 ≤ _), (by decide : 263 + 0 ≤ _)⟩)
        dsimp only [Pt.U, Pt.locs, Pt.cells, Pt.slots] at X22 l22 y22 z22 st22 hQ22
        have X22 := own_un X22 l22 y22 z22
        obtain ⟨rfl, N22q, eh22⟩ := hQ22
        have N22 := Fr.app N21 N22q
        have E_s_MAX := o_E_s_MAX.ext O.2
        obtain ⟨T23, X23, e23, st23⟩ := castY X22 hx hZ hown (hw _ (List.mem_of_getElem? (i := 32) rfl)) eh22 (Ins.self E_s_MAX) (g := (mkF m 510 (own_F6 i i1 i2 i3 i4 i5 (i &&& (3 : Int32)) b6 s_MAX ca cb cc) [(.ref s_MAX)])) rfl rfl (hb hby at_510)
        have w24 : ∀ t, Steps p.tables e below (T23.setTop (mkF m 527 (own_F7 i i1 i2 i3 i4 i5 (i &&& (3 : Int32)) b6 s_MAX s_MAX cb cc) [(.int (1 : Int32))])) t → Steps p.tables e below (s₁.setTop (entryFrame m #[(.int i), (.int i1), (.int i2), (.int i3), (.int i4), (.int i5)] maxLocals)) t := fun t k => by
          refine w16 t ?_
          refine XS.astore X15.here hx rfl (hb hby at_373) rfl rfl (l' := (own_F6 i i1 i2 i3 i4 i5 (i &&& (3 : Int32)) b6 s_MAX ca cb cc)) rfl ?_
          show Steps p.tables e below (T15.setTop (mkF m 375 (own_F6 i i1 i2 i3 i4 i5 (i &&& (3 : Int32)) b6 s_MAX ca cb cc) [])) _
          refine XS.goto X15.here hx rfl (pc0 := 375) (pc' := 501) rfl (hb hby at_375) (by decide) (by decide) ?_
          show Steps p.tables e below (T15.setTop (mkF m 501 (own_F6 i i1 i2 i3 i4 i5 (i &&& (3 : Int32)) b6 s_MAX ca cb cc) [])) _
          refine XS.aload X15.here hx rfl (hb hby at_501) rfl rfl ?_
          show Steps p.tables e below (T15.setTop (mkF m 503 (own_F6 i i1 i2 i3 i4 i5 (i &&& (3 : Int32)) b6 s_MAX ca cb cc) [(.ref b6)])) _
          refine st21.trans ?_
          show Steps p.tables e below (T21.setTop (mkF m 506 (own_F6 i i1 i2 i3 i4 i5 (i &&& (3 : Int32)) b6 s_MAX ca cb cc) [(.ref z_21)])) _
          refine XS.aconstNull X21.here hx rfl (hb hby at_506) ?_
          show Steps p.tables e below (T21.setTop (mkF m 507 (own_F6 i i1 i2 i3 i4 i5 (i &&& (3 : Int32)) b6 s_MAX ca cb cc) [.null, (.ref z_21)])) _
          refine st22.trans ?_
          show Steps p.tables e below (T22.setTop (mkF m 510 (own_F6 i i1 i2 i3 i4 i5 (i &&& (3 : Int32)) b6 s_MAX ca cb cc) [(.ref s_MAX)])) _
          refine st23 _ ?_
          show Steps p.tables e below (T23.setTop (mkF m 513 (own_F6 i i1 i2 i3 i4 i5 (i &&& (3 : Int32)) b6 s_MAX ca cb cc) [(.ref s_MAX)])) _
          refine XS.astore X23.here hx rfl (hb hby at_513) rfl rfl (l' := (own_F7 i i1 i2 i3 i4 i5 (i &&& (3 : Int32)) b6 s_MAX s_MAX cb cc)) rfl ?_
          show Steps p.tables e below (T23.setTop (mkF m 515 (own_F7 i i1 i2 i3 i4 i5 (i &&& (3 : Int32)) b6 s_MAX s_MAX cb cc) [])) _
          refine XS.aload X23.here hx rfl (hb hby at_515) rfl rfl ?_
          show Steps p.tables e below (T23.setTop (mkF m 517 (own_F7 i i1 i2 i3 i4 i5 (i &&& (3 : Int32)) b6 s_MAX s_MAX cb cc) [(.ref s_MAX)])) _
          refine XS.aload X23.here hx rfl (hb hby at_517) rfl rfl ?_
          show Steps p.tables e below (T23.setTop (mkF m 519 (own_F7 i i1 i2 i3 i4 i5 (i &&& (3 : Int32)) b6 s_MAX s_MAX cb cc) [(.ref s_MAX), (.ref s_MAX)])) _
          refine Jvm.RoadKit.acmp (g := (mkF m 519 (own_F7 i i1 i2 i3 i4 i5 (i &&& (3 : Int32)) b6 s_MAX s_MAX cb cc) [(.ref s_MAX), (.ref s_MAX)])) X23 hx rfl rfl rfl (pc0 := 519) (pc' := 522) (same := true) rfl (hb hby at_519) rfl (decide_eq_true rfl) (by decide) (by decide) ?_
          show Steps p.tables e below (T23.setTop (mkF m 522 (own_F7 i i1 i2 i3 i4 i5 (i &&& (3 : Int32)) b6 s_MAX s_MAX cb cc) [])) _
          refine XS.iconst X23.here hx rfl (hb hby at_522) ?_
          show Steps p.tables e below (T23.setTop (mkF m 523 (own_F7 i i1 i2 i3 i4 i5 (i &&& (3 : Int32)) b6 s_MAX s_MAX cb cc) [(.int (1 : Int32))])) _
          refine XS.goto X23.here hx rfl (pc0 := 523) (pc' := 527) rfl (hb hby at_523) (by decide) (by decide) ?_
          show Steps p.tables e below (T23.setTop (mkF m 527 (own_F7 i i1 i2 i3 i4 i5 (i &&& (3 : Int32)) b6 s_MAX s_MAX cb cc) [(.int (1 : Int32))])) _
          exact k
        obtain ⟨fs, hr, hrun, hended, hE⟩ := Stand.leaveW (s := s) (vm₁ := T21.vm) X23 hS (by rw [e23]; exact hk) (v := some (.int (1 : Int32))) (fun h => by rw [Bd.returns] at h; cases h)
        refine ⟨_, _, w24 _ ?_, hrun, hended, _, _, rfl, ?_, ?_, own_mono hE (by decide) (by decide)⟩
        · exact retN X23 hx (t := .boolean) Bd.returns (by simp) (hb hby at_527) hr
        · show Q0 Z i i1 i2 i3 i4 i5 kv zc s_VALUES s_COUNT s_SUM_INTEGER s_SUM_LONG s_SUM_DOUBLE s_SUM_BIG_DECIMAL s_MIN s_MAX s_AVG s_EMPTY h0 n0 _ T23.heap _
          rw [e23]
          exact ⟨rfl, N22⟩
        · rw [hh]; show CHr Z consts_1 s.vm h0 T23.vm T23.heap; rw [e23]; exact C.trans (CHv.at X23 hZ hEL C.1)
      · rw [hv] at w16
        obtain ⟨_, _, ⟨T25, L25, k25, n25⟩, -, X25, sn25, gr25, ⟨Lc25, hQ25, l25, y25, z25, R25⟩, st25⟩ := callSS X15 hx (y := (⟨"com/example/querent/querent/translation/Aggregation", "of", "(Ljava/lang/String;)Ljava/util/Optional;"⟩ : MethodName)) hown (mvT hZ (hw _ (List.mem_of_getElem? (i := 52) rfl))) (mvT hZ (hw _ (List.mem_of_getElem? (i := 53) rfl))) (mvT hZ (hw _ (List.mem_of_getElem? (i := 35) rfl))) (mvT hZ (hw _ (List.mem_of_getElem? (i := 54) rfl))) (by decide) (backOfSH (W := 0) (rm1 l Z a0 hw [] b6 t14 kb14 ([ca, cb, cc] : List Int32) (Int32.ofNat ([ca, cb, cc] : List Int32).length) ((([ca, cb, cc] : List Int32).map (fun c => c.toInt8.toInt32)).map Value.int) kv zc s_VALUES s_COUNT s_SUM_INTEGER s_SUM_LONG s_SUM_DOUBLE s_SUM_BIG_DECIMAL s_MIN s_MAX s_AVG s_EMPTY T14.heap n0 O S_s_VALUES S_s_COUNT S_s_SUM_INTEGER S_s_SUM_LONG S_s_SUM_DOUBLE S_s_SUM_BIG_DECIMAL S_s_MIN S_s_MAX S_s_AVG S_s_EMPTY Ex14 Fv14 Fc14 Av14 (StrChars.Road.codOf rfl (fun c hc => (hp_b6 c hc).2)) (own_up hp_b6) (Nat.le_trans h9_b6.2 (by decide)) o_E_s_VALUES o_V_s_VALUES o_E_s_EMPTY o_F_o_s_EMPTY o_E_s_COUNT o_F_ordinal_s_COUNT o_E_s_SUM_INTEGER o_F_ordinal_s_SUM_INTEGER o_E_s_SUM_LONG o_F_ordinal_s_SUM_LONG o_E_s_SUM_DOUBLE o_F_ordinal_s_SUM_DOUBLE o_E_s_SUM_BIG_DECIMAL o_F_ordinal_s_SUM_BIG_DECIMAL o_E_s_MIN o_F_ordinal_s_MIN o_E_s_MAX o_F_ordinal_s_MAX o_E_s_AVG o_F_ordinal_s_AVG SC hzc) hZ (hw _ (List.mem_of_getElem? (i := 54) rfl)) (hw _ (List.mem_of_getElem? (i := 35) rfl)) (by decide) (by decide) hEL C.1) (g := (mkF m 503 (own_F6 i i1 i2 i3 i4 i5 (i &&& (3 : Int32)) b6 s_AVG ca cb cc) [(.ref b6)])) rfl (by rw [hml]; rfl) (argsL := [(.ref b6)]) (rest := []) (lenOf pd__40Ljava_47lang_47String_59_41Ljava_47util_47Optional_59 rfl) rfl (by show 2 * 0 + _ ≤ _; exact Nat.le_of_eq rfl) (hb hby at_503) (fun _ _ => ⟨rfl, eh15, (by decide : 3 + 18 ≤ _), (by decide : 10 + 253 ≤ _)⟩)
        dsimp only [Pt.U, Pt.locs, Pt.cells, Pt.slots] at X25 l25 y25 z25 st25 hQ25 sn25 gr25 R25
        have X25 := own_un X25 l25 y25 z25
        obtain ⟨X25, hS, hZ, hown⟩ := rebS hS (by rw [eh15]; exact hk) X25 sn25 gr25 hZ hown
        obtain ⟨z_25, rfl, N25q, K25, E_z_c25, F_o_z_c25⟩ := hQ25
        have N25 := Fr.app N15 N25q
        have R := R25
        have sf_b6 := R.safe Ex14.lt sf_b6
        have sf_b7 := R.safe V_b7.lt sf_b7
        have C := C.trans R
        have hk : T25.heap.size ≤ T25.heap.size := Nat.le_refl _
        have Ex14 := Ex14.keep K25
        have V_b7 := V_b7.keep K25 nin0
        have Fc14 := Fc14.keep K25 nin0
        have Fv14 := Fv14.keep K25 nin0
        have Av14 := Av14.keep K25 nin0
        have O := O.keep K25 all0
        rw [(by rw [q1, q2, q3]; exact own_agn_7 (.ref s_COUNT) (.ref s_SUM_INTEGER) (.ref s_SUM_LONG) (.ref s_SUM_DOUBLE) (.ref s_SUM_BIG_DECIMAL) (.ref s_MIN) (.ref s_MAX) (.ref s_AVG) : own_ag ([ca, cb, cc] : List Int32) (.ref s_COUNT) (.ref s_SUM_INTEGER) (.ref s_SUM_LONG) (.ref s_SUM_DOUBLE) (.ref s_SUM_BIG_DECIMAL) (.ref s_MIN) (.ref s_MAX) (.ref s_AVG) = .ref s_AVG)] at F_o_z_c25
        obtain ⟨cq26, kq26, q26a, q26b, q26c⟩ := isOf hZ rfl E_z_c25
        obtain ⟨_, _, ⟨T26, L26, k26, n26⟩, -, X26, ⟨Lc26, hQ26, l26, y26, z26⟩, st26⟩ := X25.virtualBack hx (y := (⟨"java/util/Optional", "orElse", "(Ljava/lang/Object;)Ljava/lang/Object;"⟩ : MethodName)) (z := (⟨"java/util/Optional", "orElse", "(Ljava/lang/Object;)Ljava/lang/Object;"⟩ : MethodName)) hown (mvT hZ (hw _ (List.mem_of_getElem? (i := 109) rfl))) (mvT hZ (hw _ (List.mem_of_getElem? (i := 110) rfl))) (notFace_of_selects (args := #[]) (mvT hZ (hw _ (List.mem_of_getElem? (i := 112) rfl)))) (mvT hZ (hw _ (List.mem_of_getElem? (i := 112) rfl))) (mvT hZ (hw _ (List.mem_of_getElem? (i := 111) rfl))) (by decide) (backOf (W := 0) (rm10_y l Z a0 hw [] z_25 s_AVG T25.heap n0 O F_o_z_c25) hZ (hw _ (List.mem_of_getElem? (i := 113) rfl)) (hw _ (List.mem_of_getElem? (i := 92) rfl)) (by decide) (by decide)) q26a q26c (g := (mkF m 507 (own_F6 i i1 i2 i3 i4 i5 (i &&& (3 : Int32)) b6 s_AVG ca cb cc) [.null, (.ref z_25)])) rfl (by rw [hml]; rfl) (Steps.refl _) (argsL := [.null]) (rest := []) (lenOf pd__40Ljava_47lang_47Object_59_41Ljava_47lang_47Object_59 rfl) rfl (by show 2 * 0 + _ ≤ _; exact Nat.le_of_eq rfl) (hb hby at_507) (fun _ _ => ⟨rfl, rfl, (by decide : 21 + 0 ≤ _), (by decide : 263 + 0 ≤ _)⟩)
        dsimp only [Pt.U, Pt.locs, Pt.cells, Pt.slots] at X26 l26 y26 z26 st26 hQ26
        have X26 := own_un X26 l26 y26 z26
        obtain ⟨rfl, N26q, eh26⟩ := hQ26
        have N26 := Fr.app N25 N26q
        have E_s_AVG := o_E_s_AVG.ext O.2
        obtain ⟨T27, X27, e27, st27⟩ := castY X26 hx hZ hown (hw _ (List.mem_of_getElem? (i := 32) rfl)) eh26 (Ins.self E_s_AVG) (g := (mkF m 510 (own_F6 i i1 i2 i3 i4 i5 (i &&& (3 : Int32)) b6 s_AVG ca cb cc) [(.ref s_AVG)])) rfl rfl (hb hby at_510)
        have w28 : ∀ t, Steps p.tables e below (T27.setTop (mkF m 527 (own_F7 i i1 i2 i3 i4 i5 (i &&& (3 : Int32)) b6 s_AVG s_AVG cb cc) [(.int (1 : Int32))])) t → Steps p.tables e below (s₁.setTop (entryFrame m #[(.int i), (.int i1), (.int i2), (.int i3), (.int i4), (.int i5)] maxLocals)) t := fun t k => by
          refine w16 t ?_
          refine XS.astore X15.here hx rfl (hb hby at_373) rfl rfl (l' := (own_F6 i i1 i2 i3 i4 i5 (i &&& (3 : Int32)) b6 s_AVG ca cb cc)) rfl ?_
          show Steps p.tables e below (T15.setTop (mkF m 375 (own_F6 i i1 i2 i3 i4 i5 (i &&& (3 : Int32)) b6 s_AVG ca cb cc) [])) _
          refine XS.goto X15.here hx rfl (pc0 := 375) (pc' := 501) rfl (hb hby at_375) (by decide) (by decide) ?_
          show Steps p.tables e below (T15.setTop (mkF m 501 (own_F6 i i1 i2 i3 i4 i5 (i &&& (3 : Int32)) b6 s_AVG ca cb cc) [])) _
          refine XS.aload X15.here hx rfl (hb hby at_501) rfl rfl ?_
          show Steps p.tables e below (T15.setTop (mkF m 503 (own_F6 i i1 i2 i3 i4 i5 (i &&& (3 : Int32)) b6 s_AVG ca cb cc) [(.ref b6)])) _
          refine st25.trans ?_
          show Steps p.tables e below (T25.setTop (mkF m 506 (own_F6 i i1 i2 i3 i4 i5 (i &&& (3 : Int32)) b6 s_AVG ca cb cc) [(.ref z_25)])) _
          refine XS.aconstNull X25.here hx rfl (hb hby at_506) ?_
          show Steps p.tables e below (T25.setTop (mkF m 507 (own_F6 i i1 i2 i3 i4 i5 (i &&& (3 : Int32)) b6 s_AVG ca cb cc) [.null, (.ref z_25)])) _
          refine st26.trans ?_
          show Steps p.tables e below (T26.setTop (mkF m 510 (own_F6 i i1 i2 i3 i4 i5 (i &&& (3 : Int32)) b6 s_AVG ca cb cc) [(.ref s_AVG)])) _
          refine st27 _ ?_
          show Steps p.tables e below (T27.setTop (mkF m 513 (own_F6 i i1 i2 i3 i4 i5 (i &&& (3 : Int32)) b6 s_AVG ca cb cc) [(.ref s_AVG)])) _
          refine XS.astore X27.here hx rfl (hb hby at_513) rfl rfl (l' := (own_F7 i i1 i2 i3 i4 i5 (i &&& (3 : Int32)) b6 s_AVG s_AVG cb cc)) rfl ?_
          show Steps p.tables e below (T27.setTop (mkF m 515 (own_F7 i i1 i2 i3 i4 i5 (i &&& (3 : Int32)) b6 s_AVG s_AVG cb cc) [])) _
          refine XS.aload X27.here hx rfl (hb hby at_515) rfl rfl ?_
          show Steps p.tables e below (T27.setTop (mkF m 517 (own_F7 i i1 i2 i3 i4 i5 (i &&& (3 : Int32)) b6 s_AVG s_AVG cb cc) [(.ref s_AVG)])) _
          refine XS.aload X27.here hx rfl (hb hby at_517) rfl rfl ?_
          show Steps p.tables e below (T27.setTop (mkF m 519 (own_F7 i i1 i2 i3 i4 i5 (i &&& (3 : Int32)) b6 s_AVG s_AVG cb cc) [(.ref s_AVG), (.ref s_AVG)])) _
          refine Jvm.RoadKit.acmp (g := (mkF m 519 (own_F7 i i1 i2 i3 i4 i5 (i &&& (3 : Int32)) b6 s_AVG s_AVG cb cc) [(.ref s_AVG), (.ref s_AVG)])) X27 hx rfl rfl rfl (pc0 := 519) (pc' := 522) (same := true) rfl (hb hby at_519) rfl (decide_eq_true rfl) (by decide) (by decide) ?_
          show Steps p.tables e below (T27.setTop (mkF m 522 (own_F7 i i1 i2 i3 i4 i5 (i &&& (3 : Int32)) b6 s_AVG s_AVG cb cc) [])) _
          refine XS.iconst X27.here hx rfl (hb hby at_522) ?_
          show Steps p.tables e below (T27.setTop (mkF m 523 (own_F7 i i1 i2 i3 i4 i5 (i &&& (3 : Int32)) b6 s_AVG s_AVG cb cc) [(.int (1 : Int32))])) _
          refine XS.goto X27.here hx rfl (pc0 := 523) (pc' := 527) rfl (hb hby at_523) (by decide) (by decide) ?_
          show Steps p.tables e below (T27.setTop (mkF m 527 (own_F7 i i1 i2 i3 i4 i5 (i &&& (3 : Int32)) b6 s_AVG s_AVG cb cc) [(.int (1 : Int32))])) _
          exact k
        obtain ⟨fs, hr, hrun, hended, hE⟩ := Stand.leaveW (s := s) (vm₁ := T25.vm) X27 hS (by rw [e27]; exact hk) (v := some (.int (1 : Int32))) (fun h => by rw [Bd.returns] at h; cases h)
        refine ⟨_, _, w28 _ ?_, hrun, hended, _, _, rfl, ?_, ?_, own_mono hE (by decide) (by decide)⟩
        · exact retN X27 hx (t := .boolean) Bd.returns (by simp) (hb hby at_527) hr
        · show Q0 Z i i1 i2 i3 i4 i5 kv zc s_VALUES s_COUNT s_SUM_INTEGER s_SUM_LONG s_SUM_DOUBLE s_SUM_BIG_DECIMAL s_MIN s_MAX s_AVG s_EMPTY h0 n0 _ T27.heap _
          rw [e27]
          exact ⟨rfl, N26⟩
        · rw [hh]; show CHr Z consts_1 s.vm h0 T27.vm T27.heap; rw [e27]; exact C.trans (CHv.at X27 hZ hEL C.1)
      · rw [hv] at w16
        obtain ⟨_, _, ⟨T29, L29, k29, n29⟩, -, X29, sn29, gr29, ⟨Lc29, hQ29, l29, y29, z29, R29⟩, st29⟩ := callSS X15 hx (y := (⟨"com/example/querent/querent/translation/Aggregation", "of", "(Ljava/lang/String;)Ljava/util/Optional;"⟩ : MethodName)) hown (mvT hZ (hw _ (List.mem_of_getElem? (i := 52) rfl))) (mvT hZ (hw _ (List.mem_of_getElem? (i := 53) rfl))) (mvT hZ (hw _ (List.mem_of_getElem? (i := 35) rfl))) (mvT hZ (hw _ (List.mem_of_getElem? (i := 54) rfl))) (by decide) (backOfSH (W := 0) (rm1 l Z a0 hw [] b6 t14 kb14 ([ca, cb, cc] : List Int32) (Int32.ofNat ([ca, cb, cc] : List Int32).length) ((([ca, cb, cc] : List Int32).map (fun c => c.toInt8.toInt32)).map Value.int) kv zc s_VALUES s_COUNT s_SUM_INTEGER s_SUM_LONG s_SUM_DOUBLE s_SUM_BIG_DECIMAL s_MIN s_MAX s_AVG s_EMPTY T14.heap n0 O S_s_VALUES S_s_COUNT S_s_SUM_INTEGER S_s_SUM_LONG S_s_SUM_DOUBLE S_s_SUM_BIG_DECIMAL S_s_MIN S_s_MAX S_s_AVG S_s_EMPTY Ex14 Fv14 Fc14 Av14 (StrChars.Road.codOf rfl (fun c hc => (hp_b6 c hc).2)) (own_up hp_b6) (Nat.le_trans h9_b6.2 (by decide)) o_E_s_VALUES o_V_s_VALUES o_E_s_EMPTY o_F_o_s_EMPTY o_E_s_COUNT o_F_ordinal_s_COUNT o_E_s_SUM_INTEGER o_F_ordinal_s_SUM_INTEGER o_E_s_SUM_LONG o_F_ordinal_s_SUM_LONG o_E_s_SUM_DOUBLE o_F_ordinal_s_SUM_DOUBLE o_E_s_SUM_BIG_DECIMAL o_F_ordinal_s_SUM_BIG_DECIMAL o_E_s_MIN o_F_ordinal_s_MIN o_E_s_MAX o_F_ordinal_s_MAX o_E_s_AVG o_F_ordinal_s_AVG SC hzc) hZ (hw _ (List.mem_of_getElem? (i := 54) rfl)) (hw _ (List.mem_of_getElem? (i := 35) rfl)) (by decide) (by decide) hEL C.1) (g := (mkF m 503 (own_F8 i i1 i2 i3 i4 i5 (i &&& (3 : Int32)) b6 ca cb cc) [(.ref b6)])) rfl (by rw [hml]; rfl) (argsL := [(.ref b6)]) (rest := []) (lenOf pd__40Ljava_47lang_47String_59_41Ljava_47util_47Optional_59 rfl) rfl (by show 2 * 0 + _ ≤ _; exact Nat.le_of_eq rfl) (hb hby at_503) (fun _ _ => ⟨rfl, eh15, (by decide : 3 + 18 ≤ _), (by decide : 10 + 253 ≤ _)⟩)
        dsimp only [Pt.U, Pt.locs, Pt.cells, Pt.slots] at X29 l29 y29 z29 st29 hQ29 sn29 gr29 R29
        have X29 := own_un X29 l29 y29 z29
        obtain ⟨X29, hS, hZ, hown⟩ := rebS hS (by rw [eh15]; exact hk) X29 sn29 gr29 hZ hown
        obtain ⟨z_29, rfl, N29q, K29, E_z_c29, F_o_z_c29⟩ := hQ29
        have N29 := Fr.app N15 N29q
        have R := R29
        have sf_b6 := R.safe Ex14.lt sf_b6
        have sf_b7 := R.safe V_b7.lt sf_b7
        have C := C.trans R
        have hk : T29.heap.size ≤ T29.heap.size := Nat.le_refl _
        have Ex14 := Ex14.keep K29
        have V_b7 := V_b7.keep K29 nin0
        have Fc14 := Fc14.keep K29 nin0
        have Fv14 := Fv14.keep K29 nin0
        have Av14 := Av14.keep K29 nin0
        have O := O.keep K29 all0
        rw [own_ag3 (.ref s_COUNT) (.ref s_SUM_INTEGER) (.ref s_SUM_LONG) (.ref s_SUM_DOUBLE) (.ref s_SUM_BIG_DECIMAL) (.ref s_MIN) (.ref s_MAX) (.ref s_AVG) q1 q2 q3] at F_o_z_c29
        obtain ⟨cq30, kq30, q30a, q30b, q30c⟩ := isOf hZ rfl E_z_c29
        obtain ⟨_, _, ⟨T30, L30, k30, n30⟩, -, X30, ⟨Lc30, hQ30, l30, y30, z30⟩, st30⟩ := X29.virtualBack hx (y := (⟨"java/util/Optional", "orElse", "(Ljava/lang/Object;)Ljava/lang/Object;"⟩ : MethodName)) (z := (⟨"java/util/Optional", "orElse", "(Ljava/lang/Object;)Ljava/lang/Object;"⟩ : MethodName)) hown (mvT hZ (hw _ (List.mem_of_getElem? (i := 109) rfl))) (mvT hZ (hw _ (List.mem_of_getElem? (i := 110) rfl))) (notFace_of_selects (args := #[]) (mvT hZ (hw _ (List.mem_of_getElem? (i := 112) rfl)))) (mvT hZ (hw _ (List.mem_of_getElem? (i := 112) rfl))) (mvT hZ (hw _ (List.mem_of_getElem? (i := 111) rfl))) (by decide) (backOf (W := 0) (rm10_n l Z a0 hw [] z_29 T29.heap n0 O F_o_z_c29) hZ (hw _ (List.mem_of_getElem? (i := 113) rfl)) (hw _ (List.mem_of_getElem? (i := 92) rfl)) (by decide) (by decide)) q30a q30c (g := (mkF m 507 (own_F8 i i1 i2 i3 i4 i5 (i &&& (3 : Int32)) b6 ca cb cc) [.null, (.ref z_29)])) rfl (by rw [hml]; rfl) (Steps.refl _) (argsL := [.null]) (rest := []) (lenOf pd__40Ljava_47lang_47Object_59_41Ljava_47lang_47Object_59 rfl) rfl (by show 2 * 0 + _ ≤ _; exact Nat.le_of_eq rfl) (hb hby at_507) (fun _ _ => ⟨rfl, rfl, (by decide : 21 + 0 ≤ _), (by decide : 263 + 0 ≤ _)⟩)
        dsimp only [Pt.U, Pt.locs, Pt.cells, Pt.slots] at X30 l30 y30 z30 st30 hQ30
        have X30 := own_un X30 l30 y30 z30
        obtain ⟨rfl, N30q, eh30⟩ := hQ30
        have N30 := Fr.app N29 N30q
        have w31 : ∀ t, Steps p.tables e below (T30.setTop (mkF m 527 (own_F9 i i1 i2 i3 i4 i5 (i &&& (3 : Int32)) b6 cb cc) [(.int (1 : Int32))])) t → Steps p.tables e below (s₁.setTop (entryFrame m #[(.int i), (.int i1), (.int i2), (.int i3), (.int i4), (.int i5)] maxLocals)) t := fun t k => by
          refine w16 t ?_
          refine XS.astore X15.here hx rfl (hb hby at_373) rfl rfl (l' := (own_F8 i i1 i2 i3 i4 i5 (i &&& (3 : Int32)) b6 ca cb cc)) rfl ?_
          show Steps p.tables e below (T15.setTop (mkF m 375 (own_F8 i i1 i2 i3 i4 i5 (i &&& (3 : Int32)) b6 ca cb cc) [])) _
          refine XS.goto X15.here hx rfl (pc0 := 375) (pc' := 501) rfl (hb hby at_375) (by decide) (by decide) ?_
          show Steps p.tables e below (T15.setTop (mkF m 501 (own_F8 i i1 i2 i3 i4 i5 (i &&& (3 : Int32)) b6 ca cb cc) [])) _
          refine XS.aload X15.here hx rfl (hb hby at_501) rfl rfl ?_
          show Steps p.tables e below (T15.setTop (mkF m 503 (own_F8 i i1 i2 i3 i4 i5 (i &&& (3 : Int32)) b6 ca cb cc) [(.ref b6)])) _
          refine st29.trans ?_
          show Steps p.tables e below (T29.setTop (mkF m 506 (own_F8 i i1 i2 i3 i4 i5 (i &&& (3 : Int32)) b6 ca cb cc) [(.ref z_29)])) _
          refine XS.aconstNull X29.here hx rfl (hb hby at_506) ?_
          show Steps p.tables e below (T29.setTop (mkF m 507 (own_F8 i i1 i2 i3 i4 i5 (i &&& (3 : Int32)) b6 ca cb cc) [.null, (.ref z_29)])) _
          refine st30.trans ?_
          show Steps p.tables e below (T30.setTop (mkF m 510 (own_F8 i i1 i2 i3 i4 i5 (i &&& (3 : Int32)) b6 ca cb cc) [.null])) _
          refine X30.checkcastNull hx (g := (mkF m 510 (own_F8 i i1 i2 i3 i4 i5 (i &&& (3 : Int32)) b6 ca cb cc) [.null])) rfl rfl (hb hby at_510) _ ?_
          show Steps p.tables e below (T30.setTop (mkF m 513 (own_F8 i i1 i2 i3 i4 i5 (i &&& (3 : Int32)) b6 ca cb cc) [.null])) _
          refine XS.astore X30.here hx rfl (hb hby at_513) rfl rfl (l' := (own_F9 i i1 i2 i3 i4 i5 (i &&& (3 : Int32)) b6 cb cc)) rfl ?_
          show Steps p.tables e below (T30.setTop (mkF m 515 (own_F9 i i1 i2 i3 i4 i5 (i &&& (3 : Int32)) b6 cb cc) [])) _
          refine XS.aload X30.here hx rfl (hb hby at_515) rfl rfl ?_
          show Steps p.tables e below (T30.setTop (mkF m 517 (own_F9 i i1 i2 i3 i4 i5 (i &&& (3 : Int32)) b6 cb cc) [.null])) _
          refine XS.aload X30.here hx rfl (hb hby at_517) rfl rfl ?_
          show Steps p.tables e below (T30.setTop (mkF m 519 (own_F9 i i1 i2 i3 i4 i5 (i &&& (3 : Int32)) b6 cb cc) [.null, .null])) _
          refine Jvm.RoadKit.acmp (g := (mkF m 519 (own_F9 i i1 i2 i3 i4 i5 (i &&& (3 : Int32)) b6 cb cc) [.null, .null])) X30 hx rfl rfl rfl (pc0 := 519) (pc' := 522) (same := true) rfl (hb hby at_519) rfl (decide_eq_true rfl) (by decide) (by decide) ?_
          show Steps p.tables e below (T30.setTop (mkF m 522 (own_F9 i i1 i2 i3 i4 i5 (i &&& (3 : Int32)) b6 cb cc) [])) _
          refine XS.iconst X30.here hx rfl (hb hby at_522) ?_
          show Steps p.tables e below (T30.setTop (mkF m 523 (own_F9 i i1 i2 i3 i4 i5 (i &&& (3 : Int32)) b6 cb cc) [(.int (1 : Int32))])) _
          refine XS.goto X30.here hx rfl (pc0 := 523) (pc' := 527) rfl (hb hby at_523) (by decide) (by decide) ?_
          show Steps p.tables e below (T30.setTop (mkF m 527 (own_F9 i i1 i2 i3 i4 i5 (i &&& (3 : Int32)) b6 cb cc) [(.int (1 : Int32))])) _
          exact k
        obtain ⟨fs, hr, hrun, hended, hE⟩ := Stand.leaveW (s := s) (vm₁ := T29.vm) X30 hS (by rw [eh30]; exact hk) (v := some (.int (1 : Int32))) (fun h => by rw [Bd.returns] at h; cases h)
        refine ⟨_, _, w31 _ ?_, hrun, hended, _, _, rfl, ?_, ?_, own_mono hE (by decide) (by decide)⟩
        · exact retN X30 hx (t := .boolean) Bd.returns (by simp) (hb hby at_527) hr
        · show Q0 Z i i1 i2 i3 i4 i5 kv zc s_VALUES s_COUNT s_SUM_INTEGER s_SUM_LONG s_SUM_DOUBLE s_SUM_BIG_DECIMAL s_MIN s_MAX s_AVG s_EMPTY h0 n0 _ T30.heap _
          rw [eh30]
          exact ⟨rfl, N30⟩
        · rw [hh]; show CHr Z consts_1 s.vm h0 T30.vm T30.heap; rw [eh30]; exact C.trans (CHv.at X30 hZ hEL C.1)
    · have w32 : ∀ t, Steps p.tables e below (s₁.setTop (mkF m 420 (own_F11 i i1 i2 i3 i4 i5 (i &&& (3 : Int32)) ((i1 &&& (255 : Int32)).toUInt32.toUInt16.toUInt32.toInt32) ((i2 &&& (255 : Int32)).toUInt32.toUInt16.toUInt32.toInt32) ((i3 &&& (255 : Int32)).toUInt32.toUInt16.toUInt32.toInt32) ((i4 &&& (255 : Int32)).toUInt32.toUInt16.toUInt32.toInt32) ((i5 &&& (255 : Int32)).toUInt32.toUInt16.toUInt32.toInt32)) [])) t → Steps p.tables e below (s₁.setTop (entryFrame m #[(.int i), (.int i1), (.int i2), (.int i3), (.int i4), (.int i5)] maxLocals)) t := fun t k => by
        refine w3 t ?_
        refine XS.icmpYes X0.here hx rfl (pc0 := 310) (pc' := 378) rfl (hb hby at_310) rfl (feq hc310_4).2 (by decide) (by decide) ?_
        show Steps p.tables e below (s₁.setTop (mkF m 378 (own_F1 i i1 i2 i3 i4 i5 (i &&& (3 : Int32))) [])) _
        refine XS.iloadN X0.here hx rfl (hb hby at_378) rfl ?_
        show Steps p.tables e below (s₁.setTop (mkF m 379 (own_F1 i i1 i2 i3 i4 i5 (i &&& (3 : Int32))) [(.int i1)])) _
        refine XS.sipush X0.here hx rfl (hb hby at_379) ?_
        show Steps p.tables e below (s₁.setTop (mkF m 382 (own_F1 i i1 i2 i3 i4 i5 (i &&& (3 : Int32))) [(.int (255 : Int32)), (.int i1)])) _
        refine XS.iand X0.here hx rfl (hb hby at_382) rfl ?_
        show Steps p.tables e below (s₁.setTop (mkF m 383 (own_F1 i i1 i2 i3 i4 i5 (i &&& (3 : Int32))) [(.int (i1 &&& (255 : Int32)))])) _
        refine XS.i2c X0.here hx rfl (hb hby at_383) rfl ?_
        show Steps p.tables e below (s₁.setTop (mkF m 384 (own_F1 i i1 i2 i3 i4 i5 (i &&& (3 : Int32))) [(.int ((i1 &&& (255 : Int32)).toUInt32.toUInt16.toUInt32.toInt32))])) _
        refine XS.istore X0.here hx rfl (hb hby at_384) rfl (l' := (own_F2 i i1 i2 i3 i4 i5 (i &&& (3 : Int32)) ((i1 &&& (255 : Int32)).toUInt32.toUInt16.toUInt32.toInt32))) rfl ?_
        show Steps p.tables e below (s₁.setTop (mkF m 386 (own_F2 i i1 i2 i3 i4 i5 (i &&& (3 : Int32)) ((i1 &&& (255 : Int32)).toUInt32.toUInt16.toUInt32.toInt32)) [])) _
        refine XS.iloadN X0.here hx rfl (hb hby at_386) rfl ?_
        show Steps p.tables e below (s₁.setTop (mkF m 387 (own_F2 i i1 i2 i3 i4 i5 (i &&& (3 : Int32)) ((i1 &&& (255 : Int32)).toUInt32.toUInt16.toUInt32.toInt32)) [(.int i2)])) _
        refine XS.sipush X0.here hx rfl (hb hby at_387) ?_
        show Steps p.tables e below (s₁.setTop (mkF m 390 (own_F2 i i1 i2 i3 i4 i5 (i &&& (3 : Int32)) ((i1 &&& (255 : Int32)).toUInt32.toUInt16.toUInt32.toInt32)) [(.int (255 : Int32)), (.int i2)])) _
        refine XS.iand X0.here hx rfl (hb hby at_390) rfl ?_
        show Steps p.tables e below (s₁.setTop (mkF m 391 (own_F2 i i1 i2 i3 i4 i5 (i &&& (3 : Int32)) ((i1 &&& (255 : Int32)).toUInt32.toUInt16.toUInt32.toInt32)) [(.int (i2 &&& (255 : Int32)))])) _
        refine XS.i2c X0.here hx rfl (hb hby at_391) rfl ?_
        show Steps p.tables e below (s₁.setTop (mkF m 392 (own_F2 i i1 i2 i3 i4 i5 (i &&& (3 : Int32)) ((i1 &&& (255 : Int32)).toUInt32.toUInt16.toUInt32.toInt32)) [(.int ((i2 &&& (255 : Int32)).toUInt32.toUInt16.toUInt32.toInt32))])) _
        refine XS.istore X0.here hx rfl (hb hby at_392) rfl (l' := (own_F3 i i1 i2 i3 i4 i5 (i &&& (3 : Int32)) ((i1 &&& (255 : Int32)).toUInt32.toUInt16.toUInt32.toInt32) ((i2 &&& (255 : Int32)).toUInt32.toUInt16.toUInt32.toInt32))) rfl ?_
        show Steps p.tables e below (s₁.setTop (mkF m 394 (own_F3 i i1 i2 i3 i4 i5 (i &&& (3 : Int32)) ((i1 &&& (255 : Int32)).toUInt32.toUInt16.toUInt32.toInt32) ((i2 &&& (255 : Int32)).toUInt32.toUInt16.toUInt32.toInt32)) [])) _
        refine XS.iloadN X0.here hx rfl (hb hby at_394) rfl ?_
        show Steps p.tables e below (s₁.setTop (mkF m 395 (own_F3 i i1 i2 i3 i4 i5 (i &&& (3 : Int32)) ((i1 &&& (255 : Int32)).toUInt32.toUInt16.toUInt32.toInt32) ((i2 &&& (255 : Int32)).toUInt32.toUInt16.toUInt32.toInt32)) [(.int i3)])) _
        refine XS.sipush X0.here hx rfl (hb hby at_395) ?_
        show Steps p.tables e below (s₁.setTop (mkF m 398 (own_F3 i i1 i2 i3 i4 i5 (i &&& (3 : Int32)) ((i1 &&& (255 : Int32)).toUInt32.toUInt16.toUInt32.toInt32) ((i2 &&& (255 : Int32)).toUInt32.toUInt16.toUInt32.toInt32)) [(.int (255 : Int32)), (.int i3)])) _
        refine XS.iand X0.here hx rfl (hb hby at_398) rfl ?_
        show Steps p.tables e below (s₁.setTop (mkF m 399 (own_F3 i i1 i2 i3 i4 i5 (i &&& (3 : Int32)) ((i1 &&& (255 : Int32)).toUInt32.toUInt16.toUInt32.toInt32) ((i2 &&& (255 : Int32)).toUInt32.toUInt16.toUInt32.toInt32)) [(.int (i3 &&& (255 : Int32)))])) _
        refine XS.i2c X0.here hx rfl (hb hby at_399) rfl ?_
        show Steps p.tables e below (s₁.setTop (mkF m 400 (own_F3 i i1 i2 i3 i4 i5 (i &&& (3 : Int32)) ((i1 &&& (255 : Int32)).toUInt32.toUInt16.toUInt32.toInt32) ((i2 &&& (255 : Int32)).toUInt32.toUInt16.toUInt32.toInt32)) [(.int ((i3 &&& (255 : Int32)).toUInt32.toUInt16.toUInt32.toInt32))])) _
        refine XS.istore X0.here hx rfl (hb hby at_400) rfl (l' := (own_F4 i i1 i2 i3 i4 i5 (i &&& (3 : Int32)) ((i1 &&& (255 : Int32)).toUInt32.toUInt16.toUInt32.toInt32) ((i2 &&& (255 : Int32)).toUInt32.toUInt16.toUInt32.toInt32) ((i3 &&& (255 : Int32)).toUInt32.toUInt16.toUInt32.toInt32))) rfl ?_
        show Steps p.tables e below (s₁.setTop (mkF m 402 (own_F4 i i1 i2 i3 i4 i5 (i &&& (3 : Int32)) ((i1 &&& (255 : Int32)).toUInt32.toUInt16.toUInt32.toInt32) ((i2 &&& (255 : Int32)).toUInt32.toUInt16.toUInt32.toInt32) ((i3 &&& (255 : Int32)).toUInt32.toUInt16.toUInt32.toInt32)) [])) _
        refine XS.iload X0.here hx rfl (hb hby at_402) rfl ?_
        show Steps p.tables e below (s₁.setTop (mkF m 404 (own_F4 i i1 i2 i3 i4 i5 (i &&& (3 : Int32)) ((i1 &&& (255 : Int32)).toUInt32.toUInt16.toUInt32.toInt32) ((i2 &&& (255 : Int32)).toUInt32.toUInt16.toUInt32.toInt32) ((i3 &&& (255 : Int32)).toUInt32.toUInt16.toUInt32.toInt32)) [(.int i4)])) _
        refine XS.sipush X0.here hx rfl (hb hby at_404) ?_
        show Steps p.tables e below (s₁.setTop (mkF m 407 (own_F4 i i1 i2 i3 i4 i5 (i &&& (3 : Int32)) ((i1 &&& (255 : Int32)).toUInt32.toUInt16.toUInt32.toInt32) ((i2 &&& (255 : Int32)).toUInt32.toUInt16.toUInt32.toInt32) ((i3 &&& (255 : Int32)).toUInt32.toUInt16.toUInt32.toInt32)) [(.int (255 : Int32)), (.int i4)])) _
        refine XS.iand X0.here hx rfl (hb hby at_407) rfl ?_
        show Steps p.tables e below (s₁.setTop (mkF m 408 (own_F4 i i1 i2 i3 i4 i5 (i &&& (3 : Int32)) ((i1 &&& (255 : Int32)).toUInt32.toUInt16.toUInt32.toInt32) ((i2 &&& (255 : Int32)).toUInt32.toUInt16.toUInt32.toInt32) ((i3 &&& (255 : Int32)).toUInt32.toUInt16.toUInt32.toInt32)) [(.int (i4 &&& (255 : Int32)))])) _
        refine XS.i2c X0.here hx rfl (hb hby at_408) rfl ?_
        show Steps p.tables e below (s₁.setTop (mkF m 409 (own_F4 i i1 i2 i3 i4 i5 (i &&& (3 : Int32)) ((i1 &&& (255 : Int32)).toUInt32.toUInt16.toUInt32.toInt32) ((i2 &&& (255 : Int32)).toUInt32.toUInt16.toUInt32.toInt32) ((i3 &&& (255 : Int32)).toUInt32.toUInt16.toUInt32.toInt32)) [(.int ((i4 &&& (255 : Int32)).toUInt32.toUInt16.toUInt32.toInt32))])) _
        refine XS.istore X0.here hx rfl (hb hby at_409) rfl (l' := (own_F10 i i1 i2 i3 i4 i5 (i &&& (3 : Int32)) ((i1 &&& (255 : Int32)).toUInt32.toUInt16.toUInt32.toInt32) ((i2 &&& (255 : Int32)).toUInt32.toUInt16.toUInt32.toInt32) ((i3 &&& (255 : Int32)).toUInt32.toUInt16.toUInt32.toInt32) ((i4 &&& (255 : Int32)).toUInt32.toUInt16.toUInt32.toInt32))) rfl ?_
        show Steps p.tables e below (s₁.setTop (mkF m 411 (own_F10 i i1 i2 i3 i4 i5 (i &&& (3 : Int32)) ((i1 &&& (255 : Int32)).toUInt32.toUInt16.toUInt32.toInt32) ((i2 &&& (255 : Int32)).toUInt32.toUInt16.toUInt32.toInt32) ((i3 &&& (255 : Int32)).toUInt32.toUInt16.toUInt32.toInt32) ((i4 &&& (255 : Int32)).toUInt32.toUInt16.toUInt32.toInt32)) [])) _
        refine XS.iload X0.here hx rfl (hb hby at_411) rfl ?_
        show Steps p.tables e below (s₁.setTop (mkF m 413 (own_F10 i i1 i2 i3 i4 i5 (i &&& (3 : Int32)) ((i1 &&& (255 : Int32)).toUInt32.toUInt16.toUInt32.toInt32) ((i2 &&& (255 : Int32)).toUInt32.toUInt16.toUInt32.toInt32) ((i3 &&& (255 : Int32)).toUInt32.toUInt16.toUInt32.toInt32) ((i4 &&& (255 : Int32)).toUInt32.toUInt16.toUInt32.toInt32)) [(.int i5)])) _
        refine XS.sipush X0.here hx rfl (hb hby at_413) ?_
        show Steps p.tables e below (s₁.setTop (mkF m 416 (own_F10 i i1 i2 i3 i4 i5 (i &&& (3 : Int32)) ((i1 &&& (255 : Int32)).toUInt32.toUInt16.toUInt32.toInt32) ((i2 &&& (255 : Int32)).toUInt32.toUInt16.toUInt32.toInt32) ((i3 &&& (255 : Int32)).toUInt32.toUInt16.toUInt32.toInt32) ((i4 &&& (255 : Int32)).toUInt32.toUInt16.toUInt32.toInt32)) [(.int (255 : Int32)), (.int i5)])) _
        refine XS.iand X0.here hx rfl (hb hby at_416) rfl ?_
        show Steps p.tables e below (s₁.setTop (mkF m 417 (own_F10 i i1 i2 i3 i4 i5 (i &&& (3 : Int32)) ((i1 &&& (255 : Int32)).toUInt32.toUInt16.toUInt32.toInt32) ((i2 &&& (255 : Int32)).toUInt32.toUInt16.toUInt32.toInt32) ((i3 &&& (255 : Int32)).toUInt32.toUInt16.toUInt32.toInt32) ((i4 &&& (255 : Int32)).toUInt32.toUInt16.toUInt32.toInt32)) [(.int (i5 &&& (255 : Int32)))])) _
        refine XS.i2c X0.here hx rfl (hb hby at_417) rfl ?_
        show Steps p.tables e below (s₁.setTop (mkF m 418 (own_F10 i i1 i2 i3 i4 i5 (i &&& (3 : Int32)) ((i1 &&& (255 : Int32)).toUInt32.toUInt16.toUInt32.toInt32) ((i2 &&& (255 : Int32)).toUInt32.toUInt16.toUInt32.toInt32) ((i3 &&& (255 : Int32)).toUInt32.toUInt16.toUInt32.toInt32) ((i4 &&& (255 : Int32)).toUInt32.toUInt16.toUInt32.toInt32)) [(.int ((i5 &&& (255 : Int32)).toUInt32.toUInt16.toUInt32.toInt32))])) _
        refine XS.istore X0.here hx rfl (hb hby at_418) rfl (l' := (own_F11 i i1 i2 i3 i4 i5 (i &&& (3 : Int32)) ((i1 &&& (255 : Int32)).toUInt32.toUInt16.toUInt32.toInt32) ((i2 &&& (255 : Int32)).toUInt32.toUInt16.toUInt32.toInt32) ((i3 &&& (255 : Int32)).toUInt32.toUInt16.toUInt32.toInt32) ((i4 &&& (255 : Int32)).toUInt32.toUInt16.toUInt32.toInt32) ((i5 &&& (255 : Int32)).toUInt32.toUInt16.toUInt32.toInt32))) rfl ?_
        show Steps p.tables e below (s₁.setTop (mkF m 420 (own_F11 i i1 i2 i3 i4 i5 (i &&& (3 : Int32)) ((i1 &&& (255 : Int32)).toUInt32.toUInt16.toUInt32.toInt32) ((i2 &&& (255 : Int32)).toUInt32.toUInt16.toUInt32.toInt32) ((i3 &&& (255 : Int32)).toUInt32.toUInt16.toUInt32.toInt32) ((i4 &&& (255 : Int32)).toUInt32.toUInt16.toUInt32.toInt32) ((i5 &&& (255 : Int32)).toUInt32.toUInt16.toUInt32.toInt32)) [])) _
        exact k
      obtain ⟨ca, hca⟩ : ∃ v : Int32, v = ((i1 &&& (255 : Int32)).toUInt32.toUInt16.toUInt32.toInt32) := ⟨_, rfl⟩
      rw [← hca] at w32
      have nca : (ca.toUInt32.toUInt16.toUInt32.toInt32) = ca := by rw [hca]; exact own_cc _
      have yca : ¬ ca < 0 ∧ ¬ (255 : Int32) < ca := by rw [hca]; exact own_bI _
      obtain ⟨cb, hcb⟩ : ∃ v : Int32, v = ((i2 &&& (255 : Int32)).toUInt32.toUInt16.toUInt32.toInt32) := ⟨_, rfl⟩
      rw [← hcb] at w32
      have ncb : (cb.toUInt32.toUInt16.toUInt32.toInt32) = cb := by rw [hcb]; exact own_cc _
      have ycb : ¬ cb < 0 ∧ ¬ (255 : Int32) < cb := by rw [hcb]; exact own_bI _
      obtain ⟨cc, hcc⟩ : ∃ v : Int32, v = ((i3 &&& (255 : Int32)).toUInt32.toUInt16.toUInt32.toInt32) := ⟨_, rfl⟩
      rw [← hcc] at w32
      have ncc : (cc.toUInt32.toUInt16.toUInt32.toInt32) = cc := by rw [hcc]; exact own_cc _
      have ycc : ¬ cc < 0 ∧ ¬ (255 : Int32) < cc := by rw [hcc]; exact own_bI _
      obtain ⟨cd, hcd⟩ : ∃ v : Int32, v = ((i4 &&& (255 : Int32)).toUInt32.toUInt16.toUInt32.toInt32) := ⟨_, rfl⟩
      rw [← hcd] at w32
      have ncd : (cd.toUInt32.toUInt16.toUInt32.toInt32) = cd := by rw [hcd]; exact own_cc _
      have ycd : ¬ cd < 0 ∧ ¬ (255 : Int32) < cd := by rw [hcd]; exact own_bI _
      obtain ⟨ce, hce⟩ : ∃ v : Int32, v = ((i5 &&& (255 : Int32)).toUInt32.toUInt16.toUInt32.toInt32) := ⟨_, rfl⟩
      rw [← hce] at w32
      have nce : (ce.toUInt32.toUInt16.toUInt32.toInt32) = ce := by rw [hce]; exact own_cc _
      have yce : ¬ ce < 0 ∧ ¬ (255 : Int32) < ce := by rw [hce]; exact own_bI _
      obtain ⟨T33, h33, X33, e33, E33, A33, D33, -, st33⟩ := newO X0 hx hZ hown (hw _ (List.mem_of_getElem? (i := 0) rfl)) (hw _ (List.mem_of_getElem? (i := 4) rfl)) (hw _ (List.mem_of_getElem? (i := 3) rfl)) e0 (g := (mkF m 420 (own_F11 i i1 i2 i3 i4 i5 (i &&& (3 : Int32)) ca cb cc cd ce) [])) rfl (hb hby at_420) (by decide) (by decide)
      obtain ⟨b33, gq33⟩ : ∃ z, z = Array.size h0 := ⟨_, rfl⟩
      rw [← gq33] at A33 D33 st33
      have g_b33 : n0 ≤ b33 := Nat.le_trans (O.1 ▸ O.2.1) (Nat.le_of_eq gq33.symm)
      have sf_b33 := own_safeN C.1 E33 (Nat.le_of_eq gq33.symm)
      have R := CHr.ext E33 C.1
      have C := C.trans R
      have hk := Nat.le_trans hk E33.1
      have O := O.ext E33
      have F_value_b33 : Fld Z h33 b33 "java/lang/String" "value" "[B" .null := D33 (Or.inr (hw _ (List.mem_of_getElem? (i := 6) rfl))) (ty := (.array .byte)) (by decide)
      have F_coder_b33 : Fld Z h33 b33 "java/lang/String" "coder" "B" (.int (0 : Int32)) := D33 (Or.inr (hw _ (List.mem_of_getElem? (i := 7) rfl))) (ty := .byte) (by decide)
      obtain ⟨T34, h34, k34, X34, e34, E34, A34, st34⟩ := newP X33 hx hZ (hw _ (List.mem_of_getElem? (i := 133) rfl)) e33 (g := (mkF m 425 (own_F11 i i1 i2 i3 i4 i5 (i &&& (3 : Int32)) ca cb cc cd ce) [(.int (5 : Int32)), (.ref b33), (.ref b33)])) rfl (hb hby at_425) rfl (by decide) (cap := 5) (by decide) (by decide) (by decide) (by decide)
      obtain ⟨b34, gq34⟩ : ∃ z, z = Array.size h33 := ⟨_, rfl⟩
      rw [← gq34] at A34 st34
      have ne_b33_b34 : b33 ≠ b34 := Nat.ne_of_lt (Nat.lt_of_lt_of_le A33.lt (Nat.le_of_eq gq34.symm))
      have g_b34 : n0 ≤ b34 := Nat.le_trans (O.1 ▸ O.2.1) (Nat.le_of_eq gq34.symm)
      have sf_b34 := own_safeN C.1 E34 (Nat.le_of_eq gq34.symm)
      have R := CHr.ext E34 C.1
      have sf_b33 := R.safe A33.lt sf_b33
      have C := C.trans R
      have hk := Nat.le_trans hk E34.1
      have A33 := A33.ext E34
      have F_value_b33 := F_value_b33.ext E34
      have F_coder_b33 := F_coder_b33.ext E34
      have O := O.ext E34
      have V_b34 : Arv Z h34 b34 k34 .char (5 : Int32) [(.int (0 : Int32)), (.int (0 : Int32)), (.int (0 : Int32)), (.int (0 : Int32)), (.int (0 : Int32))] (.int (0 : Int32)) := (Arv.new A34 (by decide)).pad (pad_rep [] (.int (0 : Int32)) 5)
      obtain ⟨cl35, Ar35, q35, Z35, N35, H35, G35⟩ := id V_b34
      have hin35 : ¬ ((0 : Int32) < 0 ∨ cl35.slots.size ≤ ((0 : Int32)).toNatClampNeg) := inb_of Z35 ⟨by decide, by decide⟩
      obtain ⟨T36, h36, X36, e36, W36, st36⟩ := stC X34 hx hZ e34 Ar35 (j := (0 : Int32)) hin35 (g := (mkF m 431 (own_F11 i i1 i2 i3 i4 i5 (i &&& (3 : Int32)) ca cb cc cd ce) [(.int ca), (.int (0 : Int32)), (.ref b34), (.ref b34), (.ref b33), (.ref b33)])) rfl rfl (hb hby at_431)
      have R := CHr.wr W36 sf_b34 C.1
      have sf_b33 := R.safe A33.lt sf_b33
      have sf_b34 := R.safe V_b34.lt sf_b34
      have C := C.trans R
      have V_b34 : Arv Z h36 b34 k34 .char (5 : Int32) [(.int (ca.toUInt32.toUInt16.toUInt32.toInt32)), (.int (0 : Int32)), (.int (0 : Int32)), (.int (0 : Int32)), (.int (0 : Int32))] (.int (0 : Int32)) := Arv.set Ar35 q35 Z35 N35 H35 G35 (fits_nar_char _) W36 0 rfl (Nat.le_of_ble_eq_true rfl)
      have hk := (by rw [W36.size]; exact hk : _ ≤ Array.size h36)
      have A33 := A33.wr W36
      have F_value_b33 := F_value_b33.other W36 (Or.inl ne_b33_b34)
      have F_coder_b33 := F_coder_b33.other W36 (Or.inl ne_b33_b34)
      have O := O.wr W36 g_b34
      have N36 := Fr.snoc X36 N0 g_b34
      obtain ⟨cl37, Ar37, q37, Z37, N37, H37, G37⟩ := id V_b34
      have hin37 : ¬ ((1 : Int32) < 0 ∨ cl37.slots.size ≤ ((1 : Int32)).toNatClampNeg) := inb_of Z37 ⟨by decide, by decide⟩
      obtain ⟨T38, h38, X38, e38, W38, st38⟩ := stC X36 hx hZ e36 Ar37 (j := (1 : Int32)) hin37 (g := (mkF m 436 (own_F11 i i1 i2 i3 i4 i5 (i &&& (3 : Int32)) ca cb cc cd ce) [(.int cb), (.int (1 : Int32)), (.ref b34), (.ref b34), (.ref b33), (.ref b33)])) rfl rfl (hb hby at_436)
      have R := CHr.wr W38 sf_b34 C.1
      have sf_b33 := R.safe A33.lt sf_b33
      have sf_b34 := R.safe V_b34.lt sf_b34
      have C := C.trans R
      have V_b34 : Arv Z h38 b34 k34 .char (5 : Int32) [(.int (ca.toUInt32.toUInt16.toUInt32.toInt32)), (.int (cb.toUInt32.toUInt16.toUInt32.toInt32)), (.int (0 : Int32)), (.int (0 : Int32)), (.int (0 : Int32))] (.int (0 : Int32)) := Arv.set Ar37 q37 Z37 N37 H37 G37 (fits_nar_char _) W38 1 rfl (Nat.le_of_ble_eq_true rfl)
      have hk := (by rw [W38.size]; exact hk : _ ≤ Array.size h38)
      have A33 := A33.wr W38
      have F_value_b33 := F_value_b33.other W38 (Or.inl ne_b33_b34)
      have F_coder_b33 := F_coder_b33.other W38 (Or.inl ne_b33_b34)
      have O := O.wr W38 g_b34
      have N38 := Fr.snoc X38 N36 g_b34
      obtain ⟨cl39, Ar39, q39, Z39, N39, H39, G39⟩ := id V_b34
      have hin39 : ¬ ((2 : Int32) < 0 ∨ cl39.slots.size ≤ ((2 : Int32)).toNatClampNeg) := inb_of Z39 ⟨by decide, by decide⟩
      obtain ⟨T40, h40, X40, e40, W40, st40⟩ := stC X38 hx hZ e38 Ar39 (j := (2 : Int32)) hin39 (g := (mkF m 441 (own_F11 i i1 i2 i3 i4 i5 (i &&& (3 : Int32)) ca cb cc cd ce) [(.int cc), (.int (2 : Int32)), (.ref b34), (.ref b34), (.ref b33), (.ref b33)])) rfl rfl (hb hby at_441)
      have R := CHr.wr W40 sf_b34 C.1
      have sf_b33 := R.safe A33.lt sf_b33
      have sf_b34 := R.safe V_b34.lt sf_b34
      have C := C.trans R
      have V_b34 : Arv Z h40 b34 k34 .char (5 : Int32) [(.int (ca.toUInt32.toUInt16.toUInt32.toInt32)), (.int (cb.toUInt32.toUInt16.toUInt32.toInt32)), (.int (cc.toUInt32.toUInt16.toUInt32.toInt32)), (.int (0 : Int32)), (.int (0 : Int32))] (.int (0 : Int32)) := Arv.set Ar39 q39 Z39 N39 H39 G39 (fits_nar_char _) W40 2 rfl (Nat.le_of_ble_eq_true rfl)
      have hk := (by rw [W40.size]; exact hk : _ ≤ Array.size h40)
      have A33 := A33.wr W40
      have F_value_b33 := F_value_b33.other W40 (Or.inl ne_b33_b34)
      have F_coder_b33 := F_coder_b33.other W40 (Or.inl ne_b33_b34)
      have O := O.wr W40 g_b34
      have N40 := Fr.snoc X40 N38 g_b34
      obtain ⟨cl41, Ar41, q41, Z41, N41, H41, G41⟩ := id V_b34
      have hin41 : ¬ ((3 : Int32) < 0 ∨ cl41.slots.size ≤ ((3 : Int32)).toNatClampNeg) := inb_of Z41 ⟨by decide, by decide⟩
      obtain ⟨T42, h42, X42, e42, W42, st42⟩ := stC X40 hx hZ e40 Ar41 (j := (3 : Int32)) hin41 (g := (mkF m 446 (own_F11 i i1 i2 i3 i4 i5 (i &&& (3 : Int32)) ca cb cc cd ce) [(.int cd), (.int (3 : Int32)), (.ref b34), (.ref b34), (.ref b33), (.ref b33)])) rfl rfl (hb hby at_446)
      have R := CHr.wr W42 sf_b34 C.1
      have sf_b33 := R.safe A33.lt sf_b33
      have sf_b34 := R.safe V_b34.lt sf_b34
      have C := C.trans R
      have V_b34 : Arv Z h42 b34 k34 .char (5 : Int32) [(.int (ca.toUInt32.toUInt16.toUInt32.toInt32)), (.int (cb.toUInt32.toUInt16.toUInt32.toInt32)), (.int (cc.toUInt32.toUInt16.toUInt32.toInt32)), (.int (cd.toUInt32.toUInt16.toUInt32.toInt32)), (.int (0 : Int32))] (.int (0 : Int32)) := Arv.set Ar41 q41 Z41 N41 H41 G41 (fits_nar_char _) W42 3 rfl (Nat.le_of_ble_eq_true rfl)
      have hk := (by rw [W42.size]; exact hk : _ ≤ Array.size h42)
      have A33 := A33.wr W42
      have F_value_b33 := F_value_b33.other W42 (Or.inl ne_b33_b34)
      have F_coder_b33 := F_coder_b33.other W42 (Or.inl ne_b33_b34)
      have O := O.wr W42 g_b34
      have N42 := Fr.snoc X42 N40 g_b34
      obtain ⟨cl43, Ar43, q43, Z43, N43, H43, G43⟩ := id V_b34
      have hin43 : ¬ ((4 : Int32) < 0 ∨ cl43.slots.size ≤ ((4 : Int32)).toNatClampNeg) := inb_of Z43 ⟨by decide, by decide⟩
      obtain ⟨T44, h44, X44, e44, W44, st44⟩ := stC X42 hx hZ e42 Ar43 (j := (4 : Int32)) hin43 (g := (mkF m 451 (own_F11 i i1 i2 i3 i4 i5 (i &&& (3 : Int32)) ca cb cc cd ce) [(.int ce), (.int (4 : Int32)), (.ref b34), (.ref b34), (.ref b33), (.ref b33)])) rfl rfl (hb hby at_451)
      have R := CHr.wr W44 sf_b34 C.1
      have sf_b33 := R.safe A33.lt sf_b33
      have sf_b34 := R.safe V_b34.lt sf_b34
      have C := C.trans R
      have V_b34 : Arv Z h44 b34 k34 .char (5 : Int32) [(.int (ca.toUInt32.toUInt16.toUInt32.toInt32)), (.int (cb.toUInt32.toUInt16.toUInt32.toInt32)), (.int (cc.toUInt32.toUInt16.toUInt32.toInt32)), (.int (cd.toUInt32.toUInt16.toUInt32.toInt32)), (.int (ce.toUInt32.toUInt16.toUInt32.toInt32))] (.int (0 : Int32)) := Arv.set Ar43 q43 Z43 N43 H43 G43 (fits_nar_char _) W44 4 rfl (Nat.le_of_ble_eq_true rfl)
      have hk := (by rw [W44.size]; exact hk : _ ≤ Array.size h44)
      have A33 := A33.wr W44
      have F_value_b33 := F_value_b33.other W44 (Or.inl ne_b33_b34)
      have F_coder_b33 := F_coder_b33.other W44 (Or.inl ne_b33_b34)
      have O := O.wr W44 g_b34
      have N44 := Fr.snoc X44 N42 g_b34
      rw [nca, ncb, ncc, ncd, nce] at V_b34
      have hp_b33 := (own_hpc yca (own_hpc ycb (own_hpc ycc (own_hpc ycd (own_hpc yce own_hpn)))))
      have h9_b33 : 0 < ([ca, cb, cc, cd, ce] : List Int32).length ∧ ([ca, cb, cc, cd, ce] : List Int32).length ≤ 5 := ⟨Nat.le_of_ble_eq_true rfl, Nat.le_of_ble_eq_true rfl⟩
      obtain ⟨_, _, ⟨T45, L45, k45, n45⟩, -, X45, ⟨Lc45, hQ45, l45, y45, z45⟩, st45⟩ := X44.specialBack hx (y := (⟨"java/lang/String", "<init>", "([C)V"⟩ : MethodName)) rfl hown (mvT hZ (hw _ (List.mem_of_getElem? (i := 134) rfl))) (mvT hZ (hw _ (List.mem_of_getElem? (i := 135) rfl))) (mvT hZ (hw _ (List.mem_of_getElem? (i := 136) rfl))) (by decide) (StrChars.Road.backV (W := 1) hZ (own_wNew hw) (kI := 4) (hw _ (List.mem_of_getElem? (i := 4) rfl)) (cs := ([ca, cb, cc, cd, ce] : List Int32)) (bs := (([ca, cb, cc, cd, ce] : List Int32).map (fun c => c.toInt8.toInt32))) (n := ([ca, cb, cc, cd, ce] : List Int32).length) g_b33 (O.1 ▸ O.2.1) A33 F_value_b33 F_coder_b33 V_b34 (SC.ext O.2) hzc rfl rfl h9_b33.1 (Nat.le_trans h9_b33.2 (by decide)) hp_b33 rfl (by decide) (by decide)) (g := (mkF m 452 (own_F11 i i1 i2 i3 i4 i5 (i &&& (3 : Int32)) ca cb cc cd ce) [(.ref b34), (.ref b33), (.ref b33)])) rfl (by rw [hml]; rfl) (Steps.refl _) (a := b33) (argsL := [(.ref b34)]) (rest := [(.ref b33)]) (lenOf pd__40_91C_41V rfl) rfl (by show 2 * 0 + _ ≤ _; exact Nat.le_of_eq rfl) (hb hby at_452) (fun _ _ => ⟨rfl, e44, (by decide : 2 + 1 ≤ _), Nat.le_trans (Nat.add_le_add_left h9_b33.2 9) (by decide)⟩)
      dsimp only [Pt.U, Pt.locs, Pt.cells, Pt.slots] at X45 l45 y45 z45 st45 hQ45
      have X45 := own_un X45 l45 y45 z45
      have X45 := X45.more (Nat.le_refl _) (Nat.add_le_add_left h9_b33.2 9)
      obtain ⟨rfl, N45q, K45, Ex45, Fc45, t45, kb45, gn45, gz45, nx45, Fv45, Av45⟩ := hQ45
      have N45 := Fr.app N44 N45q
      have ne_b33_t45 : b33 ≠ t45 := Nat.ne_of_lt (Nat.lt_of_lt_of_le A33.lt gz45)
      have ne_b34_t45 : b34 ≠ t45 := Nat.ne_of_lt (Nat.lt_of_lt_of_le V_b34.lt gz45)
      have R := CHr.keep K45 (allS sf_b33 all0) C.1
      have sf_b33 := R.safe A33.lt sf_b33
      have sf_b34 := R.safe V_b34.lt sf_b34
      have C := C.trans R
      have hk := Nat.le_trans hk K45.1
      have A33 := A33.keep K45
      have V_b34 := V_b34.keep K45 (ninS (Ne.symm ne_b33_b34) nin0)
      have g_t45 := gn45
      have O := O.keep K45 (allS g_b33 all0)
      have w46 : ∀ t, Steps p.tables e below (T45.setTop (mkF m 461 (own_F12 i i1 i2 i3 i4 i5 (i &&& (3 : Int32)) b33 ca cb cc cd ce) [(.int (99 : Int32)), (.int ca)])) t → Steps p.tables e below (s₁.setTop (entryFrame m #[(.int i), (.int i1), (.int i2), (.int i3), (.int i4), (.int i5)] maxLocals)) t := fun t k => by
        refine w32 t ?_
        refine st33 _ ?_
        show Steps p.tables e below (T33.setTop (mkF m 423 (own_F11 i i1 i2 i3 i4 i5 (i &&& (3 : Int32)) ca cb cc cd ce) [(.ref b33)])) _
        refine XS.dup X33.here hx rfl (hb hby at_423) rfl rfl ?_
        show Steps p.tables e below (T33.setTop (mkF m 424 (own_F11 i i1 i2 i3 i4 i5 (i &&& (3 : Int32)) ca cb cc cd ce) [(.ref b33), (.ref b33)])) _
        refine XS.iconst X33.here hx rfl (hb hby at_424) ?_
        show Steps p.tables e below (T33.setTop (mkF m 425 (own_F11 i i1 i2 i3 i4 i5 (i &&& (3 : Int32)) ca cb cc cd ce) [(.int (5 : Int32)), (.ref b33), (.ref b33)])) _
        refine st34 _ ?_
        show Steps p.tables e below (T34.setTop (mkF m 427 (own_F11 i i1 i2 i3 i4 i5 (i &&& (3 : Int32)) ca cb cc cd ce) [(.ref b34), (.ref b33), (.ref b33)])) _
        refine XS.dup X34.here hx rfl (hb hby at_427) rfl rfl ?_
        show Steps p.tables e below (T34.setTop (mkF m 428 (own_F11 i i1 i2 i3 i4 i5 (i &&& (3 : Int32)) ca cb cc cd ce) [(.ref b34), (.ref b34), (.ref b33), (.ref b33)])) _
        refine XS.iconst X34.here hx rfl (hb hby at_428) ?_
        show Steps p.tables e below (T34.setTop (mkF m 429 (own_F11 i i1 i2 i3 i4 i5 (i &&& (3 : Int32)) ca cb cc cd ce) [(.int (0 : Int32)), (.ref b34), (.ref b34), (.ref b33), (.ref b33)])) _
        refine XS.iload X34.here hx rfl (hb hby at_429) rfl ?_
        show Steps p.tables e below (T34.setTop (mkF m 431 (own_F11 i i1 i2 i3 i4 i5 (i &&& (3 : Int32)) ca cb cc cd ce) [(.int ca), (.int (0 : Int32)), (.ref b34), (.ref b34), (.ref b33), (.ref b33)])) _
        refine st36 _ ?_
        show Steps p.tables e below (T36.setTop (mkF m 432 (own_F11 i i1 i2 i3 i4 i5 (i &&& (3 : Int32)) ca cb cc cd ce) [(.ref b34), (.ref b33), (.ref b33)])) _
        refine XS.dup X36.here hx rfl (hb hby at_432) rfl rfl ?_
        show Steps p.tables e below (T36.setTop (mkF m 433 (own_F11 i i1 i2 i3 i4 i5 (i &&& (3 : Int32)) ca cb cc cd ce) [(.ref b34), (.ref b34), (.ref b33), (.ref b33)])) _
        refine XS.iconst X36.here hx rfl (hb hby at_433) ?_
        show Steps p.tables e below (T36.setTop (mkF m 434 (own_F11 i i1 i2 i3 i4 i5 (i &&& (3 : Int32)) ca cb cc cd ce) [(.int (1 : Int32)), (.ref b34), (.ref b34), (.ref b33), (.ref b33)])) _
        refine XS.iload X36.here hx rfl (hb hby at_434) rfl ?_
        show Steps p.tables e below (T36.setTop (mkF m 436 (own_F11 i i1 i2 i3 i4 i5 (i &&& (3 : Int32)) ca cb cc cd ce) [(.int cb), (.int (1 : Int32)), (.ref b34), (.ref b34), (.ref b33), (.ref b33)])) _
        refine st38 _ ?_
        show Steps p.tables e below (T38.setTop (mkF m 437 (own_F11 i i1 i2 i3 i4 i5 (i &&& (3 : Int32)) ca cb cc cd ce) [(.ref b34), (.ref b33), (.ref b33)])) _
        refine XS.dup X38.here hx rfl (hb hby at_437) rfl rfl ?_
        show Steps p.tables e below (T38.setTop (mkF m 438 (own_F11 i i1 i2 i3 i4 i5 (i &&& (3 : Int32)) ca cb cc cd ce) [(.ref b34), (.ref b34), (.ref b33), (.ref b33)])) _
        refine XS.iconst X38.here hx rfl (hb hby at_438) ?_
        show Steps p.tables e below (T38.setTop (mkF m 439 (own_F11 i i1 i2 i3 i4 i5 (i &&& (3 : Int32)) ca cb cc cd ce) [(.int (2 : Int32)), (.ref b34), (.ref b34), (.ref b33), (.ref b33)])) _
        refine XS.iload X38.here hx rfl (hb hby at_439) rfl ?_
        show Steps p.tables e below (T38.setTop (mkF m 441 (own_F11 i i1 i2 i3 i4 i5 (i &&& (3 : Int32)) ca cb cc cd ce) [(.int cc), (.int (2 : Int32)), (.ref b34), (.ref b34), (.ref b33), (.ref b33)])) _
        refine st40 _ ?_
        show Steps p.tables e below (T40.setTop (mkF m 442 (own_F11 i i1 i2 i3 i4 i5 (i &&& (3 : Int32)) ca cb cc cd ce) [(.ref b34), (.ref b33), (.ref b33)])) _
        refine XS.dup X40.here hx rfl (hb hby at_442) rfl rfl ?_
        show Steps p.tables e below (T40.setTop (mkF m 443 (own_F11 i i1 i2 i3 i4 i5 (i &&& (3 : Int32)) ca cb cc cd ce) [(.ref b34), (.ref b34), (.ref b33), (.ref b33)])) _
        refine XS.iconst X40.here hx rfl (hb hby at_443) ?_
        show Steps p.tables e below (T40.setTop (mkF m 444 (own_F11 i i1 i2 i3 i4 i5 (i &&& (3 : Int32)) ca cb cc cd ce) [(.int (3 : Int32)), (.ref b34), (.ref b34), (.ref b33), (.ref b33)])) _
        refine XS.iload X40.here hx rfl (hb hby at_444) rfl ?_
        show Steps p.tables e below (T40.setTop (mkF m 446 (own_F11 i i1 i2 i3 i4 i5 (i &&& (3 : Int32)) ca cb cc cd ce) [(.int cd), (.int (3 : Int32)), (.ref b34), (.ref b34), (.ref b33), (.ref b33)])) _
        refine st42 _ ?_
        show Steps p.tables e below (T42.setTop (mkF m 447 (own_F11 i i1 i2 i3 i4 i5 (i &&& (3 : Int32)) ca cb cc cd ce) [(.ref b34), (.ref b33), (.ref b33)])) _
        refine XS.dup X42.here hx rfl (hb hby at_447) rfl rfl ?_
        show Steps p.tables e below (T42.setTop (mkF m 448 (own_F11 i i1 i2 i3 i4 i5 (i &&& (3 : Int32)) ca cb cc cd ce) [(.ref b34), (.ref b34), (.ref b33), (.ref b33)])) _
        refine XS.iconst X42.here hx rfl (hb hby at_448) ?_
        show Steps p.tables e below (T42.setTop (mkF m 449 (own_F11 i i1 i2 i3 i4 i5 (i &&& (3 : Int32)) ca cb cc cd ce) [(.int (4 : Int32)), (.ref b34), (.ref b34), (.ref b33), (.ref b33)])) _
        refine XS.iload X42.here hx rfl (hb hby at_449) rfl ?_
        show Steps p.tables e below (T42.setTop (mkF m 451 (own_F11 i i1 i2 i3 i4 i5 (i &&& (3 : Int32)) ca cb cc cd ce) [(.int ce), (.int (4 : Int32)), (.ref b34), (.ref b34), (.ref b33), (.ref b33)])) _
        refine st44 _ ?_
        show Steps p.tables e below (T44.setTop (mkF m 452 (own_F11 i i1 i2 i3 i4 i5 (i &&& (3 : Int32)) ca cb cc cd ce) [(.ref b34), (.ref b33), (.ref b33)])) _
        refine st45.trans ?_
        show Steps p.tables e below (T45.setTop (mkF m 455 (own_F11 i i1 i2 i3 i4 i5 (i &&& (3 : Int32)) ca cb cc cd ce) [(.ref b33)])) _
        refine XS.astore X45.here hx rfl (hb hby at_455) rfl rfl (l' := (own_F12 i i1 i2 i3 i4 i5 (i &&& (3 : Int32)) b33 ca cb cc cd ce)) rfl ?_
        show Steps p.tables e below (T45.setTop (mkF m 457 (own_F12 i i1 i2 i3 i4 i5 (i &&& (3 : Int32)) b33 ca cb cc cd ce) [])) _
        refine XS.iload X45.here hx rfl (hb hby at_457) rfl ?_
        show Steps p.tables e below (T45.setTop (mkF m 459 (own_F12 i i1 i2 i3 i4 i5 (i &&& (3 : Int32)) b33 ca cb cc cd ce) [(.int ca)])) _
        refine XS.bipush X45.here hx rfl (hb hby at_459) ?_
        show Steps p.tables e below (T45.setTop (mkF m 461 (own_F12 i i1 i2 i3 i4 i5 (i &&& (3 : Int32)) b33 ca cb cc cd ce) [(.int (99 : Int32)), (.int ca)])) _
        exact k
      by_cases hc461_47 : ca = (99 : Int32)
      · have w48 : ∀ t, Steps p.tables e below (T45.setTop (mkF m 468 (own_F12 i i1 i2 i3 i4 i5 (i &&& (3 : Int32)) b33 ca cb cc cd ce) [(.int (111 : Int32)), (.int cb)])) t → Steps p.tables e below (s₁.setTop (entryFrame m #[(.int i), (.int i1), (.int i2), (.int i3), (.int i4), (.int i5)] maxLocals)) t := fun t k => by
          refine w46 t ?_
          refine XS.icmpNo X45.here hx rfl (hb hby at_461) rfl (teq hc461_47).2 ?_
          show Steps p.tables e below (T45.setTop (mkF m 464 (own_F12 i i1 i2 i3 i4 i5 (i &&& (3 : Int32)) b33 ca cb cc cd ce) [])) _
          refine XS.iload X45.here hx rfl (hb hby at_464) rfl ?_
          show Steps p.tables e below (T45.setTop (mkF m 466 (own_F12 i i1 i2 i3 i4 i5 (i &&& (3 : Int32)) b33 ca cb cc cd ce) [(.int cb)])) _
          refine XS.bipush X45.here hx rfl (hb hby at_466) ?_
          show Steps p.tables e below (T45.setTop (mkF m 468 (own_F12 i i1 i2 i3 i4 i5 (i &&& (3 : Int32)) b33 ca cb cc cd ce) [(.int (111 : Int32)), (.int cb)])) _
          exact k
        by_cases hc468_49 : cb = (111 : Int32)
        · have w50 : ∀ t, Steps p.tables e below (T45.setTop (mkF m 475 (own_F12 i i1 i2 i3 i4 i5 (i &&& (3 : Int32)) b33 ca cb cc cd ce) [(.int (117 : Int32)), (.int cc)])) t → Steps p.tables e below (s₁.setTop (entryFrame m #[(.int i), (.int i1), (.int i2), (.int i3), (.int i4), (.int i5)] maxLocals)) t := fun t k => by
            refine w48 t ?_
            refine XS.icmpNo X45.here hx rfl (hb hby at_468) rfl (teq hc468_49).2 ?_
            show Steps p.tables e below (T45.setTop (mkF m 471 (own_F12 i i1 i2 i3 i4 i5 (i &&& (3 : Int32)) b33 ca cb cc cd ce) [])) _
            refine XS.iload X45.here hx rfl (hb hby at_471) rfl ?_
            show Steps p.tables e below (T45.setTop (mkF m 473 (own_F12 i i1 i2 i3 i4 i5 (i &&& (3 : Int32)) b33 ca cb cc cd ce) [(.int cc)])) _
            refine XS.bipush X45.here hx rfl (hb hby at_473) ?_
            show Steps p.tables e below (T45.setTop (mkF m 475 (own_F12 i i1 i2 i3 i4 i5 (i &&& (3 : Int32)) b33 ca cb cc cd ce) [(.int (117 : Int32)), (.int cc)])) _
            exact k
          by_cases hc475_51 : cc = (117 : Int32)
          · have w52 : ∀ t, Steps p.tables e below (T45.setTop (mkF m 482 (own_F12 i i1 i2 i3 i4 i5 (i &&& (3 : Int32)) b33 ca cb cc cd ce) [(.int (110 : Int32)), (.int cd)])) t → Steps p.tables e below (s₁.setTop (entryFrame m #[(.int i), (.int i1), (.int i2), (.int i3), (.int i4), (.int i5)] maxLocals)) t := fun t k => by
              refine w50 t ?_
              refine XS.icmpNo X45.here hx rfl (hb hby at_475) rfl (teq hc475_51).2 ?_
              show Steps p.tables e below (T45.setTop (mkF m 478 (own_F12 i i1 i2 i3 i4 i5 (i &&& (3 : Int32)) b33 ca cb cc cd ce) [])) _
              refine XS.iload X45.here hx rfl (hb hby at_478) rfl ?_
              show Steps p.tables e below (T45.setTop (mkF m 480 (own_F12 i i1 i2 i3 i4 i5 (i &&& (3 : Int32)) b33 ca cb cc cd ce) [(.int cd)])) _
              refine XS.bipush X45.here hx rfl (hb hby at_480) ?_
              show Steps p.tables e below (T45.setTop (mkF m 482 (own_F12 i i1 i2 i3 i4 i5 (i &&& (3 : Int32)) b33 ca cb cc cd ce) [(.int (110 : Int32)), (.int cd)])) _
              exact k
            by_cases hc482_53 : cd = (110 : Int32)
            · have w54 : ∀ t, Steps p.tables e below (T45.setTop (mkF m 489 (own_F12 i i1 i2 i3 i4 i5 (i &&& (3 : Int32)) b33 ca cb cc cd ce) [(.int (116 : Int32)), (.int ce)])) t → Steps p.tables e below (s₁.setTop (entryFrame m #[(.int i), (.int i1), (.int i2), (.int i3), (.int i4), (.int i5)] maxLocals)) t := fun t k => by
                refine w52 t ?_
                refine XS.icmpNo X45.here hx rfl (hb hby at_482) rfl (teq hc482_53).2 ?_
                show Steps p.tables e below (T45.setTop (mkF m 485 (own_F12 i i1 i2 i3 i4 i5 (i &&& (3 : Int32)) b33 ca cb cc cd ce) [])) _
                refine XS.iload X45.here hx rfl (hb hby at_485) rfl ?_
                show Steps p.tables e below (T45.setTop (mkF m 487 (own_F12 i i1 i2 i3 i4 i5 (i &&& (3 : Int32)) b33 ca cb cc cd ce) [(.int ce)])) _
                refine XS.bipush X45.here hx rfl (hb hby at_487) ?_
                show Steps p.tables e below (T45.setTop (mkF m 489 (own_F12 i i1 i2 i3 i4 i5 (i &&& (3 : Int32)) b33 ca cb cc cd ce) [(.int (116 : Int32)), (.int ce)])) _
                exact k
              by_cases hc489_55 : ce = (116 : Int32)
              · obtain ⟨T56, X56, e56, st56⟩ := getS2 X45 hx hZ hown (host := "") (Or.inl (hw _ (List.mem_of_getElem? (i := 34) rfl))) Via.refl rfl (S_s_COUNT.ext O.2) (g := (mkF m 492 (own_F12 i i1 i2 i3 i4 i5 (i &&& (3 : Int32)) b33 ca cb cc cd ce) [])) rfl (hb hby at_492)
                obtain ⟨_, _, ⟨T57, L57, k57, n57⟩, -, X57, sn57, gr57, ⟨Lc57, hQ57, l57, y57, z57, R57⟩, st57⟩ := callSS X56 hx (y := (⟨"com/example/querent/querent/translation/Aggregation", "of", "(Ljava/lang/String;)Ljava/util/Optional;"⟩ : MethodName)) hown (mvT hZ (hw _ (List.mem_of_getElem? (i := 52) rfl))) (mvT hZ (hw _ (List.mem_of_getElem? (i := 53) rfl))) (mvT hZ (hw _ (List.mem_of_getElem? (i := 35) rfl))) (mvT hZ (hw _ (List.mem_of_getElem? (i := 54) rfl))) (by decide) (backOfSH (W := 0) (rm1 l Z a0 hw [] b33 t45 kb45 ([ca, cb, cc, cd, ce] : List Int32) (Int32.ofNat ([ca, cb, cc, cd, ce] : List Int32).length) ((([ca, cb, cc, cd, ce] : List Int32).map (fun c => c.toInt8.toInt32)).map Value.int) kv zc s_VALUES s_COUNT s_SUM_INTEGER s_SUM_LONG s_SUM_DOUBLE s_SUM_BIG_DECIMAL s_MIN s_MAX s_AVG s_EMPTY T45.heap n0 O S_s_VALUES S_s_COUNT S_s_SUM_INTEGER S_s_SUM_LONG S_s_SUM_DOUBLE S_s_SUM_BIG_DECIMAL S_s_MIN S_s_MAX S_s_AVG S_s_EMPTY Ex45 Fv45 Fc45 Av45 (StrChars.Road.codOf rfl (fun c hc => (hp_b33 c hc).2)) (own_up hp_b33) (Nat.le_trans h9_b33.2 (by decide)) o_E_s_VALUES o_V_s_VALUES o_E_s_EMPTY o_F_o_s_EMPTY o_E_s_COUNT o_F_ordinal_s_COUNT o_E_s_SUM_INTEGER o_F_ordinal_s_SUM_INTEGER o_E_s_SUM_LONG o_F_ordinal_s_SUM_LONG o_E_s_SUM_DOUBLE o_F_ordinal_s_SUM_DOUBLE o_E_s_SUM_BIG_DECIMAL o_F_ordinal_s_SUM_BIG_DECIMAL o_E_s_MIN o_F_ordinal_s_MIN o_E_s_MAX o_F_ordinal_s_MAX o_E_s_AVG o_F_ordinal_s_AVG SC hzc) hZ (hw _ (List.mem_of_getElem? (i := 54) rfl)) (hw _ (List.mem_of_getElem? (i := 35) rfl)) (by decide) (by decide) hEL C.1) (g := (mkF m 503 (own_F13 i i1 i2 i3 i4 i5 (i &&& (3 : Int32)) b33 s_COUNT ca cb cc cd ce) [(.ref b33)])) rfl (by rw [hml]; rfl) (argsL := [(.ref b33)]) (rest := []) (lenOf pd__40Ljava_47lang_47String_59_41Ljava_47util_47Optional_59 rfl) rfl (by show 2 * 0 + _ ≤ _; exact Nat.le_of_eq rfl) (hb hby at_503) (fun _ _ => ⟨rfl, e56, (by decide : 3 + 18 ≤ _), (by decide : 14 + 253 ≤ _)⟩)
                dsimp only [Pt.U, Pt.locs, Pt.cells, Pt.slots] at X57 l57 y57 z57 st57 hQ57 sn57 gr57 R57
                have X57 := own_un X57 l57 y57 z57
                obtain ⟨X57, hS, hZ, hown⟩ := rebS hS (by rw [e56]; exact hk) X57 sn57 gr57 hZ hown
                obtain ⟨z_57, rfl, N57q, K57, E_z_c57, F_o_z_c57⟩ := hQ57
                have N57 := Fr.app N45 N57q
                have R := R57
                have sf_b33 := R.safe Ex45.lt sf_b33
                have sf_b34 := R.safe V_b34.lt sf_b34
                have C := C.trans R
                have hk : T57.heap.size ≤ T57.heap.size := Nat.le_refl _
                have Ex45 := Ex45.keep K57
                have V_b34 := V_b34.keep K57 nin0
                have Fc45 := Fc45.keep K57 nin0
                have Fv45 := Fv45.keep K57 nin0
                have Av45 := Av45.keep K57 nin0
                have O := O.keep K57 all0
                rw [(by rw [hc461_47, hc468_49, hc475_51, hc482_53, hc489_55]; exact own_agn_0 (.ref s_COUNT) (.ref s_SUM_INTEGER) (.ref s_SUM_LONG) (.ref s_SUM_DOUBLE) (.ref s_SUM_BIG_DECIMAL) (.ref s_MIN) (.ref s_MAX) (.ref s_AVG) : own_ag ([ca, cb, cc, cd, ce] : List Int32) (.ref s_COUNT) (.ref s_SUM_INTEGER) (.ref s_SUM_LONG) (.ref s_SUM_DOUBLE) (.ref s_SUM_BIG_DECIMAL) (.ref s_MIN) (.ref s_MAX) (.ref s_AVG) = .ref s_COUNT)] at F_o_z_c57
                obtain ⟨cq58, kq58, q58a, q58b, q58c⟩ := isOf hZ rfl E_z_c57
                obtain ⟨_, _, ⟨T58, L58, k58, n58⟩, -, X58, ⟨Lc58, hQ58, l58, y58, z58⟩, st58⟩ := X57.virtualBack hx (y := (⟨"java/util/Optional", "orElse", "(Ljava/lang/Object;)Ljava/lang/Object;"⟩ : MethodName)) (z := (⟨"java/util/Optional", "orElse", "(Ljava/lang/Object;)Ljava/lang/Object;"⟩ : MethodName)) hown (mvT hZ (hw _ (List.mem_of_getElem? (i := 109) rfl))) (mvT hZ (hw _ (List.mem_of_getElem? (i := 110) rfl))) (notFace_of_selects (args := #[]) (mvT hZ (hw _ (List.mem_of_getElem? (i := 112) rfl)))) (mvT hZ (hw _ (List.mem_of_getElem? (i := 112) rfl))) (mvT hZ (hw _ (List.mem_of_getElem? (i := 111) rfl))) (by decide) (backOf (W := 0) (rm10_y l Z a0 hw [] z_57 s_COUNT T57.heap n0 O F_o_z_c57) hZ (hw _ (List.mem_of_getElem? (i := 113) rfl)) (hw _ (List.mem_of_getElem? (i := 92) rfl)) (by decide) (by decide)) q58a q58c (g := (mkF m 507 (own_F13 i i1 i2 i3 i4 i5 (i &&& (3 : Int32)) b33 s_COUNT ca cb cc cd ce) [.null, (.ref z_57)])) rfl (by rw [hml]; rfl) (Steps.refl _) (argsL := [.null]) (rest := []) (lenOf pd__40Ljava_47lang_47Object_59_41Ljava_47lang_47Object_59 rfl) rfl (by show 2 * 0 + _ ≤ _; exact Nat.le_of_eq rfl) (hb hby at_507) (fun _ _ => ⟨rfl, rfl, (by decide : 21 + 0 ≤ _), (by decide : 267 + 0 ≤ _)⟩)
                dsimp only [Pt.U, Pt.locs, Pt.cells, Pt.slots] at X58 l58 y58 z58 st58 hQ58
                have X58 := own_un X58 l58 y58 z58
                obtain ⟨rfl, N58q, eh58⟩ := hQ58
                have N58 := Fr.app N57 N58q
                have E_s_COUNT := o_E_s_COUNT.ext O.2
                obtain ⟨T59, X59, e59, st59⟩ := castY X58 hx hZ hown (hw _ (List.mem_of_getElem? (i := 32) rfl)) eh58 (Ins.self E_s_COUNT) (g := (mkF m 510 (own_F13 i i1 i2 i3 i4 i5 (i &&& (3 : Int32)) b33 s_COUNT ca cb cc cd ce) [(.ref s_COUNT)])) rfl rfl (hb hby at_510)
                have w60 : ∀ t, Steps p.tables e below (T59.setTop (mkF m 527 (own_F14 i i1 i2 i3 i4 i5 (i &&& (3 : Int32)) b33 s_COUNT s_COUNT cb cc cd ce) [(.int (1 : Int32))])) t → Steps p.tables e below (s₁.setTop (entryFrame m #[(.int i), (.int i1), (.int i2), (.int i3), (.int i4), (.int i5)] maxLocals)) t := fun t k => by
                  refine w54 t ?_
                  refine XS.icmpNo X45.here hx rfl (hb hby at_489) rfl (teq hc489_55).2 ?_
                  show Steps p.tables e below (T45.setTop (mkF m 492 (own_F12 i i1 i2 i3 i4 i5 (i &&& (3 : Int32)) b33 ca cb cc cd ce) [])) _
                  refine st56 _ ?_
                  show Steps p.tables e below (T56.setTop (mkF m 495 (own_F12 i i1 i2 i3 i4 i5 (i &&& (3 : Int32)) b33 ca cb cc cd ce) [(.ref s_COUNT)])) _
                  refine XS.goto X56.here hx rfl (pc0 := 495) (pc' := 499) rfl (hb hby at_495) (by decide) (by decide) ?_
                  show Steps p.tables e below (T56.setTop (mkF m 499 (own_F12 i i1 i2 i3 i4 i5 (i &&& (3 : Int32)) b33 ca cb cc cd ce) [(.ref s_COUNT)])) _
                  refine XS.astore X56.here hx rfl (hb hby at_499) rfl rfl (l' := (own_F13 i i1 i2 i3 i4 i5 (i &&& (3 : Int32)) b33 s_COUNT ca cb cc cd ce)) rfl ?_
                  show Steps p.tables e below (T56.setTop (mkF m 501 (own_F13 i i1 i2 i3 i4 i5 (i &&& (3 : Int32)) b33 s_COUNT ca cb cc cd ce) [])) _
                  refine XS.aload X56.here hx rfl (hb hby at_501) rfl rfl ?_
                  show Steps p.tables e below (T56.setTop (mkF m 503 (own_F13 i i1 i2 i3 i4 i5 (i &&& (3 : Int32)) b33 s_COUNT ca cb cc cd ce) [(.ref b33)])) _
                  refine st57.trans ?_
                  show Steps p.tables e below (T57.setTop (mkF m 506 (own_F13 i i1 i2 i3 i4 i5 (i &&& (3 : Int32)) b33 s_COUNT ca cb cc cd ce) [(.ref z_57)])) _
                  refine XS.aconstNull X57.here hx rfl (hb hby at_506) ?_
                  show Steps p.tables e below (T57.setTop (mkF m 507 (own_F13 i i1 i2 i3 i4 i5 (i &&& (3 : Int32)) b33 s_COUNT ca cb cc cd ce) [.null, (.ref z_57)])) _
                  refine st58.trans ?_
                  show Steps p.tables e below (T58.setTop (mkF m 510 (own_F13 i i1 i2 i3 i4 i5 (i &&& (3 : Int32)) b33 s_COUNT ca cb cc cd ce) [(.ref s_COUNT)])) _
                  refine st59 _ ?_
                  show Steps p.tables e below (T59.setTop (mkF m 513 (own_F13 i i1 i2 i3 i4 i5 (i &&& (3 : Int32)) b33 s_COUNT ca cb cc cd ce) [(.ref s_COUNT)])) _
                  refine XS.astore X59.here hx rfl (hb hby at_513) rfl rfl (l' := (own_F14 i i1 i2 i3 i4 i5 (i &&& (3 : Int32)) b33 s_COUNT s_COUNT cb cc cd ce)) rfl ?_
                  show Steps p.tables e below (T59.setTop (mkF m 515 (own_F14 i i1 i2 i3 i4 i5 (i &&& (3 : Int32)) b33 s_COUNT s_COUNT cb cc cd ce) [])) _
                  refine XS.aload X59.here hx rfl (hb hby at_515) rfl rfl ?_
                  show Steps p.tables e below (T59.setTop (mkF m 517 (own_F14 i i1 i2 i3 i4 i5 (i &&& (3 : Int32)) b33 s_COUNT s_COUNT cb cc cd ce) [(.ref s_COUNT)])) _
                  refine XS.aload X59.here hx rfl (hb hby at_517) rfl rfl ?_
                  show Steps p.tables e below (T59.setTop (mkF m 519 (own_F14 i i1 i2 i3 i4 i5 (i &&& (3 : Int32)) b33 s_COUNT s_COUNT cb cc cd ce) [(.ref s_COUNT), (.ref s_COUNT)])) _
                  refine Jvm.RoadKit.acmp (g := (mkF m 519 (own_F14 i i1 i2 i3 i4 i5 (i &&& (3 : Int32)) b33 s_COUNT s_COUNT cb cc cd ce) [(.ref s_COUNT), (.ref s_COUNT)])) X59 hx rfl rfl rfl (pc0 := 519) (pc' := 522) (same := true) rfl (hb hby at_519) rfl (decide_eq_true rfl) (by decide) (by decide) ?_
                  show Steps p.tables e below (T59.setTop (mkF m 522 (own_F14 i i1 i2 i3 i4 i5 (i &&& (3 : Int32)) b33 s_COUNT s_COUNT cb cc cd ce) [])) _
                  refine XS.iconst X59.here hx rfl (hb hby at_522) ?_
                  show Steps p.tables e below (T59.setTop (mkF m 523 (own_F14 i i1 i2 i3 i4 i5 (i &&& (3 : Int32)) b33 s_COUNT s_COUNT cb cc cd ce) [(.int (1 : Int32))])) _
                  refine XS.goto X59.here hx rfl (pc0 := 523) (pc' := 527) rfl (hb hby at_523) (by decide) (by decide) ?_
                  show Steps p.tables e below (T59.setTop (mkF m 527 (own_F14 i i1 i2 i3 i4 i5 (i &&& (3 : Int32)) b33 s_COUNT s_COUNT cb cc cd ce) [(.int (1 : Int32))])) _
                  exact k
                obtain ⟨fs, hr, hrun, hended, hE⟩ := Stand.leaveW (s := s) (vm₁ := T57.vm) X59 hS (by rw [e59]; exact hk) (v := some (.int (1 : Int32))) (fun h => by rw [Bd.returns] at h; cases h)
                refine ⟨_, _, w60 _ ?_, hrun, hended, _, _, rfl, ?_, ?_, own_mono hE (by decide) (by decide)⟩
                · exact retN X59 hx (t := .boolean) Bd.returns (by simp) (hb hby at_527) hr
                · show Q0 Z i i1 i2 i3 i4 i5 kv zc s_VALUES s_COUNT s_SUM_INTEGER s_SUM_LONG s_SUM_DOUBLE s_SUM_BIG_DECIMAL s_MIN s_MAX s_AVG s_EMPTY h0 n0 _ T59.heap _
                  rw [e59]
                  exact ⟨rfl, N58⟩
                · rw [hh]; show CHr Z consts_1 s.vm h0 T59.vm T59.heap; rw [e59]; exact C.trans (CHv.at X59 hZ hEL C.1)
              · obtain ⟨_, _, ⟨T61, L61, k61, n61⟩, -, X61, sn61, gr61, ⟨Lc61, hQ61, l61, y61, z61, R61⟩, st61⟩ := callSS X45 hx (y := (⟨"com/example/querent/querent/translation/Aggregation", "of", "(Ljava/lang/String;)Ljava/util/Optional;"⟩ : MethodName)) hown (mvT hZ (hw _ (List.mem_of_getElem? (i := 52) rfl))) (mvT hZ (hw _ (List.mem_of_getElem? (i := 53) rfl))) (mvT hZ (hw _ (List.mem_of_getElem? (i := 35) rfl))) (mvT hZ (hw _ (List.mem_of_getElem? (i := 54) rfl))) (by decide) (backOfSH (W := 0) (rm1 l Z a0 hw [] b33 t45 kb45 ([ca, cb, cc, cd, ce] : List Int32) (Int32.ofNat ([ca, cb, cc, cd, ce] : List Int32).length) ((([ca, cb, cc, cd, ce] : List Int32).map (fun c => c.toInt8.toInt32)).map Value.int) kv zc s_VALUES s_COUNT s_SUM_INTEGER s_SUM_LONG s_SUM_DOUBLE s_SUM_BIG_DECIMAL s_MIN s_MAX s_AVG s_EMPTY T45.heap n0 O S_s_VALUES S_s_COUNT S_s_SUM_INTEGER S_s_SUM_LONG S_s_SUM_DOUBLE S_s_SUM_BIG_DECIMAL S_s_MIN S_s_MAX S_s_AVG S_s_EMPTY Ex45 Fv45 Fc45 Av45 (StrChars.Road.codOf rfl (fun c hc => (hp_b33 c hc).2)) (own_up hp_b33) (Nat.le_trans h9_b33.2 (by decide)) o_E_s_VALUES o_V_s_VALUES o_E_s_EMPTY o_F_o_s_EMPTY o_E_s_COUNT o_F_ordinal_s_COUNT o_E_s_SUM_INTEGER o_F_ordinal_s_SUM_INTEGER o_E_s_SUM_LONG o_F_ordinal_s_SUM_LONG o_E_s_SUM_DOUBLE o_F_ordinal_s_SUM_DOUBLE o_E_s_SUM_BIG_DECIMAL o_F_ordinal_s_SUM_BIG_DECIMAL o_E_s_MIN o_F_ordinal_s_MIN o_E_s_MAX o_F_ordinal_s_MAX o_E_s_AVG o_F_ordinal_s_AVG SC hzc) hZ (hw _ (List.mem_of_getElem? (i := 54) rfl)) (hw _ (List.mem_of_getElem? (i := 35) rfl)) (by decide) (by decide) hEL C.1) (g := (mkF m 503 (own_F15 i i1 i2 i3 i4 i5 (i &&& (3 : Int32)) b33 ca cb cc cd ce) [(.ref b33)])) rfl (by rw [hml]; rfl) (argsL := [(.ref b33)]) (rest := []) (lenOf pd__40Ljava_47lang_47String_59_41Ljava_47util_47Optional_59 rfl) rfl (by show 2 * 0 + _ ≤ _; exact Nat.le_of_eq rfl) (hb hby at_503) (fun _ _ => ⟨rfl, rfl, (by decide : 3 + 18 ≤ _), (by decide : 14 + 253 ≤ _)⟩)
                dsimp only [Pt.U, Pt.locs, Pt.cells, Pt.slots] at X61 l61 y61 z61 st61 hQ61 sn61 gr61 R61
                have X61 := own_un X61 l61 y61 z61
                obtain ⟨X61, hS, hZ, hown⟩ := rebS hS (by exact hk) X61 sn61 gr61 hZ hown
                obtain ⟨z_61, rfl, N61q, K61, E_z_c61, F_o_z_c61⟩ := hQ61
                have N61 := Fr.app N45 N61q
                have R := R61
                have sf_b33 := R.safe Ex45.lt sf_b33
                have sf_b34 := R.safe V_b34.lt sf_b34
                have C := C.trans R
                have hk : T61.heap.size ≤ T61.heap.size := Nat.le_refl _
                have Ex45 := Ex45.keep K61
                have V_b34 := V_b34.keep K61 nin0
                have Fc45 := Fc45.keep K61 nin0
                have Fv45 := Fv45.keep K61 nin0
                have Av45 := Av45.keep K61 nin0
                have O := O.keep K61 all0
                rw [own_ag5 (.ref s_COUNT) (.ref s_SUM_INTEGER) (.ref s_SUM_LONG) (.ref s_SUM_DOUBLE) (.ref s_SUM_BIG_DECIMAL) (.ref s_MIN) (.ref s_MAX) (.ref s_AVG) (fun q => hc489_55 q.2.2.2.2)] at F_o_z_c61
                obtain ⟨cq62, kq62, q62a, q62b, q62c⟩ := isOf hZ rfl E_z_c61
                obtain ⟨_, _, ⟨T62, L62, k62, n62⟩, -, X62, ⟨Lc62, hQ62, l62, y62, z62⟩, st62⟩ := X61.virtualBack hx (y := (⟨"java/util/Optional", "orElse", "(Ljava/lang/Object;)Ljava/lang/Object;"⟩ : MethodName)) (z := (⟨"java/util/Optional", "orElse", "(Ljava/lang/Object;)Ljava/lang/Object;"⟩ : MethodName)) hown (mvT hZ (hw _ (List.mem_of_getElem? (i := 109) rfl))) (mvT hZ (hw _ (List.mem_of_getElem? (i := 110) rfl))) (notFace_of_selects (args := #[]) (mvT hZ (hw _ (List.mem_of_getElem? (i := 112) rfl)))) (mvT hZ (hw _ (List.mem_of_getElem? (i := 112) rfl))) (mvT hZ (hw _ (List.mem_of_getElem? (i := 111) rfl))) (by decide) (backOf (W := 0) (rm10_n l Z a0 hw [] z_61 T61.heap n0 O F_o_z_c61) hZ (hw _ (List.mem_of_getElem? (i := 113) rfl)) (hw _ (List.mem_of_getElem? (i := 92) rfl)) (by decide) (by decide)) q62a q62c (g := (mkF m 507 (own_F15 i i1 i2 i3 i4 i5 (i &&& (3 : Int32)) b33 ca cb cc cd ce) [.null, (.ref z_61)])) rfl (by rw [hml]; rfl) (Steps.refl _) (argsL := [.null]) (rest := []) (lenOf pd__40Ljava_47lang_47Object_59_41Ljava_47lang_47Object_59 rfl) rfl (by show 2 * 0 + _ ≤ _; exact Nat.le_of_eq rfl) (hb hby at_507) (fun _ _ => ⟨rfl, rfl, (by decide : 21 + 0 ≤ _), (by decide : 267 + 0 ≤ _)⟩)
                dsimp only [Pt.U, Pt.locs, Pt.cells, Pt.slots] at X62 l62 y62 z62 st62 hQ62
                have X62 := own_un X62 l62 y62 z62
                obtain ⟨rfl, N62q, eh62⟩ := hQ62
                have N62 := Fr.app N61 N62q
                have w63 : ∀ t, Steps p.tables e below (T62.setTop (mkF m 527 (own_F16 i i1 i2 i3 i4 i5 (i &&& (3 : Int32)) b33 cb cc cd ce) [(.int (1 : Int32))])) t → Steps p.tables e below (s₁.setTop (entryFrame m #[(.int i), (.int i1), (.int i2), (.int i3), (.int i4), (.int i5)] maxLocals)) t := fun t k => by
                  refine w54 t ?_
                  refine XS.icmpYes X45.here hx rfl (pc0 := 489) (pc' := 498) rfl (hb hby at_489) rfl (feq hc489_55).2 (by decide) (by decide) ?_
                  show Steps p.tables e below (T45.setTop (mkF m 498 (own_F12 i i1 i2 i3 i4 i5 (i &&& (3 : Int32)) b33 ca cb cc cd ce) [])) _
                  refine XS.aconstNull X45.here hx rfl (hb hby at_498) ?_
                  show Steps p.tables e below (T45.setTop (mkF m 499 (own_F12 i i1 i2 i3 i4 i5 (i &&& (3 : Int32)) b33 ca cb cc cd ce) [.null])) _
                  refine XS.astore X45.here hx rfl (hb hby at_499) rfl rfl (l' := (own_F15 i i1 i2 i3 i4 i5 (i &&& (3 : Int32)) b33 ca cb cc cd ce)) rfl ?_
                  show Steps p.tables e below (T45.setTop (mkF m 501 (own_F15 i i1 i2 i3 i4 i5 (i &&& (3 : Int32)) b33 ca cb cc cd ce) [])) _
                  refine XS.aload X45.here hx rfl (hb hby at_501) rfl rfl ?_
                  show Steps p.tables e below (T45.setTop (mkF m 503 (own_F15 i i1 i2 i3 i4 i5 (i &&& (3 : Int32)) b33 ca cb cc cd ce) [(.ref b33)])) _
                  refine st61.trans ?_
                  show Steps p.tables e below (T61.setTop (mkF m 506 (own_F15 i i1 i2 i3 i4 i5 (i &&& (3 : Int32)) b33 ca cb cc cd ce) [(.ref z_61)])) _
                  refine XS.aconstNull X61.here hx rfl (hb hby at_506) ?_
                  show Steps p.tables e below (T61.setTop (mkF m 507 (own_F15 i i1 i2 i3 i4 i5 (i &&& (3 : Int32)) b33 ca cb cc cd ce) [.null, (.ref z_61)])) _
                  refine st62.trans ?_
                  show Steps p.tables e below (T62.setTop (mkF m 510 (own_F15 i i1 i2 i3 i4 i5 (i &&& (3 : Int32)) b33 ca cb cc cd ce) [.null])) _
                  refine X62.checkcastNull hx (g := (mkF m 510 (own_F15 i i1 i2 i3 i4 i5 (i &&& (3 : Int32)) b33 ca cb cc cd ce) [.null])) rfl rfl (hb hby at_510) _ ?_
                  show Steps p.tables e below (T62.setTop (mkF m 513 (own_F15 i i1 i2 i3 i4 i5 (i &&& (3 : Int32)) b33 ca cb cc cd ce) [.null])) _
                  refine XS.astore X62.here hx rfl (hb hby at_513) rfl rfl (l' := (own_F16 i i1 i2 i3 i4 i5 (i &&& (3 : Int32)) b33 cb cc cd ce)) rfl ?_
                  show Steps p.tables e below (T62.setTop (mkF m 515 (own_F16 i i1 i2 i3 i4 i5 (i &&& (3 : Int32)) b33 cb cc cd ce) [])) _
                  refine XS.aload X62.here hx rfl (hb hby at_515) rfl rfl ?_
                  show Steps p.tables e below (T62.setTop (mkF m 517 (own_F16 i i1 i2 i3 i4 i5 (i &&& (3 : Int32)) b33 cb cc cd ce) [.null])) _
                  refine XS.aload X62.here hx rfl (hb hby at_517) rfl rfl ?_
                  show Steps p.tables e below (T62.setTop (mkF m 519 (own_F16 i i1 i2 i3 i4 i5 (i &&& (3 : Int32)) b33 cb cc cd ce) [.null, .null])) _
                  refine Jvm.RoadKit.acmp (g := (mkF m 519 (own_F16 i i1 i2 i3 i4 i5 (i &&& (3 : Int32)) b33 cb cc cd ce) [.null, .null])) X62 hx rfl rfl rfl (pc0 := 519) (pc' := 522) (same := true) rfl (hb hby at_519) rfl (decide_eq_true rfl) (by decide) (by decide) ?_
                  show Steps p.tables e below (T62.setTop (mkF m 522 (own_F16 i i1 i2 i3 i4 i5 (i &&& (3 : Int32)) b33 cb cc cd ce) [])) _
                  refine XS.iconst X62.here hx rfl (hb hby at_522) ?_
                  show Steps p.tables e below (T62.setTop (mkF m 523 (own_F16 i i1 i2 i3 i4 i5 (i &&& (3 : Int32)) b33 cb cc cd ce) [(.int (1 : Int32))])) _
                  refine XS.goto X62.here hx rfl (pc0 := 523) (pc' := 527) rfl (hb hby at_523) (by decide) (by decide) ?_
                  show Steps p.tables e below (T62.setTop (mkF m 527 (own_F16 i i1 i2 i3 i4 i5 (i &&& (3 : Int32)) b33 cb cc cd ce) [(.int (1 : Int32))])) _
                  exact k
                obtain ⟨fs, hr, hrun, hended, hE⟩ := Stand.leaveW (s := s) (vm₁ := T61.vm) X62 hS (by rw [eh62]; exact hk) (v := some (.int (1 : Int32))) (fun h => by rw [Bd.returns] at h; cases h)
                refine ⟨_, _, w63 _ ?_, hrun, hended, _, _, rfl, ?_, ?_, own_mono hE (by decide) (by decide)⟩
                · exact retN X62 hx (t := .boolean) Bd.returns (by simp) (hb hby at_527) hr
                · show Q0 Z i i1 i2 i3 i4 i5 kv zc s_VALUES s_COUNT s_SUM_INTEGER s_SUM_LONG s_SUM_DOUBLE s_SUM_BIG_DECIMAL s_MIN s_MAX s_AVG s_EMPTY h0 n0 _ T62.heap _
                  rw [eh62]
                  exact ⟨rfl, N62⟩
                · rw [hh]; show CHr Z consts_1 s.vm h0 T62.vm T62.heap; rw [eh62]; exact C.trans (CHv.at X62 hZ hEL C.1)
            · obtain ⟨_, _, ⟨T64, L64, k64, n64⟩, -, X64, sn64, gr64, ⟨Lc64, hQ64, l64, y64, z64, R64⟩, st64⟩ := callSS X45 hx (y := (⟨"com/example/querent/querent/translation/Aggregation", "of", "(Ljava/lang/String;)Ljava/util/Optional;"⟩ : MethodName)) hown (mvT hZ (hw _ (List.mem_of_getElem? (i := 52) rfl))) (mvT hZ (hw _ (List.mem_of_getElem? (i := 53) rfl))) (mvT hZ (hw _ (List.mem_of_getElem? (i := 35) rfl))) (mvT hZ (hw _ (List.mem_of_getElem? (i := 54) rfl))) (by decide) (backOfSH (W := 0) (rm1 l Z a0 hw [] b33 t45 kb45 ([ca, cb, cc, cd, ce] : List Int32) (Int32.ofNat ([ca, cb, cc, cd, ce] : List Int32).length) ((([ca, cb, cc, cd, ce] : List Int32).map (fun c => c.toInt8.toInt32)).map Value.int) kv zc s_VALUES s_COUNT s_SUM_INTEGER s_SUM_LONG s_SUM_DOUBLE s_SUM_BIG_DECIMAL s_MIN s_MAX s_AVG s_EMPTY T45.heap n0 O S_s_VALUES S_s_COUNT S_s_SUM_INTEGER S_s_SUM_LONG S_s_SUM_DOUBLE S_s_SUM_BIG_DECIMAL S_s_MIN S_s_MAX S_s_AVG S_s_EMPTY Ex45 Fv45 Fc45 Av45 (StrChars.Road.codOf rfl (fun c hc => (hp_b33 c hc).2)) (own_up hp_b33) (Nat.le_trans h9_b33.2 (by decide)) o_E_s_VALUES o_V_s_VALUES o_E_s_EMPTY o_F_o_s_EMPTY o_E_s_COUNT o_F_ordinal_s_COUNT o_E_s_SUM_INTEGER o_F_ordinal_s_SUM_INTEGER o_E_s_SUM_LONG o_F_ordinal_s_SUM_LONG o_E_s_SUM_DOUBLE o_F_ordinal_s_SUM_DOUBLE o_E_s_SUM_BIG_DECIMAL o_F_ordinal_s_SUM_BIG_DECIMAL o_E_s_MIN o_F_ordinal_s_MIN o_E_s_MAX o_F_ordinal_s_MAX o_E_s_AVG o_F_ordinal_s_AVG SC hzc) hZ (hw _ (List.mem_of_getElem? (i := 54) rfl)) (hw _ (List.mem_of_getElem? (i := 35) rfl)) (by decide) (by decide) hEL C.1) (g := (mkF m 503 (own_F15 i i1 i2 i3 i4 i5 (i &&& (3 : Int32)) b33 ca cb cc cd ce) [(.ref b33)])) rfl (by rw [hml]; rfl) (argsL := [(.ref b33)]) (rest := []) (lenOf pd__40Ljava_47lang_47String_59_41Ljava_47util_47Optional_59 rfl) rfl (by show 2 * 0 + _ ≤ _; exact Nat.le_of_eq rfl) (hb hby at_503) (fun _ _ => ⟨rfl, rfl, (by decide : 3 + 18 ≤ _), (by decide : 14 + 253 ≤ _)⟩)
              dsimp only [Pt.U, Pt.locs, Pt.cells, Pt.slots] at X64 l64 y64 z64 st64 hQ64 sn64 gr64 R64
              have X64 := own_un X64 l64 y64 z64
              obtain ⟨X64, hS, hZ, hown⟩ := rebS hS (by exact hk) X64 sn64 gr64 hZ hown
              obtain ⟨z_64, rfl, N64q, K64, E_z_c64, F_o_z_c64⟩ := hQ64
              have N64 := Fr.app N45 N64q
              have R := R64
              have sf_b33 := R.safe Ex45.lt sf_b33
              have sf_b34 := R.safe V_b34.lt sf_b34
              have C := C.trans R
              have hk : T64.heap.size ≤ T64.heap.size := Nat.le_refl _
              have Ex45 := Ex45.keep K64
              have V_b34 := V_b34.keep K64 nin0
              have Fc45 := Fc45.keep K64 nin0
              have Fv45 := Fv45.keep K64 nin0
              have Av45 := Av45.keep K64 nin0
              have O := O.keep K64 all0
              rw [own_ag5 (.ref s_COUNT) (.ref s_SUM_INTEGER) (.ref s_SUM_LONG) (.ref s_SUM_DOUBLE) (.ref s_SUM_BIG_DECIMAL) (.ref s_MIN) (.ref s_MAX) (.ref s_AVG) (fun q => hc482_53 q.2.2.2.1)] at F_o_z_c64
              obtain ⟨cq65, kq65, q65a, q65b, q65c⟩ := isOf hZ rfl E_z_c64
              obtain ⟨_, _, ⟨T65, L65, k65, n65⟩, -, X65, ⟨Lc65, hQ65, l65, y65, z65⟩, st65⟩ := X64.virtualBack hx (y := (⟨"java/util/Optional", "orElse", "(Ljava/lang/Object;)Ljava/lang/Object;"⟩ : MethodName)) (z := (⟨"java/util/Optional", "orElse", "(Ljava/lang/Object;)Ljava/lang/Object;"⟩ : MethodName)) hown (mvT hZ (hw _ (List.mem_of_getElem? (i := 109) rfl))) (mvT hZ (hw _ (List.mem_of_getElem? (i := 110) rfl))) (notFace_of_selects (args := #[]) (mvT hZ (hw _ (List.mem_of_getElem? (i := 112) rfl)))) (mvT hZ (hw _ (List.mem_of_getElem? (i := 112) rfl))) (mvT hZ (hw _ (List.mem_of_getElem? (i := 111) rfl))) (by decide) (backOf (W := 0) (rm10_n l Z a0 hw [] z_64 T64.heap n0 O F_o_z_c64) hZ (hw _ (List.mem_of_getElem? (i := 113) rfl)) (hw _ (List.mem_of_getElem? (i := 92) rfl)) (by decide) (by decide)) q65a q65c (g := (mkF m 507 (own_F15 i i1 i2 i3 i4 i5 (i &&& (3 : Int32)) b33 ca cb cc cd ce) [.null, (.ref z_64)])) rfl (by rw [hml]; rfl) (Steps.refl _) (argsL := [.null]) (rest := []) (lenOf pd__40Ljava_47lang_47Object_59_41Ljava_47lang_47Object_59 rfl) rfl (by show 2 * 0 + _ ≤ _; exact Nat.le_of_eq rfl) (hb hby at_507) (fun _ _ => ⟨rfl, rfl, (by decide : 21 + 0 ≤ _), (by decide : 267 + 0 ≤ _)⟩)
              dsimp only [Pt.U, Pt.locs, Pt.cells, Pt.slots] at X65 l65 y65 z65 st65 hQ65
              have X65 := own_un X65 l65 y65 z65
              obtain ⟨rfl, N65q, eh65⟩ := hQ65
              have N65 := Fr.app N64 N65q
              have w66 : ∀ t, Steps p.tables e below (T65.setTop (mkF m 527 (own_F16 i i1 i2 i3 i4 i5 (i &&& (3 : Int32)) b33 cb cc cd ce) [(.int (1 : Int32))])) t → Steps p.tables e below (s₁.setTop (entryFrame m #[(.int i), (.int i1), (.int i2), (.int i3), (.int i4), (.int i5)] maxLocals)) t := fun t k => by
                refine w52 t ?_
                refine XS.icmpYes X45.here hx rfl (pc0 := 482) (pc' := 498) rfl (hb hby at_482) rfl (feq hc482_53).2 (by decide) (by decide) ?_
                show Steps p.tables e below (T45.setTop (mkF m 498 (own_F12 i i1 i2 i3 i4 i5 (i &&& (3 : Int32)) b33 ca cb cc cd ce) [])) _
                refine XS.aconstNull X45.here hx rfl (hb hby at_498) ?_
                show Steps p.tables e below (T45.setTop (mkF m 499 (own_F12 i i1 i2 i3 i4 i5 (i &&& (3 : Int32)) b33 ca cb cc cd ce) [.null])) _
                refine XS.astore X45.here hx rfl (hb hby at_499) rfl rfl (l' := (own_F15 i i1 i2 i3 i4 i5 (i &&& (3 : Int32)) b33 ca cb cc cd ce)) rfl ?_
                show Steps p.tables e below (T45.setTop (mkF m 501 (own_F15 i i1 i2 i3 i4 i5 (i &&& (3 : Int32)) b33 ca cb cc cd ce) [])) _
                refine XS.aload X45.here hx rfl (hb hby at_501) rfl rfl ?_
                show Steps p.tables e below (T45.setTop (mkF m 503 (own_F15 i i1 i2 i3 i4 i5 (i &&& (3 : Int32)) b33 ca cb cc cd ce) [(.ref b33)])) _
                refine st64.trans ?_
                show Steps p.tables e below (T64.setTop (mkF m 506 (own_F15 i i1 i2 i3 i4 i5 (i &&& (3 : Int32)) b33 ca cb cc cd ce) [(.ref z_64)])) _
                refine XS.aconstNull X64.here hx rfl (hb hby at_506) ?_
                show Steps p.tables e below (T64.setTop (mkF m 507 (own_F15 i i1 i2 i3 i4 i5 (i &&& (3 : Int32)) b33 ca cb cc cd ce) [.null, (.ref z_64)])) _
                refine st65.trans ?_
                show Steps p.tables e below (T65.setTop (mkF m 510 (own_F15 i i1 i2 i3 i4 i5 (i &&& (3 : Int32)) b33 ca cb cc cd ce) [.null])) _
                refine X65.checkcastNull hx (g := (mkF m 510 (own_F15 i i1 i2 i3 i4 i5 (i &&& (3 : Int32)) b33 ca cb cc cd ce) [.null])) rfl rfl (hb hby at_510) _ ?_
                show Steps p.tables e below (T65.setTop (mkF m 513 (own_F15 i i1 i2 i3 i4 i5 (i &&& (3 : Int32)) b33 ca cb cc cd ce) [.null])) _
                refine XS.astore X65.here hx rfl (hb hby at_513) rfl rfl (l' := (own_F16 i i1 i2 i3 i4 i5 (i &&& (3 : Int32)) b33 cb cc cd ce)) rfl ?_
                show Steps p.tables e below (T65.setTop (mkF m 515 (own_F16 i i1 i2 i3 i4 i5 (i &&& (3 : Int32)) b33 cb cc cd ce) [])) _
                refine XS.aload X65.here hx rfl (hb hby at_515) rfl rfl ?_
                show Steps p.tables e below (T65.setTop (mkF m 517 (own_F16 i i1 i2 i3 i4 i5 (i &&& (3 : Int32)) b33 cb cc cd ce) [.null])) _
                refine XS.aload X65.here hx rfl (hb hby at_517) rfl rfl ?_
                show Steps p.tables e below (T65.setTop (mkF m 519 (own_F16 i i1 i2 i3 i4 i5 (i &&& (3 : Int32)) b33 cb cc cd ce) [.null, .null])) _
                refine Jvm.RoadKit.acmp (g := (mkF m 519 (own_F16 i i1 i2 i3 i4 i5 (i &&& (3 : Int32)) b33 cb cc cd ce) [.null, .null])) X65 hx rfl rfl rfl (pc0 := 519) (pc' := 522) (same := true) rfl (hb hby at_519) rfl (decide_eq_true rfl) (by decide) (by decide) ?_
                show Steps p.tables e below (T65.setTop (mkF m 522 (own_F16 i i1 i2 i3 i4 i5 (i &&& (3 : Int32)) b33 cb cc cd ce) [])) _
                refine XS.iconst X65.here hx rfl (hb hby at_522) ?_
                show Steps p.tables e below (T65.setTop (mkF m 523 (own_F16 i i1 i2 i3 i4 i5 (i &&& (3 : Int32)) b33 cb cc cd ce) [(.int (1 : Int32))])) _
                refine XS.goto X65.here hx rfl (pc0 := 523) (pc' := 527) rfl (hb hby at_523) (by decide) (by decide) ?_
                show Steps p.tables e below (T65.setTop (mkF m 527 (own_F16 i i1 i2 i3 i4 i5 (i &&& (3 : Int32)) b33 cb cc cd ce) [(.int (1 : Int32))])) _
                exact k
              obtain ⟨fs, hr, hrun, hended, hE⟩ := Stand.leaveW (s := s) (vm₁ := T64.vm) X65 hS (by rw [eh65]; exact hk) (v := some (.int (1 : Int32))) (fun h => by rw [Bd.returns] at h; cases h)
              refine ⟨_, _, w66 _ ?_, hrun, hended, _, _, rfl, ?_, ?_, own_mono hE (by decide) (by decide)⟩
              · exact retN X65 hx (t := .boolean) Bd.returns (by simp) (hb hby at_527) hr
              · show Q0 Z i i1 i2 i3 i4 i5 kv zc s_VALUES s_COUNT s_SUM_INTEGER s_SUM_LONG s_SUM_DOUBLE s_SUM_BIG_DECIMAL s_MIN s_MAX s_AVG s_EMPTY h0 n0 _ T65.heap _
                rw [eh65]
                exact ⟨rfl, N65⟩
              · rw [hh]; show CHr Z consts_1 s.vm h0 T65.vm T65.heap; rw [eh65]; exact C.trans (CHv.at X65 hZ hEL C.1)
          · obtain ⟨_, _, ⟨T67, L67, k67, n67⟩, -, X67, sn67, gr67, ⟨Lc67, hQ67, l67, y67, z67, R67⟩, st67⟩ := callSS X45 hx (y := (⟨"com/example/querent/querent/translation/Aggregation", "of", "(Ljava/lang/String;)Ljava/util/Optional;"⟩ : MethodName)) hown (mvT hZ (hw _ (List.mem_of_getElem? (i := 52) rfl))) (mvT hZ (hw _ (List.mem_of_getElem? (i := 53) rfl))) (mvT hZ (hw _ (List.mem_of_getElem? (i := 35) rfl))) (mvT hZ (hw _ (List.mem_of_getElem? (i := 54) rfl))) (by decide) (backOfSH (W := 0) (rm1 l Z a0 hw [] b33 t45 kb45 ([ca, cb, cc, cd, ce] : List Int32) (Int32.ofNat ([ca, cb, cc, cd, ce] : List Int32).length) ((([ca, cb, cc, cd, ce] : List Int32).map (fun c => c.toInt8.toInt32)).map Value.int) kv zc s_VALUES s_COUNT s_SUM_INTEGER s_SUM_LONG s_SUM_DOUBLE s_SUM_BIG_DECIMAL s_MIN s_MAX s_AVG s_EMPTY T45.heap n0 O S_s_VALUES S_s_COUNT S_s_SUM_INTEGER S_s_SUM_LONG S_s_SUM_DOUBLE S_s_SUM_BIG_DECIMAL S_s_MIN S_s_MAX S_s_AVG S_s_EMPTY Ex45 Fv45 Fc45 Av45 (StrChars.Road.codOf rfl (fun c hc => (hp_b33 c hc).2)) (own_up hp_b33) (Nat.le_trans h9_b33.2 (by decide)) o_E_s_VALUES o_V_s_VALUES o_E_s_EMPTY o_F_o_s_EMPTY o_E_s_COUNT o_F_ordinal_s_COUNT o_E_s_SUM_INTEGER o_F_ordinal_s_SUM_INTEGER o_E_s_SUM_LONG o_F_ordinal_s_SUM_LONG o_E_s_SUM_DOUBLE o_F_ordinal_s_SUM_DOUBLE o_E_s_SUM_BIG_DECIMAL o_F_ordinal_s_SUM_BIG_DECIMAL o_E_s_MIN o_F_ordinal_s_MIN o_E_s_MAX o_F_ordinal_s_MAX o_E_s_AVG o_F_ordinal_s_AVG SC hzc) hZ (hw _ (List.mem_of_getElem? (i := 54) rfl)) (hw _ (List.mem_of_getElem? (i := 35) rfl)) (by decide) (by decide) hEL C.1) (g := (mkF m 503 (own_F15 i i1 i2 i3 i4 i5 (i &&& (3 : Int32)) b33 ca cb cc cd ce) [(.ref b33)])) rfl (by rw [hml]; rfl) (argsL := [(.ref b33)]) (rest := []) (lenOf pd__40Ljava_47lang_47String_59_41Ljava_47util_47Optional_59 rfl) rfl (by show 2 * 0 + _ ≤ _; exact Nat.le_of_eq rfl) (hb hby at_503) (fun _ _ => ⟨rfl, rfl, (by decide : 3 + 18 ≤ _), (by decide : 14 + 253 ≤ _)⟩)
            dsimp only [Pt.U, Pt.locs, Pt.cells, Pt.slots] at X67 l67 y67 z67 st67 hQ67 sn67 gr67 R67
            have X67 := own_un X67 l67 y67 z67
            obtain ⟨X67, hS, hZ, hown⟩ := rebS hS (by exact hk) X67 sn67 gr67 hZ hown
            obtain ⟨z_67, rfl, N67q, K67, E_z_c67, F_o_z_c67⟩ := hQ67
            have N67 := Fr.app N45 N67q
            have R := R67
            have sf_b33 := R.safe Ex45.lt sf_b33
            have sf_b34 := R.safe V_b34.lt sf_b34
            have C := C.trans R
            have hk : T67.heap.size ≤ T67.heap.size := Nat.le_refl _
            have Ex45 := Ex45.keep K67
            have V_b34 := V_b34.keep K67 nin0
            have Fc45 := Fc45.keep K67 nin0
            have Fv45 := Fv45.keep K67 nin0
            have Av45 := Av45.keep K67 nin0
            have O := O.keep K67 all0
            rw [own_ag5 (.ref s_COUNT) (.ref s_SUM_INTEGER) (.ref s_SUM_LONG) (.ref s_SUM_DOUBLE) (.ref s_SUM_BIG_DECIMAL) (.ref s_MIN) (.ref s_MAX) (.ref s_AVG) (fun q => hc475_51 q.2.2.1)] at F_o_z_c67
            obtain ⟨cq68, kq68, q68a, q68b, q68c⟩ := isOf hZ rfl E_z_c67
            obtain ⟨_, _, ⟨T68, L68, k68, n68⟩, -, X68, ⟨Lc68, hQ68, l68, y68, z68⟩, st68⟩ := X67.virtualBack hx (y := (⟨"java/util/Optional", "orElse", "(Ljava/lang/Object;)Ljava/lang/Object;"⟩ : MethodName)) (z := (⟨"java/util/Optional", "orElse", "(Ljava/lang/Object;)Ljava/lang/Object;"⟩ : MethodName)) hown (mvT hZ (hw _ (List.mem_of_getElem? (i := 109) rfl))) (mvT hZ (hw _ (List.mem_of_getElem? (i := 110) rfl))) (notFace_of_selects (args := #[]) (mvT hZ (hw _ (List.mem_of_getElem? (i := 112) rfl)))) (mvT hZ (hw _ (List.mem_of_getElem? (i := 112) rfl))) (mvT hZ (hw _ (List.mem_of_getElem? (i := 111) rfl))) (by decide) (backOf (W := 0) (rm10_n l Z a0 hw [] z_67 T67.heap n0 O F_o_z_c67) hZ (hw _ (List.mem_of_getElem? (i := 113) rfl)) (hw _ (List.mem_of_getElem? (i := 92) rfl)) (by decide) (by decide)) q68a q68c (g := (mkF m 507 (own_F15 i i1 i2 i3 i4 i5 (i &&& (3 : Int32)) b33 ca cb cc cd ce) [.null, (.ref z_67)])) rfl (by rw [hml]; rfl) (Steps.refl _) (argsL := [.null]) (rest := []) (lenOf pd__40Ljava_47lang_47Object_59_41Ljava_47lang_47Object_59 rfl) rfl (by show 2 * 0 + _ ≤ _; exact Nat.le_of_eq rfl) (hb hby at_507) (fun _ _ => ⟨rfl, rfl, (by decide : 21 + 0 ≤ _), (by decide : 267 + 0 ≤ _)⟩)
            dsimp only [Pt.U, Pt.locs, Pt.cells, Pt.slots] at X68 l68 y68 z68 st68 hQ68
            have X68 := own_un X68 l68 y68 z68
            obtain ⟨rfl, N68q, eh68⟩ := hQ68
            have N68 := Fr.app N67 N68q
            have w69 : ∀ t, Steps p.tables e below (T68.setTop (mkF m 527 (own_F16 i i1 i2 i3 i4 i5 (i &&& (3 : Int32)) b33 cb cc cd ce) [(.int (1 : Int32))])) t → Steps p.tables e below (s₁.setTop (entryFrame m #[(.int i), (.int i1), (.int i2), (.int i3), (.int i4), (.int i5)] maxLocals)) t := fun t k => by
              refine w50 t ?_
              refine XS.icmpYes X45.here hx rfl (pc0 := 475) (pc' := 498) rfl (hb hby at_475) rfl (feq hc475_51).2 (by decide) (by decide) ?_
              show Steps p.tables e below (T45.setTop (mkF m 498 (own_F12 i i1 i2 i3 i4 i5 (i &&& (3 : Int32)) b33 ca cb cc cd ce) [])) _
              refine XS.aconstNull X45.here hx rfl (hb hby at_498) ?_
              show Steps p.tables e below (T45.setTop (mkF m 499 (own_F12 i i1 i2 i3 i4 i5 (i &&& (3 : Int32)) b33 ca cb cc cd ce) [.null])) _
              refine XS.astore X45.here hx rfl (hb hby at_499) rfl rfl (l' := (own_F15 i i1 i2 i3 i4 i5 (i &&& (3 : Int32)) b33 ca cb cc cd ce)) rfl ?_
              show Steps p.tables e below (T45.setTop (mkF m 501 (own_F15 i i1 i2 i3 i4 i5 (i &&& (3 : Int32)) b33 ca cb cc cd ce) [])) _
              refine XS.aload X45.here hx rfl (hb hby at_501) rfl rfl ?_
              show Steps p.tables e below (T45.setTop (mkF m 503 (own_F15 i i1 i2 i3 i4 i5 (i &&& (3 : Int32)) b33 ca cb cc cd ce) [(.ref b33)])) _
              refine st67.trans ?_
              show Steps p.tables e below (T67.setTop (mkF m 506 (own_F15 i i1 i2 i3 i4 i5 (i &&& (3 : Int32)) b33 ca cb cc cd ce) [(.ref z_67)])) _
              refine XS.aconstNull X67.here hx rfl (hb hby at_506) ?_
              show Steps p.tables e below (T67.setTop (mkF m 507 (own_F15 i i1 i2 i3 i4 i5 (i &&& (3 : Int32)) b33 ca cb cc cd ce) [.null, (.ref z_67)])) _
              refine st68.trans ?_
              show Steps p.tables e below (T68.setTop (mkF m 510 (own_F15 i i1 i2 i3 i4 i5 (i &&& (3 : Int32)) b33 ca cb cc cd ce) [.null])) _
              refine X68.checkcastNull hx (g := (mkF m 510 (own_F15 i i1 i2 i3 i4 i5 (i &&& (3 : Int32)) b33 ca cb cc cd ce) [.null])) rfl rfl (hb hby at_510) _ ?_
              show Steps p.tables e below (T68.setTop (mkF m 513 (own_F15 i i1 i2 i3 i4 i5 (i &&& (3 : Int32)) b33 ca cb cc cd ce) [.null])) _
              refine XS.astore X68.here hx rfl (hb hby at_513) rfl rfl (l' := (own_F16 i i1 i2 i3 i4 i5 (i &&& (3 : Int32)) b33 cb cc cd ce)) rfl ?_
              show Steps p.tables e below (T68.setTop (mkF m 515 (own_F16 i i1 i2 i3 i4 i5 (i &&& (3 : Int32)) b33 cb cc cd ce) [])) _
              refine XS.aload X68.here hx rfl (hb hby at_515) rfl rfl ?_
              show Steps p.tables e below (T68.setTop (mkF m 517 (own_F16 i i1 i2 i3 i4 i5 (i &&& (3 : Int32)) b33 cb cc cd ce) [.null])) _
              refine XS.aload X68.here hx rfl (hb hby at_517) rfl rfl ?_
              show Steps p.tables e below (T68.setTop (mkF m 519 (own_F16 i i1 i2 i3 i4 i5 (i &&& (3 : Int32)) b33 cb cc cd ce) [.null, .null])) _
              refine Jvm.RoadKit.acmp (g := (mkF m 519 (own_F16 i i1 i2 i3 i4 i5 (i &&& (3 : Int32)) b33 cb cc cd ce) [.null, .null])) X68 hx rfl rfl rfl (pc0 := 519) (pc' := 522) (same := true) rfl (hb hby at_519) rfl (decide_eq_true rfl) (by decide) (by decide) ?_
              show Steps p.tables e below (T68.setTop (mkF m 522 (own_F16 i i1 i2 i3 i4 i5 (i &&& (3 : Int32)) b33 cb cc cd ce) [])) _
              refine XS.iconst X68.here hx rfl (hb hby at_522) ?_
              show Steps p.tables e below (T68.setTop (mkF m 523 (own_F16 i i1 i2 i3 i4 i5 (i &&& (3 : Int32)) b33 cb cc cd ce) [(.int (1 : Int32))])) _
              refine XS.goto X68.here hx rfl (pc0 := 523) (pc' := 527) rfl (hb hby at_523) (by decide) (by decide) ?_
              show Steps p.tables e below (T68.setTop (mkF m 527 (own_F16 i i1 i2 i3 i4 i5 (i &&& (3 : Int32)) b33 cb cc cd ce) [(.int (1 : Int32))])) _
              exact k
            obtain ⟨fs, hr, hrun, hended, hE⟩ := Stand.leaveW (s := s) (vm₁ := T67.vm) X68 hS (by rw [eh68]; exact hk) (v := some (.int (1 : Int32))) (fun h => by rw [Bd.returns] at h; cases h)
            refine ⟨_, _, w69 _ ?_, hrun, hended, _, _, rfl, ?_, ?_, own_mono hE (by decide) (by decide)⟩
            · exact retN X68 hx (t := .boolean) Bd.returns (by simp) (hb hby at_527) hr
            · show Q0 Z i i1 i2 i3 i4 i5 kv zc s_VALUES s_COUNT s_SUM_INTEGER s_SUM_LONG s_SUM_DOUBLE s_SUM_BIG_DECIMAL s_MIN s_MAX s_AVG s_EMPTY h0 n0 _ T68.heap _
              rw [eh68]
              exact ⟨rfl, N68⟩
            · rw [hh]; show CHr Z consts_1 s.vm h0 T68.vm T68.heap; rw [eh68]; exact C.trans (CHv.at X68 hZ hEL C.1)
        · obtain ⟨_, _, ⟨T70, L70, k70, n70⟩, -, X70, sn70, gr70, ⟨Lc70, hQ70, l70, y70, z70, R70⟩, st70⟩ := callSS X45 hx (y := (⟨"com/example/querent/querent/translation/Aggregation", "of", "(Ljava/lang/String;)Ljava/util/Optional;"⟩ : MethodName)) hown (mvT hZ (hw _ (List.mem_of_getElem? (i := 52) rfl))) (mvT hZ (hw _ (List.mem_of_getElem? (i := 53) rfl))) (mvT hZ (hw _ (List.mem_of_getElem? (i := 35) rfl))) (mvT hZ (hw _ (List.mem_of_getElem? (i := 54) rfl))) (by decide) (backOfSH (W := 0) (rm1 l Z a0 hw [] b33 t45 kb45 ([ca, cb, cc, cd, ce] : List Int32) (Int32.ofNat ([ca, cb, cc, cd, ce] : List Int32).length) ((([ca, cb, cc, cd, ce] : List Int32).map (fun c => c.toInt8.toInt32)).map Value.int) kv zc s_VALUES s_COUNT s_SUM_INTEGER s_SUM_LONG s_SUM_DOUBLE s_SUM_BIG_DECIMAL s_MIN s_MAX s_AVG s_EMPTY T45.heap n0 O S_s_VALUES S_s_COUNT S_s_SUM_INTEGER S_s_SUM_LONG S_s_SUM_DOUBLE S_s_SUM_BIG_DECIMAL S_s_MIN S_s_MAX S_s_AVG S_s_EMPTY Ex45 Fv45 Fc45 Av45 (StrChars.Road.codOf rfl (fun c hc => (hp_b33 c hc).2)) (own_up hp_b33) (Nat.le_trans h9_b33.2 (by decide)) o_E_s_VALUES o_V_s_VALUES o_E_s_EMPTY o_F_o_s_EMPTY o_E_s_COUNT o_F_ordinal_s_COUNT o_E_s_SUM_INTEGER o_F_ordinal_s_SUM_INTEGER o_E_s_SUM_LONG o_F_ordinal_s_SUM_LONG o_E_s_SUM_DOUBLE o_F_ordinal_s_SUM_DOUBLE o_E_s_SUM_BIG_DECIMAL o_F_ordinal_s_SUM_BIG_DECIMAL o_E_s_MIN o_F_ordinal_s_MIN o_E_s_MAX o_F_ordinal_s_MAX o_E_s_AVG o_F_ordinal_s_AVG SC hzc) hZ (hw _ (List.mem_of_getElem? (i := 54) rfl)) (hw _ (List.mem_of_getElem? (i := 35) rfl)) (by decide) (by decide) hEL C.1) (g := (mkF m 503 (own_F15 i i1 i2 i3 i4 i5 (i &&& (3 : Int32)) b33 ca cb cc cd ce) [(.ref b33)])) rfl (by rw [hml]; rfl) (argsL := [(.ref b33)]) (rest := []) (lenOf pd__40Ljava_47lang_47String_59_41Ljava_47util_47Optional_59 rfl) rfl (by show 2 * 0 + _ ≤ _; exact Nat.le_of_eq rfl) (hb hby at_503) (fun _ _ => ⟨rfl, rfl, (by decide : 3 + 18 ≤ _), (by decide : 14 + 253 ≤ _)⟩)
          dsimp only [Pt.U, Pt.locs, Pt.cells, Pt.slots] at X70 l70 y70 z70 st70 hQ70 sn70 gr70 R70
          have X70 := own_un X70 l70 y70 z70
          obtain ⟨X70, hS, hZ, hown⟩ := rebS hS (by exact hk) X70 sn70 gr70 hZ hown
          obtain ⟨z_70, rfl, N70q, K70, E_z_c70, F_o_z_c70⟩ := hQ70
          have N70 := Fr.app N45 N70q
          have R := R70
          have sf_b33 := R.safe Ex45.lt sf_b33
          have sf_b34 := R.safe V_b34.lt sf_b34
          have C := C.trans R
          have hk : T70.heap.size ≤ T70.heap.size := Nat.le_refl _
          have Ex45 := Ex45.keep K70
          have V_b34 := V_b34.keep K70 nin0
          have Fc45 := Fc45.keep K70 nin0
          have Fv45 := Fv45.keep K70 nin0
          have Av45 := Av45.keep K70 nin0
          have O := O.keep K70 all0
          rw [own_ag5 (.ref s_COUNT) (.ref s_SUM_INTEGER) (.ref s_SUM_LONG) (.ref s_SUM_DOUBLE) (.ref s_SUM_BIG_DECIMAL) (.ref s_MIN) (.ref s_MAX) (.ref s_AVG) (fun q => hc468_49 q.2.1)] at F_o_z_c70
          obtain ⟨cq71, kq71, q71a, q71b, q71c⟩ := isOf hZ rfl E_z_c70
          obtain ⟨_, _, ⟨T71, L71, k71, n71⟩, -, X71, ⟨Lc71, hQ71, l71, y71, z71⟩, st71⟩ := X70.virtualBack hx (y := (⟨"java/util/Optional", "orElse", "(Ljava/lang/Object;)Ljava/lang/Object;"⟩ : MethodName)) (z := (⟨"java/util/Optional", "orElse", "(Ljava/lang/Object;)Ljava/lang/Object;"⟩ : MethodName)) hown (mvT hZ (hw _ (List.mem_of_getElem? (i := 109) rfl))) (mvT hZ (hw _ (List.mem_of_getElem? (i := 110) rfl))) (notFace_of_selects (args := #[]) (mvT hZ (hw _ (List.mem_of_getElem? (i := 112) rfl)))) (mvT hZ (hw _ (List.mem_of_getElem? (i := 112) rfl))) (mvT hZ (hw _ (List.mem_of_getElem? (i := 111) rfl))) (by decide) (backOf (W := 0) (rm10_n l Z a0 hw [] z_70 T70.heap n0 O F_o_z_c70) hZ (hw _ (List.mem_of_getElem? (i := 113) rfl)) (hw _ (List.mem_of_getElem? (i := 92) rfl)) (by decide) (by decide)) q71a q71c (g := (mkF m 507 (own_F15 i i1 i2 i3 i4 i5 (i &&& (3 : Int32)) b33 ca cb cc cd ce) [.null, (.ref z_70)])) rfl (by rw [hml]; rfl) (Steps.refl _) (argsL := [.null]) (rest := []) (lenOf pd__40Ljava_47lang_47Object_59_41Ljava_47lang_47Object_59 rfl) rfl (by show 2 * 0 + _ ≤ _; exact Nat.le_of_eq rfl) (hb hby at_507) (fun _ _ => ⟨rfl, rfl, (by decide : 21 + 0 ≤ _), (by decide : 267 + 0 ≤ _)⟩)
          dsimp only [Pt.U, Pt.locs, Pt.cells, Pt.slots] at X71 l71 y71 z71 st71 hQ71
          have X71 := own_un X71 l71 y71 z71
          obtain ⟨rfl, N71q, eh71⟩ := hQ71
          have N71 := Fr.app N70 N71q
          have w72 : ∀ t, Steps p.tables e below (T71.setTop (mkF m 527 (own_F16 i i1 i2 i3 i4 i5 (i &&& (3 : Int32)) b33 cb cc cd ce) [(.int (1 : Int32))])) t → Steps p.tables e below (s₁.setTop (entryFrame m #[(.int i), (.int i1), (.int i2), (.int i3), (.int i4), (.int i5)] maxLocals)) t := fun t k => by
            refine w48 t ?_
            refine XS.icmpYes X45.here hx rfl (pc0 := 468) (pc' := 498) rfl (hb hby at_468) rfl (feq hc468_49).2 (by decide) (by decide) ?_
            show Steps p.tables e below (T45.setTop (mkF m 498 (own_F12 i i1 i2 i3 i4 i5 (i &&& (3 : Int32)) b33 ca cb cc cd ce) [])) _
            refine XS.aconstNull X45.here hx rfl (hb hby at_498) ?_
            show Steps p.tables e below (T45.setTop (mkF m 499 (own_F12 i i1 i2 i3 i4 i5 (i &&& (3 : Int32)) b33 ca cb cc cd ce) [.null])) _
            refine XS.astore X45.here hx rfl (hb hby at_499) rfl rfl (l' := (own_F15 i i1 i2 i3 i4 i5 (i &&& (3 : Int32)) b33 ca cb cc cd ce)) rfl ?_
            show Steps p.tables e below (T45.setTop (mkF m 501 (own_F15 i i1 i2 i3 i4 i5 (i &&& (3 : Int32)) b33 ca cb cc cd ce) [])) _
            refine XS.aload X45.here hx rfl (hb hby at_501) rfl rfl ?_
            show Steps p.tables e below (T45.setTop (mkF m 503 (own_F15 i i1 i2 i3 i4 i5 (i &&& (3 : Int32)) b33 ca cb cc cd ce) [(.ref b33)])) _
            refine st70.trans ?_
            show Steps p.tables e below (T70.setTop (mkF m 506 (own_F15 i i1 i2 i3 i4 i5 (i &&& (3 : Int32)) b33 ca cb cc cd ce) [(.ref z_70)])) _
            refine XS.aconstNull X70.here hx rfl (hb hby at_506) ?_
            show Steps p.tables e below (T70.setTop (mkF m 507 (own_F15 i i1 i2 i3 i4 i5 (i &&& (3 : Int32)) b33 ca cb cc cd ce) [.null, (.ref z_70)])) _
            refine st71.trans ?_
            show Steps p.tables e below (T71.setTop (mkF m 510 (own_F15 i i1 i2 i3 i4 i5 (i &&& (3 : Int32)) b33 ca cb cc cd ce) [.null])) _
            refine X71.checkcastNull hx (g := (mkF m 510 (own_F15 i i1 i2 i3 i4 i5 (i &&& (3 : Int32)) b33 ca cb cc cd ce) [.null])) rfl rfl (hb hby at_510) _ ?_
            show Steps p.tables e below (T71.setTop (mkF m 513 (own_F15 i i1 i2 i3 i4 i5 (i &&& (3 : Int32)) b33 ca cb cc cd ce) [.null])) _
            refine XS.astore X71.here hx rfl (hb hby at_513) rfl rfl (l' := (own_F16 i i1 i2 i3 i4 i5 (i &&& (3 : Int32)) b33 cb cc cd ce)) rfl ?_
            show Steps p.tables e below (T71.setTop (mkF m 515 (own_F16 i i1 i2 i3 i4 i5 (i &&& (3 : Int32)) b33 cb cc cd ce) [])) _
            refine XS.aload X71.here hx rfl (hb hby at_515) rfl rfl ?_
            show Steps p.tables e below (T71.setTop (mkF m 517 (own_F16 i i1 i2 i3 i4 i5 (i &&& (3 : Int32)) b33 cb cc cd ce) [.null])) _
            refine XS.aload X71.here hx rfl (hb hby at_517) rfl rfl ?_
            show Steps p.tables e below (T71.setTop (mkF m 519 (own_F16 i i1 i2 i3 i4 i5 (i &&& (3 : Int32)) b33 cb cc cd ce) [.null, .null])) _
            refine Jvm.RoadKit.acmp (g := (mkF m 519 (own_F16 i i1 i2 i3 i4 i5 (i &&& (3 : Int32)) b33 cb cc cd ce) [.null, .null])) X71 hx rfl rfl rfl (pc0 := 519) (pc' := 522) (same := true) rfl (hb hby at_519) rfl (decide_eq_true rfl) (by decide) (by decide) ?_
            show Steps p.tables e below (T71.setTop (mkF m 522 (own_F16 i i1 i2 i3 i4 i5 (i &&& (3 : Int32)) b33 cb cc cd ce) [])) _
            refine XS.iconst X71.here hx rfl (hb hby at_522) ?_
            show Steps p.tables e below (T71.setTop (mkF m 523 (own_F16 i i1 i2 i3 i4 i5 (i &&& (3 : Int32)) b33 cb cc cd ce) [(.int (1 : Int32))])) _
            refine XS.goto X71.here hx rfl (pc0 := 523) (pc' := 527) rfl (hb hby at_523) (by decide) (by decide) ?_
            show Steps p.tables e below (T71.setTop (mkF m 527 (own_F16 i i1 i2 i3 i4 i5 (i &&& (3 : Int32)) b33 cb cc cd ce) [(.int (1 : Int32))])) _
            exact k
          obtain ⟨fs, hr, hrun, hended, hE⟩ := Stand.leaveW (s := s) (vm₁ := T70.vm) X71 hS (by rw [eh71]; exact hk) (v := some (.int (1 : Int32))) (fun h => by rw [Bd.returns] at h; cases h)
          refine ⟨_, _, w72 _ ?_, hrun, hended, _, _, rfl, ?_, ?_, own_mono hE (by decide) (by decide)⟩
          · exact retN X71 hx (t := .boolean) Bd.returns (by simp) (hb hby at_527) hr
          · show Q0 Z i i1 i2 i3 i4 i5 kv zc s_VALUES s_COUNT s_SUM_INTEGER s_SUM_LONG s_SUM_DOUBLE s_SUM_BIG_DECIMAL s_MIN s_MAX s_AVG s_EMPTY h0 n0 _ T71.heap _
            rw [eh71]
            exact ⟨rfl, N71⟩
          · rw [hh]; show CHr Z consts_1 s.vm h0 T71.vm T71.heap; rw [eh71]; exact C.trans (CHv.at X71 hZ hEL C.1)
      · obtain ⟨_, _, ⟨T73, L73, k73, n73⟩, -, X73, sn73, gr73, ⟨Lc73, hQ73, l73, y73, z73, R73⟩, st73⟩ := callSS X45 hx (y := (⟨"com/example/querent/querent/translation/Aggregation", "of", "(Ljava/lang/String;)Ljava/util/Optional;"⟩ : MethodName)) hown (mvT hZ (hw _ (List.mem_of_getElem? (i := 52) rfl))) (mvT hZ (hw _ (List.mem_of_getElem? (i := 53) rfl))) (mvT hZ (hw _ (List.mem_of_getElem? (i := 35) rfl))) (mvT hZ (hw _ (List.mem_of_getElem? (i := 54) rfl))) (by decide) (backOfSH (W := 0) (rm1 l Z a0 hw [] b33 t45 kb45 ([ca, cb, cc, cd, ce] : List Int32) (Int32.ofNat ([ca, cb, cc, cd, ce] : List Int32).length) ((([ca, cb, cc, cd, ce] : List Int32).map (fun c => c.toInt8.toInt32)).map Value.int) kv zc s_VALUES s_COUNT s_SUM_INTEGER s_SUM_LONG s_SUM_DOUBLE s_SUM_BIG_DECIMAL s_MIN s_MAX s_AVG s_EMPTY T45.heap n0 O S_s_VALUES S_s_COUNT S_s_SUM_INTEGER S_s_SUM_LONG S_s_SUM_DOUBLE S_s_SUM_BIG_DECIMAL S_s_MIN S_s_MAX S_s_AVG S_s_EMPTY Ex45 Fv45 Fc45 Av45 (StrChars.Road.codOf rfl (fun c hc => (hp_b33 c hc).2)) (own_up hp_b33) (Nat.le_trans h9_b33.2 (by decide)) o_E_s_VALUES o_V_s_VALUES o_E_s_EMPTY o_F_o_s_EMPTY o_E_s_COUNT o_F_ordinal_s_COUNT o_E_s_SUM_INTEGER o_F_ordinal_s_SUM_INTEGER o_E_s_SUM_LONG o_F_ordinal_s_SUM_LONG o_E_s_SUM_DOUBLE o_F_ordinal_s_SUM_DOUBLE o_E_s_SUM_BIG_DECIMAL o_F_ordinal_s_SUM_BIG_DECIMAL o_E_s_MIN o_F_ordinal_s_MIN o_E_s_MAX o_F_ordinal_s_MAX o_E_s_AVG o_F_ordinal_s_AVG SC hzc) hZ (hw _ (List.mem_of_getElem? (i := 54) rfl)) (hw _ (List.mem_of_getElem? (i := 35) rfl)) (by decide) (by decide) hEL C.1) (g := (mkF m 503 (own_F15 i i1 i2 i3 i4 i5 (i &&& (3 : Int32)) b33 ca cb cc cd ce) [(.ref b33)])) rfl (by rw [hml]; rfl) (argsL := [(.ref b33)]) (rest := []) (lenOf pd__40Ljava_47lang_47String_59_41Ljava_47util_47Optional_59 rfl) rfl (by show 2 * 0 + _ ≤ _; exact Nat.le_of_eq rfl) (hb hby at_503) (fun _ _ => ⟨rfl, rfl, (by decide : 3 + 18 ≤ _), (by decide : 14 + 253 ≤ _)⟩)
        dsimp only [Pt.U, Pt.locs, Pt.cells, Pt.slots] at X73 l73 y73 z73 st73 hQ73 sn73 gr73 R73
        have X73 := own_un X73 l73 y73 z73
        obtain ⟨X73, hS, hZ, hown⟩ := rebS hS (by exact hk) X73 sn73 gr73 hZ hown
        obtain ⟨z_73, rfl, N73q, K73, E_z_c73, F_o_z_c73⟩ := hQ73
        have N73 := Fr.app N45 N73q
        have R := R73
        have sf_b33 := R.safe Ex45.lt sf_b33
        have sf_b34 := R.safe V_b34.lt sf_b34
        have C := C.trans R
        have hk : T73.heap.size ≤ T73.heap.size := Nat.le_refl _
        have Ex45 := Ex45.keep K73
        have V_b34 := V_b34.keep K73 nin0
        have Fc45 := Fc45.keep K73 nin0
        have Fv45 := Fv45.keep K73 nin0
        have Av45 := Av45.keep K73 nin0
        have O := O.keep K73 all0
        rw [own_ag5 (.ref s_COUNT) (.ref s_SUM_INTEGER) (.ref s_SUM_LONG) (.ref s_SUM_DOUBLE) (.ref s_SUM_BIG_DECIMAL) (.ref s_MIN) (.ref s_MAX) (.ref s_AVG) (fun q => hc461_47 q.1)] at F_o_z_c73
        obtain ⟨cq74, kq74, q74a, q74b, q74c⟩ := isOf hZ rfl E_z_c73
        obtain ⟨_, _, ⟨T74, L74, k74, n74⟩, -, X74, ⟨Lc74, hQ74, l74, y74, z74⟩, st74⟩ := X73.virtualBack hx (y := (⟨"java/util/Optional", "orElse", "(Ljava/lang/Object;)Ljava/lang/Object;"⟩ : MethodName)) (z := (⟨"java/util/Optional", "orElse", "(Ljava/lang/Object;)Ljava/lang/Object;"⟩ : MethodName)) hown (mvT hZ (hw _ (List.mem_of_getElem? (i := 109) rfl))) (mvT hZ (hw _ (List.mem_of_getElem? (i := 110) rfl))) (notFace_of_selects (args := #[]) (mvT hZ (hw _ (List.mem_of_getElem? (i := 112) rfl)))) (mvT hZ (hw _ (List.mem_of_getElem? (i := 112) rfl))) (mvT hZ (hw _ (List.mem_of_getElem? (i := 111) rfl))) (by decide) (backOf (W := 0) (rm10_n l Z a0 hw [] z_73 T73.heap n0 O F_o_z_c73) hZ (hw _ (List.mem_of_getElem? (i := 113) rfl)) (hw _ (List.mem_of_getElem? (i := 92) rfl)) (by decide) (by decide)) q74a q74c (g := (mkF m 507 (own_F15 i i1 i2 i3 i4 i5 (i &&& (3 : Int32)) b33 ca cb cc cd ce) [.null, (.ref z_73)])) rfl (by rw [hml]; rfl) (Steps.refl _) (argsL := [.null]) (rest := []) (lenOf pd__40Ljava_47lang_47Object_59_41Ljava_47lang_47Object_59 rfl) rfl (by show 2 * 0 + _ ≤ _; exact Nat.le_of_eq rfl) (hb hby at_507) (fun _ _ => ⟨rfl, rfl, (by decide : 21 + 0 ≤ _), (by decide : 267 + 0 ≤ _)⟩)
        dsimp only [Pt.U, Pt.locs, Pt.cells, Pt.slots] at X74 l74 y74 z74 st74 hQ74
        have X74 := own_un X74 l74 y74 z74
        obtain ⟨rfl, N74q, eh74⟩ := hQ74
        have N74 := Fr.app N73 N74q
        have w75 : ∀ t, Steps p.tables e below (T74.setTop (mkF m 527 (own_F16 i i1 i2 i3 i4 i5 (i &&& (3 : Int32)) b33 cb cc cd ce) [(.int (1 : Int32))])) t → Steps p.tables e below (s₁.setTop (entryFrame m #[(.int i), (.int i1), (.int i2), (.int i3), (.int i4), (.int i5)] maxLocals)) t := fun t k => by
          refine w46 t ?_
          refine XS.icmpYes X45.here hx rfl (pc0 := 461) (pc' := 498) rfl (hb hby at_461) rfl (feq hc461_47).2 (by decide) (by decide) ?_
          show Steps p.tables e below (T45.setTop (mkF m 498 (own_F12 i i1 i2 i3 i4 i5 (i &&& (3 : Int32)) b33 ca cb cc cd ce) [])) _
          refine XS.aconstNull X45.here hx rfl (hb hby at_498) ?_
          show Steps p.tables e below (T45.setTop (mkF m 499 (own_F12 i i1 i2 i3 i4 i5 (i &&& (3 : Int32)) b33 ca cb cc cd ce) [.null])) _
          refine XS.astore X45.here hx rfl (hb hby at_499) rfl rfl (l' := (own_F15 i i1 i2 i3 i4 i5 (i &&& (3 : Int32)) b33 ca cb cc cd ce)) rfl ?_
          show Steps p.tables e below (T45.setTop (mkF m 501 (own_F15 i i1 i2 i3 i4 i5 (i &&& (3 : Int32)) b33 ca cb cc cd ce) [])) _
          refine XS.aload X45.here hx rfl (hb hby at_501) rfl rfl ?_
          show Steps p.tables e below (T45.setTop (mkF m 503 (own_F15 i i1 i2 i3 i4 i5 (i &&& (3 : Int32)) b33 ca cb cc cd ce) [(.ref b33)])) _
          refine st73.trans ?_
          show Steps p.tables e below (T73.setTop (mkF m 506 (own_F15 i i1 i2 i3 i4 i5 (i &&& (3 : Int32)) b33 ca cb cc cd ce) [(.ref z_73)])) _
          refine XS.aconstNull X73.here hx rfl (hb hby at_506) ?_
          show Steps p.tables e below (T73.setTop (mkF m 507 (own_F15 i i1 i2 i3 i4 i5 (i &&& (3 : Int32)) b33 ca cb cc cd ce) [.null, (.ref z_73)])) _
          refine st74.trans ?_
          show Steps p.tables e below (T74.setTop (mkF m 510 (own_F15 i i1 i2 i3 i4 i5 (i &&& (3 : Int32)) b33 ca cb cc cd ce) [.null])) _
          refine X74.checkcastNull hx (g := (mkF m 510 (own_F15 i i1 i2 i3 i4 i5 (i &&& (3 : Int32)) b33 ca cb cc cd ce) [.null])) rfl rfl (hb hby at_510) _ ?_
          show Steps p.tables e below (T74.setTop (mkF m 513 (own_F15 i i1 i2 i3 i4 i5 (i &&& (3 : Int32)) b33 ca cb cc cd ce) [.null])) _
          refine XS.astore X74.here hx rfl (hb hby at_513) rfl rfl (l' := (own_F16 i i1 i2 i3 i4 i5 (i &&& (3 : Int32)) b33 cb cc cd ce)) rfl ?_
          show Steps p.tables e below (T74.setTop (mkF m 515 (own_F16 i i1 i2 i3 i4 i5 (i &&& (3 : Int32)) b33 cb cc cd ce) [])) _
          refine XS.aload X74.here hx rfl (hb hby at_515) rfl rfl ?_
          show Steps p.tables e below (T74.setTop (mkF m 517 (own_F16 i i1 i2 i3 i4 i5 (i &&& (3 : Int32)) b33 cb cc cd ce) [.null])) _
          refine XS.aload X74.here hx rfl (hb hby at_517) rfl rfl ?_
          show Steps p.tables e below (T74.setTop (mkF m 519 (own_F16 i i1 i2 i3 i4 i5 (i &&& (3 : Int32)) b33 cb cc cd ce) [.null, .null])) _
          refine Jvm.RoadKit.acmp (g := (mkF m 519 (own_F16 i i1 i2 i3 i4 i5 (i &&& (3 : Int32)) b33 cb cc cd ce) [.null, .null])) X74 hx rfl rfl rfl (pc0 := 519) (pc' := 522) (same := true) rfl (hb hby at_519) rfl (decide_eq_true rfl) (by decide) (by decide) ?_
          show Steps p.tables e below (T74.setTop (mkF m 522 (own_F16 i i1 i2 i3 i4 i5 (i &&& (3 : Int32)) b33 cb cc cd ce) [])) _
          refine XS.iconst X74.here hx rfl (hb hby at_522) ?_
          show Steps p.tables e below (T74.setTop (mkF m 523 (own_F16 i i1 i2 i3 i4 i5 (i &&& (3 : Int32)) b33 cb cc cd ce) [(.int (1 : Int32))])) _
          refine XS.goto X74.here hx rfl (pc0 := 523) (pc' := 527) rfl (hb hby at_523) (by decide) (by decide) ?_
          show Steps p.tables e below (T74.setTop (mkF m 527 (own_F16 i i1 i2 i3 i4 i5 (i &&& (3 : Int32)) b33 cb cc cd ce) [(.int (1 : Int32))])) _
          exact k
        obtain ⟨fs, hr, hrun, hended, hE⟩ := Stand.leaveW (s := s) (vm₁ := T73.vm) X74 hS (by rw [eh74]; exact hk) (v := some (.int (1 : Int32))) (fun h => by rw [Bd.returns] at h; cases h)
        refine ⟨_, _, w75 _ ?_, hrun, hended, _, _, rfl, ?_, ?_, own_mono hE (by decide) (by decide)⟩
        · exact retN X74 hx (t := .boolean) Bd.returns (by simp) (hb hby at_527) hr
        · show Q0 Z i i1 i2 i3 i4 i5 kv zc s_VALUES s_COUNT s_SUM_INTEGER s_SUM_LONG s_SUM_DOUBLE s_SUM_BIG_DECIMAL s_MIN s_MAX s_AVG s_EMPTY h0 n0 _ T74.heap _
          rw [eh74]
          exact ⟨rfl, N74⟩
        · rw [hh]; show CHr Z consts_1 s.vm h0 T74.vm T74.heap; rw [eh74]; exact C.trans (CHv.at X74 hZ hEL C.1)
  · obtain ⟨T76, h76, k76, X76, e76, E76, A76, OV76, st76⟩ := newR X0 hx hZ hown (hw _ (List.mem_of_getElem? (i := 0) rfl)) (hw _ (List.mem_of_getElem? (i := 1) rfl)) e0 (g := (mkF m 13 (own_F1 i i1 i2 i3 i4 i5 (i &&& (3 : Int32))) [(.int (23 : Int32))])) rfl (hb hby at_13) rfl (by decide) (cap := 23) (by decide) (by decide) (by decide) (by decide)
    obtain ⟨b76, gq76⟩ : ∃ z, z = Array.size h0 := ⟨_, rfl⟩
    rw [← gq76] at A76 st76
    have g_b76 : n0 ≤ b76 := Nat.le_trans (O.1 ▸ O.2.1) (Nat.le_of_eq gq76.symm)
    have sf_b76 := own_safeN C.1 E76 (Nat.le_of_eq gq76.symm)
    have R := CHr.ext E76 C.1
    have C := C.trans R
    have hk := Nat.le_trans hk E76.1
    have O := O.ext E76
    have V_b76 : Arv Z h76 b76 k76 (.object "java/lang/String") (23 : Int32) [.null, .null, .null, .null, .null, .null, .null, .null, .null, .null, .null, .null, .null, .null, .null, .null, .null, .null, .null, .null, .null, .null, .null] .null := (Arv.new A76 (by decide)).pad (pad_rep [] .null 23)
    have SL : own_SL Z h76 [b76] [] := own_SL.nil _ _ _
    obtain ⟨a77, T77, h77, kk77, b77, kb77, X77, e77, E77, hS, hk', hZ, hown, Ex77, Fc77, Fv77, Av77, -, -, R77, -, Sf77, st77⟩ := ldcCH X76 hx hZ hown (hw _ (List.mem_of_getElem? (i := 2) rfl)) hSA e76 hS hk hEL (List.mem_of_getElem? (i := 8) rfl) C.1 (vs := [(.int (99 : Int32)), (.int (111 : Int32)), (.int (117 : Int32)), (.int (110 : Int32)), (.int (116 : Int32))]) (z := (5 : Int32)) ⟨by decide +kernel, by decide +kernel⟩ (by decide) rfl (g := (mkF m 18 (own_F1 i i1 i2 i3 i4 i5 (i &&& (3 : Int32))) [(.int (0 : Int32)), (.ref b76), (.ref b76)])) rfl (hb hby at_18) (n := 20) (by decide +kernel) (by decide) (by decide) (by decide)
    have R := R77
    have sf_b76 := R.safe V_b76.lt sf_b76
    have C := C.trans R
    have hk := hk'
    have V_b76 := V_b76.ext E77
    have SL := SL.ext E77
    have O := O.ext E77
    have ne_b76_a77 := (Sf77 _ sf_b76).1
    have ne_b76_b77 := (Sf77 _ sf_b76).2
    obtain ⟨cl78, Ar78, q78, Z78, N78, H78, G78⟩ := id V_b76
    have hin78 : ¬ ((0 : Int32) < 0 ∨ cl78.slots.size ≤ ((0 : Int32)).toNatClampNeg) := inb_of Z78 ⟨by decide, by decide⟩
    obtain ⟨T79, h79, X79, e79, W79, st79⟩ := stR X77 hx hZ e77 Ar78 (j := (0 : Int32)) hin78 rfl (Sto.ofV Ar78 q78 OV76 (Ins.self Ex77)) (g := (mkF m 20 (own_F1 i i1 i2 i3 i4 i5 (i &&& (3 : Int32))) [(.ref a77), (.int (0 : Int32)), (.ref b76), (.ref b76)])) rfl rfl (hb hby at_20)
    have R := CHr.wr W79 sf_b76 C.1
    have sf_b76 := R.safe V_b76.lt sf_b76
    have C := C.trans R
    have V_b76 : Arv Z h79 b76 k76 (.object "java/lang/String") (23 : Int32) [(.ref a77), .null, .null, .null, .null, .null, .null, .null, .null, .null, .null, .null, .null, .null, .null, .null, .null, .null, .null, .null, .null, .null, .null] .null := Arv.set Ar78 q78 Z78 N78 H78 G78 rfl W79 0 rfl (Nat.le_of_ble_eq_true rfl)
    have hk := (by rw [W79.size]; exact hk : _ ≤ Array.size h79)
    have SL := SL.wr W79 (List.mem_of_getElem? (i := 0) rfl)
    have Ex77 := Ex77.wr W79
    have Fc77 := Fc77.other W79 (Or.inl (Ne.symm ne_b76_a77))
    have Fv77 := Fv77.other W79 (Or.inl (Ne.symm ne_b76_a77))
    have Av77 := Av77.other W79 (Ne.symm ne_b76_b77)
    have O := O.wr W79 g_b76
    have N79 := Fr.snoc X79 N0 g_b76
    have SL := SL.cons Ex77 Fc77 Fv77 Av77 (fun q => (Ne.symm ne_b76_a77) (List.mem_singleton.mp q)) (fun q => (Ne.symm ne_b76_b77) (List.mem_singleton.mp q))
    obtain ⟨a80, T80, h80, kk80, b80, kb80, X80, e80, E80, hS, hk', hZ, hown, Ex80, Fc80, Fv80, Av80, -, -, R80, -, Sf80, st80⟩ := ldcCH X79 hx hZ hown (hw _ (List.mem_of_getElem? (i := 11) rfl)) hSA e79 hS hk hEL (List.mem_of_getElem? (i := 9) rfl) C.1 (vs := [(.int (115 : Int32)), (.int (117 : Int32)), (.int (109 : Int32)), (.int (73 : Int32)), (.int (110 : Int32)), (.int (116 : Int32)), (.int (101 : Int32)), (.int (103 : Int32)), (.int (101 : Int32)), (.int (114 : Int32))]) (z := (10 : Int32)) ⟨by decide +kernel, by decide +kernel⟩ (by decide) rfl (g := (mkF m 23 (own_F1 i i1 i2 i3 i4 i5 (i &&& (3 : Int32))) [(.int (1 : Int32)), (.ref b76), (.ref b76)])) rfl (hb hby at_23) (n := 40) (by decide +kernel) (by decide) (by decide) (by decide)
    have R := R80
    have sf_b76 := R.safe V_b76.lt sf_b76
    have C := C.trans R
    have hk := hk'
    have V_b76 := V_b76.ext E80
    have SL := SL.ext E80
    have O := O.ext E80
    have ne_b76_a80 := (Sf80 _ sf_b76).1
    have ne_b76_b80 := (Sf80 _ sf_b76).2
    obtain ⟨cl81, Ar81, q81, Z81, N81, H81, G81⟩ := id V_b76
    have hin81 : ¬ ((1 : Int32) < 0 ∨ cl81.slots.size ≤ ((1 : Int32)).toNatClampNeg) := inb_of Z81 ⟨by decide, by decide⟩
    obtain ⟨T82, h82, X82, e82, W82, st82⟩ := stR X80 hx hZ e80 Ar81 (j := (1 : Int32)) hin81 rfl (Sto.ofV Ar81 q81 OV76 (Ins.self Ex80)) (g := (mkF m 25 (own_F1 i i1 i2 i3 i4 i5 (i &&& (3 : Int32))) [(.ref a80), (.int (1 : Int32)), (.ref b76), (.ref b76)])) rfl rfl (hb hby at_25)
    have R := CHr.wr W82 sf_b76 C.1
    have sf_b76 := R.safe V_b76.lt sf_b76
    have C := C.trans R
    have V_b76 : Arv Z h82 b76 k76 (.object "java/lang/String") (23 : Int32) [(.ref a77), (.ref a80), .null, .null, .null, .null, .null, .null, .null, .null, .null, .null, .null, .null, .null, .null, .null, .null, .null, .null, .null, .null, .null] .null := Arv.set Ar81 q81 Z81 N81 H81 G81 rfl W82 1 rfl (Nat.le_of_ble_eq_true rfl)
    have hk := (by rw [W82.size]; exact hk : _ ≤ Array.size h82)
    have SL := SL.wr W82 (List.mem_of_getElem? (i := 0) rfl)
    have Ex80 := Ex80.wr W82
    have Fc80 := Fc80.other W82 (Or.inl (Ne.symm ne_b76_a80))
    have Fv80 := Fv80.other W82 (Or.inl (Ne.symm ne_b76_a80))
    have Av80 := Av80.other W82 (Ne.symm ne_b76_b80)
    have O := O.wr W82 g_b76
    have N82 := Fr.snoc X82 N79 g_b76
    have SL := SL.cons Ex80 Fc80 Fv80 Av80 (fun q => (Ne.symm ne_b76_a80) (List.mem_singleton.mp q)) (fun q => (Ne.symm ne_b76_b80) (List.mem_singleton.mp q))
    obtain ⟨a83, T83, h83, kk83, b83, kb83, X83, e83, E83, hS, hk', hZ, hown, Ex83, Fc83, Fv83, Av83, -, -, R83, -, Sf83, st83⟩ := ldcCH X82 hx hZ hown (hw _ (List.mem_of_getElem? (i := 12) rfl)) hSA e82 hS hk hEL (List.mem_of_getElem? (i := 10) rfl) C.1 (vs := [(.int (115 : Int32)), (.int (117 : Int32)), (.int (109 : Int32)), (.int (76 : Int32)), (.int (111 : Int32)), (.int (110 : Int32)), (.int (103 : Int32))]) (z := (7 : Int32)) ⟨by decide +kernel, by decide +kernel⟩ (by decide) rfl (g := (mkF m 28 (own_F1 i i1 i2 i3 i4 i5 (i &&& (3 : Int32))) [(.int (2 : Int32)), (.ref b76), (.ref b76)])) rfl (hb hby at_28) (n := 28) (by decide +kernel) (by decide) (by decide) (by decide)
    have R := R83
    have sf_b76 := R.safe V_b76.lt sf_b76
    have C := C.trans R
    have hk := hk'
    have V_b76 := V_b76.ext E83
    have SL := SL.ext E83
    have O := O.ext E83
    have ne_b76_a83 := (Sf83 _ sf_b76).1
    have ne_b76_b83 := (Sf83 _ sf_b76).2
    obtain ⟨cl84, Ar84, q84, Z84, N84, H84, G84⟩ := id V_b76
    have hin84 : ¬ ((2 : Int32) < 0 ∨ cl84.slots.size ≤ ((2 : Int32)).toNatClampNeg) := inb_of Z84 ⟨by decide, by decide⟩
    obtain ⟨T85, h85, X85, e85, W85, st85⟩ := stR X83 hx hZ e83 Ar84 (j := (2 : Int32)) hin84 rfl (Sto.ofV Ar84 q84 OV76 (Ins.self Ex83)) (g := (mkF m 30 (own_F1 i i1 i2 i3 i4 i5 (i &&& (3 : Int32))) [(.ref a83), (.int (2 : Int32)), (.ref b76), (.ref b76)])) rfl rfl (hb hby at_30)
    have R := CHr.wr W85 sf_b76 C.1
    have sf_b76 := R.safe V_b76.lt sf_b76
    have C := C.trans R
    have V_b76 : Arv Z h85 b76 k76 (.object "java/lang/String") (23 : Int32) [(.ref a77), (.ref a80), (.ref a83), .null, .null, .null, .null, .null, .null, .null, .null, .null, .null, .null, .null, .null, .null, .null, .null, .null, .null, .null, .null] .null := Arv.set Ar84 q84 Z84 N84 H84 G84 rfl W85 2 rfl (Nat.le_of_ble_eq_true rfl)
    have hk := (by rw [W85.size]; exact hk : _ ≤ Array.size h85)
    have SL := SL.wr W85 (List.mem_of_getElem? (i := 0) rfl)
    have Ex83 := Ex83.wr W85
    have Fc83 := Fc83.other W85 (Or.inl (Ne.symm ne_b76_a83))
    have Fv83 := Fv83.other W85 (Or.inl (Ne.symm ne_b76_a83))
    have Av83 := Av83.other W85 (Ne.symm ne_b76_b83)
    have O := O.wr W85 g_b76
    have N85 := Fr.snoc X85 N82 g_b76
    have SL := SL.cons Ex83 Fc83 Fv83 Av83 (fun q => (Ne.symm ne_b76_a83) (List.mem_singleton.mp q)) (fun q => (Ne.symm ne_b76_b83) (List.mem_singleton.mp q))
    obtain ⟨a86, T86, h86, kk86, b86, kb86, X86, e86, E86, hS, hk', hZ, hown, Ex86, Fc86, Fv86, Av86, -, -, R86, -, Sf86, st86⟩ := ldcCH X85 hx hZ hown (hw _ (List.mem_of_getElem? (i := 13) rfl)) hSA e85 hS hk hEL (List.mem_of_getElem? (i := 11) rfl) C.1 (vs := [(.int (115 : Int32)), (.int (117 : Int32)), (.int (109 : Int32)), (.int (68 : Int32)), (.int (111 : Int32)), (.int (117 : Int32)), (.int (98 : Int32)), (.int (108 : Int32)), (.int (101 : Int32))]) (z := (9 : Int32)) ⟨by decide +kernel, by decide +kernel⟩ (by decide) rfl (g := (mkF m 33 (own_F1 i i1 i2 i3 i4 i5 (i &&& (3 : Int32))) [(.int (3 : Int32)), (.ref b76), (.ref b76)])) rfl (hb hby at_33) (n := 36) (by decide +kernel) (by decide) (by decide) (by decide)
    have R := R86
    have sf_b76 := R.safe V_b76.lt sf_b76
    have C := C.trans R
    have hk := hk'
    have V_b76 := V_b76.ext E86
    have SL := SL.ext E86
    have O := O.ext E86
    have ne_b76_a86 := (Sf86 _ sf_b76).1
    have ne_b76_b86 := (Sf86 _ sf_b76).2
    obtain ⟨cl87, Ar87, q87, Z87, N87, H87, G87⟩ := id V_b76
    have hin87 : ¬ ((3 : Int32) < 0 ∨ cl87.slots.size ≤ ((3 : Int32)).toNatClampNeg) := inb_of Z87 ⟨by decide, by decide⟩
    obtain ⟨T88, h88, X88, e88, W88, st88⟩ := stR X86 hx hZ e86 Ar87 (j := (3 : Int32)) hin87 rfl (Sto.ofV Ar87 q87 OV76 (Ins.self Ex86)) (g := (mkF m 35 (own_F1 i i1 i2 i3 i4 i5 (i &&& (3 : Int32))) [(.ref a86), (.int (3 : Int32)), (.ref b76), (.ref b76)])) rfl rfl (hb hby at_35)
    have R := CHr.wr W88 sf_b76 C.1
    have sf_b76 := R.safe V_b76.lt sf_b76
    have C := C.trans R
    have V_b76 : Arv Z h88 b76 k76 (.object "java/lang/String") (23 : Int32) [(.ref a77), (.ref a80), (.ref a83), (.ref a86), .null, .null, .null, .null, .null, .null, .null, .null, .null, .null, .null, .null, .null, .null, .null, .null, .null, .null, .null] .null := Arv.set Ar87 q87 Z87 N87 H87 G87 rfl W88 3 rfl (Nat.le_of_ble_eq_true rfl)
    have hk := (by rw [W88.size]; exact hk : _ ≤ Array.size h88)
    have SL := SL.wr W88 (List.mem_of_getElem? (i := 0) rfl)
    have Ex86 := Ex86.wr W88
    have Fc86 := Fc86.other W88 (Or.inl (Ne.symm ne_b76_a86))
    have Fv86 := Fv86.other W88 (Or.inl (Ne.symm ne_b76_a86))
    have Av86 := Av86.other W88 (Ne.symm ne_b76_b86)
    have O := O.wr W88 g_b76
    have N88 := Fr.snoc X88 N85 g_b76
    have SL := SL.cons Ex86 Fc86 Fv86 Av86 (fun q => (Ne.symm ne_b76_a86) (List.mem_singleton.mp q)) (fun q => (Ne.symm ne_b76_b86) (List.mem_singleton.mp q))
    obtain ⟨a89, T89, h89, kk89, b89, kb89, X89, e89, E89, hS, hk', hZ, hown, Ex89, Fc89, Fv89, Av89, -, -, R89, -, Sf89, st89⟩ := ldcCH X88 hx hZ hown (hw _ (List.mem_of_getElem? (i := 14) rfl)) hSA e88 hS hk hEL (List.mem_of_getElem? (i := 12) rfl) C.1 (vs := [(.int (115 : Int32)), (.int (117 : Int32)), (.int (109 : Int32)), (.int (66 : Int32)), (.int (105 : Int32)), (.int (103 : Int32)), (.int (68 : Int32)), (.int (101 : Int32)), (.int (99 : Int32)), (.int (105 : Int32)), (.int (109 : Int32)), (.int (97 : Int32)), (.int (108 : Int32))]) (z := (13 : Int32)) ⟨by decide +kernel, by decide +kernel⟩ (by decide) rfl (g := (mkF m 38 (own_F1 i i1 i2 i3 i4 i5 (i &&& (3 : Int32))) [(.int (4 : Int32)), (.ref b76), (.ref b76)])) rfl (hb hby at_38) (n := 52) (by decide +kernel) (by decide) (by decide) (by decide)
    have R := R89
    have sf_b76 := R.safe V_b76.lt sf_b76
    have C := C.trans R
    have hk := hk'
    have V_b76 := V_b76.ext E89
    have SL := SL.ext E89
    have O := O.ext E89
    have ne_b76_a89 := (Sf89 _ sf_b76).1
    have ne_b76_b89 := (Sf89 _ sf_b76).2
    obtain ⟨cl90, Ar90, q90, Z90, N90, H90, G90⟩ := id V_b76
    have hin90 : ¬ ((4 : Int32) < 0 ∨ cl90.slots.size ≤ ((4 : Int32)).toNatClampNeg) := inb_of Z90 ⟨by decide, by decide⟩
    obtain ⟨T91, h91, X91, e91, W91, st91⟩ := stR X89 hx hZ e89 Ar90 (j := (4 : Int32)) hin90 rfl (Sto.ofV Ar90 q90 OV76 (Ins.self Ex89)) (g := (mkF m 40 (own_F1 i i1 i2 i3 i4 i5 (i &&& (3 : Int32))) [(.ref a89), (.int (4 : Int32)), (.ref b76), (.ref b76)])) rfl rfl (hb hby at_40)
    have R := CHr.wr W91 sf_b76 C.1
    have sf_b76 := R.safe V_b76.lt sf_b76
    have C := C.trans R
    have V_b76 : Arv Z h91 b76 k76 (.object "java/lang/String") (23 : Int32) [(.ref a77), (.ref a80), (.ref a83), (.ref a86), (.ref a89), .null, .null, .null, .null, .null, .null, .null, .null, .null, .null, .null, .null, .null, .null, .null, .null, .null, .null] .null := Arv.set Ar90 q90 Z90 N90 H90 G90 rfl W91 4 rfl (Nat.le_of_ble_eq_true rfl)
    have hk := (by rw [W91.size]; exact hk : _ ≤ Array.size h91)
    have SL := SL.wr W91 (List.mem_of_getElem? (i := 0) rfl)
    have Ex89 := Ex89.wr W91
    have Fc89 := Fc89.other W91 (Or.inl (Ne.symm ne_b76_a89))
    have Fv89 := Fv89.other W91 (Or.inl (Ne.symm ne_b76_a89))
    have Av89 := Av89.other W91 (Ne.symm ne_b76_b89)
    have O := O.wr W91 g_b76
    have N91 := Fr.snoc X91 N88 g_b76
    have SL := SL.cons Ex89 Fc89 Fv89 Av89 (fun q => (Ne.symm ne_b76_a89) (List.mem_singleton.mp q)) (fun q => (Ne.symm ne_b76_b89) (List.mem_singleton.mp q))
    obtain ⟨a92, T92, h92, kk92, b92, kb92, X92, e92, E92, hS, hk', hZ, hown, Ex92, Fc92, Fv92, Av92, -, -, R92, -, Sf92, st92⟩ := ldcCH X91 hx hZ hown (hw _ (List.mem_of_getElem? (i := 15) rfl)) hSA e91 hS hk hEL (List.mem_of_getElem? (i := 13) rfl) C.1 (vs := [(.int (109 : Int32)), (.int (105 : Int32)), (.int (110 : Int32))]) (z := (3 : Int32)) ⟨by decide +kernel, by decide +kernel⟩ (by decide) rfl (g := (mkF m 43 (own_F1 i i1 i2 i3 i4 i5 (i &&& (3 : Int32))) [(.int (5 : Int32)), (.ref b76), (.ref b76)])) rfl (hb hby at_43) (n := 12) (by decide +kernel) (by decide) (by decide) (by decide)
    have R := R92
    have sf_b76 := R.safe V_b76.lt sf_b76
    have C := C.trans R
    have hk := hk'
    have V_b76 := V_b76.ext E92
    have SL := SL.ext E92
    have O := O.ext E92
    have ne_b76_a92 := (Sf92 _ sf_b76).1
    have ne_b76_b92 := (Sf92 _ sf_b76).2
    obtain ⟨cl93, Ar93, q93, Z93, N93, H93, G93⟩ := id V_b76
    have hin93 : ¬ ((5 : Int32) < 0 ∨ cl93.slots.size ≤ ((5 : Int32)).toNatClampNeg) := inb_of Z93 ⟨by decide, by decide⟩
    obtain ⟨T94, h94, X94, e94, W94, st94⟩ := stR X92 hx hZ e92 Ar93 (j := (5 : Int32)) hin93 rfl (Sto.ofV Ar93 q93 OV76 (Ins.self Ex92)) (g := (mkF m 45 (own_F1 i i1 i2 i3 i4 i5 (i &&& (3 : Int32))) [(.ref a92), (.int (5 : Int32)), (.ref b76), (.ref b76)])) rfl rfl (hb hby at_45)
    have R := CHr.wr W94 sf_b76 C.1
    have sf_b76 := R.safe V_b76.lt sf_b76
    have C := C.trans R
    have V_b76 : Arv Z h94 b76 k76 (.object "java/lang/String") (23 : Int32) [(.ref a77), (.ref a80), (.ref a83), (.ref a86), (.ref a89), (.ref a92), .null, .null, .null, .null, .null, .null, .null, .null, .null, .null, .null, .null, .null, .null, .null, .null, .null] .null := Arv.set Ar93 q93 Z93 N93 H93 G93 rfl W94 5 rfl (Nat.le_of_ble_eq_true rfl)
    have hk := (by rw [W94.size]; exact hk : _ ≤ Array.size h94)
    have SL := SL.wr W94 (List.mem_of_getElem? (i := 0) rfl)
    have Ex92 := Ex92.wr W94
    have Fc92 := Fc92.other W94 (Or.inl (Ne.symm ne_b76_a92))
    have Fv92 := Fv92.other W94 (Or.inl (Ne.symm ne_b76_a92))
    have Av92 := Av92.other W94 (Ne.symm ne_b76_b92)
    have O := O.wr W94 g_b76
    have N94 := Fr.snoc X94 N91 g_b76
    have SL := SL.cons Ex92 Fc92 Fv92 Av92 (fun q => (Ne.symm ne_b76_a92) (List.mem_singleton.mp q)) (fun q => (Ne.symm ne_b76_b92) (List.mem_singleton.mp q))
    obtain ⟨a95, T95, h95, kk95, b95, kb95, X95, e95, E95, hS, hk', hZ, hown, Ex95, Fc95, Fv95, Av95, -, -, R95, -, Sf95, st95⟩ := ldcCH X94 hx hZ hown (hw _ (List.mem_of_getElem? (i := 16) rfl)) hSA e94 hS hk hEL (List.mem_of_getElem? (i := 14) rfl) C.1 (vs := [(.int (109 : Int32)), (.int (97 : Int32)), (.int (120 : Int32))]) (z := (3 : Int32)) ⟨by decide +kernel, by decide +kernel⟩ (by decide) rfl (g := (mkF m 49 (own_F1 i i1 i2 i3 i4 i5 (i &&& (3 : Int32))) [(.int (6 : Int32)), (.ref b76), (.ref b76)])) rfl (hb hby at_49) (n := 12) (by decide +kernel) (by decide) (by decide) (by decide)
    have R := R95
    have sf_b76 := R.safe V_b76.lt sf_b76
    have C := C.trans R
    have hk := hk'
    have V_b76 := V_b76.ext E95
    have SL := SL.ext E95
    have O := O.ext E95
    have ne_b76_a95 := (Sf95 _ sf_b76).1
    have ne_b76_b95 := (Sf95 _ sf_b76).2
    obtain ⟨cl96, Ar96, q96, Z96, N96, H96, G96⟩ := id V_b76
    have hin96 : ¬ ((6 : Int32) < 0 ∨ cl96.slots.size ≤ ((6 : Int32)).toNatClampNeg) := inb_of Z96 ⟨by decide, by decide⟩
    obtain ⟨T97, h97, X97, e97, W97, st97⟩ := stR X95 hx hZ e95 Ar96 (j := (6 : Int32)) hin96 rfl (Sto.ofV Ar96 q96 OV76 (Ins.self Ex95)) (g := (mkF m 51 (own_F1 i i1 i2 i3 i4 i5 (i &&& (3 : Int32))) [(.ref a95), (.int (6 : Int32)), (.ref b76), (.ref b76)])) rfl rfl (hb hby at_51)
    have R := CHr.wr W97 sf_b76 C.1
    have sf_b76 := R.safe V_b76.lt sf_b76
    have C := C.trans R
    have V_b76 : Arv Z h97 b76 k76 (.object "java/lang/String") (23 : Int32) [(.ref a77), (.ref a80), (.ref a83), (.ref a86), (.ref a89), (.ref a92), (.ref a95), .null, .null, .null, .null, .null, .null, .null, .null, .null, .null, .null, .null, .null, .null, .null, .null] .null := Arv.set Ar96 q96 Z96 N96 H96 G96 rfl W97 6 rfl (Nat.le_of_ble_eq_true rfl)
    have hk := (by rw [W97.size]; exact hk : _ ≤ Array.size h97)
    have SL := SL.wr W97 (List.mem_of_getElem? (i := 0) rfl)
    have Ex95 := Ex95.wr W97
    have Fc95 := Fc95.other W97 (Or.inl (Ne.symm ne_b76_a95))
    have Fv95 := Fv95.other W97 (Or.inl (Ne.symm ne_b76_a95))
    have Av95 := Av95.other W97 (Ne.symm ne_b76_b95)
    have O := O.wr W97 g_b76
    have N97 := Fr.snoc X97 N94 g_b76
    have SL := SL.cons Ex95 Fc95 Fv95 Av95 (fun q => (Ne.symm ne_b76_a95) (List.mem_singleton.mp q)) (fun q => (Ne.symm ne_b76_b95) (List.mem_singleton.mp q))
    obtain ⟨a98, T98, h98, kk98, b98, kb98, X98, e98, E98, hS, hk', hZ, hown, Ex98, Fc98, Fv98, Av98, -, -, R98, -, Sf98, st98⟩ := ldcCH X97 hx hZ hown (hw _ (List.mem_of_getElem? (i := 17) rfl)) hSA e97 hS hk hEL (List.mem_of_getElem? (i := 15) rfl) C.1 (vs := [(.int (97 : Int32)), (.int (118 : Int32)), (.int (103 : Int32))]) (z := (3 : Int32)) ⟨by decide +kernel, by decide +kernel⟩ (by decide) rfl (g := (mkF m 55 (own_F1 i i1 i2 i3 i4 i5 (i &&& (3 : Int32))) [(.int (7 : Int32)), (.ref b76), (.ref b76)])) rfl (hb hby at_55) (n := 12) (by decide +kernel) (by decide) (by decide) (by decide)
    have R := R98
    have sf_b76 := R.safe V_b76.lt sf_b76
    have C := C.trans R
    have hk := hk'
    have V_b76 := V_b76.ext E98
    have SL := SL.ext E98
    have O := O.ext E98
    have ne_b76_a98 := (Sf98 _ sf_b76).1
    have ne_b76_b98 := (Sf98 _ sf_b76).2
    obtain ⟨cl99, Ar99, q99, Z99, N99, H99, G99⟩ := id V_b76
    have hin99 : ¬ ((7 : Int32) < 0 ∨ cl99.slots.size ≤ ((7 : Int32)).toNatClampNeg) := inb_of Z99 ⟨by decide, by decide⟩
    obtain ⟨T100, h100, X100, e100, W100, st100⟩ := stR X98 hx hZ e98 Ar99 (j := (7 : Int32)) hin99 rfl (Sto.ofV Ar99 q99 OV76 (Ins.self Ex98)) (g := (mkF m 57 (own_F1 i i1 i2 i3 i4 i5 (i &&& (3 : Int32))) [(.ref a98), (.int (7 : Int32)), (.ref b76), (.ref b76)])) rfl rfl (hb hby at_57)
    have R := CHr.wr W100 sf_b76 C.1
    have sf_b76 := R.safe V_b76.lt sf_b76
    have C := C.trans R
    have V_b76 : Arv Z h100 b76 k76 (.object "java/lang/String") (23 : Int32) [(.ref a77), (.ref a80), (.ref a83), (.ref a86), (.ref a89), (.ref a92), (.ref a95), (.ref a98), .null, .null, .null, .null, .null, .null, .null, .null, .null, .null, .null, .null, .null, .null, .null] .null := Arv.set Ar99 q99 Z99 N99 H99 G99 rfl W100 7 rfl (Nat.le_of_ble_eq_true rfl)
    have hk := (by rw [W100.size]; exact hk : _ ≤ Array.size h100)
    have SL := SL.wr W100 (List.mem_of_getElem? (i := 0) rfl)
    have Ex98 := Ex98.wr W100
    have Fc98 := Fc98.other W100 (Or.inl (Ne.symm ne_b76_a98))
    have Fv98 := Fv98.other W100 (Or.inl (Ne.symm ne_b76_a98))
    have Av98 := Av98.other W100 (Ne.symm ne_b76_b98)
    have O := O.wr W100 g_b76
    have N100 := Fr.snoc X100 N97 g_b76
    have SL := SL.cons Ex98 Fc98 Fv98 Av98 (fun q => (Ne.symm ne_b76_a98) (List.mem_singleton.mp q)) (fun q => (Ne.symm ne_b76_b98) (List.mem_singleton.mp q))
    obtain ⟨a101, T101, h101, kk101, b101, kb101, X101, e101, E101, hS, hk', hZ, hown, Ex101, Fc101, Fv101, Av101, -, -, R101, -, Sf101, st101⟩ := ldcCH X100 hx hZ hown (hw _ (List.mem_of_getElem? (i := 18) rfl)) hSA e100 hS hk hEL (List.mem_of_getElem? (i := 16) rfl) C.1 (vs := [(.int (67 : Int32)), (.int (79 : Int32)), (.int (85 : Int32)), (.int (78 : Int32)), (.int (84 : Int32))]) (z := (5 : Int32)) ⟨by decide +kernel, by decide +kernel⟩ (by decide) rfl (g := (mkF m 61 (own_F1 i i1 i2 i3 i4 i5 (i &&& (3 : Int32))) [(.int (8 : Int32)), (.ref b76), (.ref b76)])) rfl (hb hby at_61) (n := 20) (by decide +kernel) (by decide) (by decide) (by decide)
    have R := R101
    have sf_b76 := R.safe V_b76.lt sf_b76
    have C := C.trans R
    have hk := hk'
    have V_b76 := V_b76.ext E101
    have SL := SL.ext E101
    have O := O.ext E101
    have ne_b76_a101 := (Sf101 _ sf_b76).1
    have ne_b76_b101 := (Sf101 _ sf_b76).2
    obtain ⟨cl102, Ar102, q102, Z102, N102, H102, G102⟩ := id V_b76
    have hin102 : ¬ ((8 : Int32) < 0 ∨ cl102.slots.size ≤ ((8 : Int32)).toNatClampNeg) := inb_of Z102 ⟨by decide, by decide⟩
    obtain ⟨T103, h103, X103, e103, W103, st103⟩ := stR X101 hx hZ e101 Ar102 (j := (8 : Int32)) hin102 rfl (Sto.ofV Ar102 q102 OV76 (Ins.self Ex101)) (g := (mkF m 63 (own_F1 i i1 i2 i3 i4 i5 (i &&& (3 : Int32))) [(.ref a101), (.int (8 : Int32)), (.ref b76), (.ref b76)])) rfl rfl (hb hby at_63)
    have R := CHr.wr W103 sf_b76 C.1
    have sf_b76 := R.safe V_b76.lt sf_b76
    have C := C.trans R
    have V_b76 : Arv Z h103 b76 k76 (.object "java/lang/String") (23 : Int32) [(.ref a77), (.ref a80), (.ref a83), (.ref a86), (.ref a89), (.ref a92), (.ref a95), (.ref a98), (.ref a101), .null, .null, .null, .null, .null, .null, .null, .null, .null, .null, .null, .null, .null, .null] .null := Arv.set Ar102 q102 Z102 N102 H102 G102 rfl W103 8 rfl (Nat.le_of_ble_eq_true rfl)
    have hk := (by rw [W103.size]; exact hk : _ ≤ Array.size h103)
    have SL := SL.wr W103 (List.mem_of_getElem? (i := 0) rfl)
    have Ex101 := Ex101.wr W103
    have Fc101 := Fc101.other W103 (Or.inl (Ne.symm ne_b76_a101))
    have Fv101 := Fv101.other W103 (Or.inl (Ne.symm ne_b76_a101))
    have Av101 := Av101.other W103 (Ne.symm ne_b76_b101)
    have O := O.wr W103 g_b76
    have N103 := Fr.snoc X103 N100 g_b76
    have SL := SL.cons Ex101 Fc101 Fv101 Av101 (fun q => (Ne.symm ne_b76_a101) (List.mem_singleton.mp q)) (fun q => (Ne.symm ne_b76_b101) (List.mem_singleton.mp q))
    obtain ⟨a104, T104, h104, kk104, b104, kb104, X104, e104, E104, hS, hk', hZ, hown, Ex104, Fc104, Fv104, Av104, -, -, R104, -, Sf104, st104⟩ := ldcCH X103 hx hZ hown (hw _ (List.mem_of_getElem? (i := 19) rfl)) hSA e103 hS hk hEL (List.mem_of_getElem? (i := 17) rfl) C.1 (vs := [(.int (67 : Int32)), (.int (111 : Int32)), (.int (117 : Int32)), (.int (110 : Int32)), (.int (116 : Int32))]) (z := (5 : Int32)) ⟨by decide +kernel, by decide +kernel⟩ (by decide) rfl (g := (mkF m 67 (own_F1 i i1 i2 i3 i4 i5 (i &&& (3 : Int32))) [(.int (9 : Int32)), (.ref b76), (.ref b76)])) rfl (hb hby at_67) (n := 20) (by decide +kernel) (by decide) (by decide) (by decide)
    have R := R104
    have sf_b76 := R.safe V_b76.lt sf_b76
    have C := C.trans R
    have hk := hk'
    have V_b76 := V_b76.ext E104
    have SL := SL.ext E104
    have O := O.ext E104
    have ne_b76_a104 := (Sf104 _ sf_b76).1
    have ne_b76_b104 := (Sf104 _ sf_b76).2
    obtain ⟨cl105, Ar105, q105, Z105, N105, H105, G105⟩ := id V_b76
    have hin105 : ¬ ((9 : Int32) < 0 ∨ cl105.slots.size ≤ ((9 : Int32)).toNatClampNeg) := inb_of Z105 ⟨by decide, by decide⟩
    obtain ⟨T106, h106, X106, e106, W106, st106⟩ := stR X104 hx hZ e104 Ar105 (j := (9 : Int32)) hin105 rfl (Sto.ofV Ar105 q105 OV76 (Ins.self Ex104)) (g := (mkF m 69 (own_F1 i i1 i2 i3 i4 i5 (i &&& (3 : Int32))) [(.ref a104), (.int (9 : Int32)), (.ref b76), (.ref b76)])) rfl rfl (hb hby at_69)
    have R := CHr.wr W106 sf_b76 C.1
    have sf_b76 := R.safe V_b76.lt sf_b76
    have C := C.trans R
    have V_b76 : Arv Z h106 b76 k76 (.object "java/lang/String") (23 : Int32) [(.ref a77), (.ref a80), (.ref a83), (.ref a86), (.ref a89), (.ref a92), (.ref a95), (.ref a98), (.ref a101), (.ref a104), .null, .null, .null, .null, .null, .null, .null, .null, .null, .null, .null, .null, .null] .null := Arv.set Ar105 q105 Z105 N105 H105 G105 rfl W106 9 rfl (Nat.le_of_ble_eq_true rfl)
    have hk := (by rw [W106.size]; exact hk : _ ≤ Array.size h106)
    have SL := SL.wr W106 (List.mem_of_getElem? (i := 0) rfl)
    have Ex104 := Ex104.wr W106
    have Fc104 := Fc104.other W106 (Or.inl (Ne.symm ne_b76_a104))
    have Fv104 := Fv104.other W106 (Or.inl (Ne.symm ne_b76_a104))
    have Av104 := Av104.other W106 (Ne.symm ne_b76_b104)
    have O := O.wr W106 g_b76
    have N106 := Fr.snoc X106 N103 g_b76
    have SL := SL.cons Ex104 Fc104 Fv104 Av104 (fun q => (Ne.symm ne_b76_a104) (List.mem_singleton.mp q)) (fun q => (Ne.symm ne_b76_b104) (List.mem_singleton.mp q))
    obtain ⟨a107, T107, h107, kk107, b107, kb107, X107, e107, E107, hS, hk', hZ, hown, Ex107, Fc107, Fv107, Av107, -, -, R107, -, Sf107, st107⟩ := ldcCH X106 hx hZ hown (hw _ (List.mem_of_getElem? (i := 20) rfl)) hSA e106 hS hk hEL (List.mem_of_getElem? (i := 18) rfl) C.1 (vs := [(.int (115 : Int32)), (.int (117 : Int32)), (.int (109 : Int32))]) (z := (3 : Int32)) ⟨by decide +kernel, by decide +kernel⟩ (by decide) rfl (g := (mkF m 73 (own_F1 i i1 i2 i3 i4 i5 (i &&& (3 : Int32))) [(.int (10 : Int32)), (.ref b76), (.ref b76)])) rfl (hb hby at_73) (n := 12) (by decide +kernel) (by decide) (by decide) (by decide)
    have R := R107
    have sf_b76 := R.safe V_b76.lt sf_b76
    have C := C.trans R
    have hk := hk'
    have V_b76 := V_b76.ext E107
    have SL := SL.ext E107
    have O := O.ext E107
    have ne_b76_a107 := (Sf107 _ sf_b76).1
    have ne_b76_b107 := (Sf107 _ sf_b76).2
    obtain ⟨cl108, Ar108, q108, Z108, N108, H108, G108⟩ := id V_b76
    have hin108 : ¬ ((10 : Int32) < 0 ∨ cl108.slots.size ≤ ((10 : Int32)).toNatClampNeg) := inb_of Z108 ⟨by decide, by decide⟩
    obtain ⟨T109, h109, X109, e109, W109, st109⟩ := stR X107 hx hZ e107 Ar108 (j := (10 : Int32)) hin108 rfl (Sto.ofV Ar108 q108 OV76 (Ins.self Ex107)) (g := (mkF m 75 (own_F1 i i1 i2 i3 i4 i5 (i &&& (3 : Int32))) [(.ref a107), (.int (10 : Int32)), (.ref b76), (.ref b76)])) rfl rfl (hb hby at_75)
    have R := CHr.wr W109 sf_b76 C.1
    have sf_b76 := R.safe V_b76.lt sf_b76
    have C := C.trans R
    have V_b76 : Arv Z h109 b76 k76 (.object "java/lang/String") (23 : Int32) [(.ref a77), (.ref a80), (.ref a83), (.ref a86), (.ref a89), (.ref a92), (.ref a95), (.ref a98), (.ref a101), (.ref a104), (.ref a107), .null, .null, .null, .null, .null, .null, .null, .null, .null, .null, .null, .null] .null := Arv.set Ar108 q108 Z108 N108 H108 G108 rfl W109 10 rfl (Nat.le_of_ble_eq_true rfl)
    have hk := (by rw [W109.size]; exact hk : _ ≤ Array.size h109)
    have SL := SL.wr W109 (List.mem_of_getElem? (i := 0) rfl)
    have Ex107 := Ex107.wr W109
    have Fc107 := Fc107.other W109 (Or.inl (Ne.symm ne_b76_a107))
    have Fv107 := Fv107.other W109 (Or.inl (Ne.symm ne_b76_a107))
    have Av107 := Av107.other W109 (Ne.symm ne_b76_b107)
    have O := O.wr W109 g_b76
    have N109 := Fr.snoc X109 N106 g_b76
    have SL := SL.cons Ex107 Fc107 Fv107 Av107 (fun q => (Ne.symm ne_b76_a107) (List.mem_singleton.mp q)) (fun q => (Ne.symm ne_b76_b107) (List.mem_singleton.mp q))
    obtain ⟨a110, T110, h110, kk110, b110, kb110, X110, e110, E110, hS, hk', hZ, hown, Ex110, Fc110, Fv110, Av110, -, -, R110, -, Sf110, st110⟩ := ldcCH X109 hx hZ hown (hw _ (List.mem_of_getElem? (i := 21) rfl)) hSA e109 hS hk hEL (List.mem_of_getElem? (i := 19) rfl) C.1 (vs := [(.int (115 : Int32)), (.int (117 : Int32)), (.int (109 : Int32)), (.int (105 : Int32)), (.int (110 : Int32)), (.int (116 : Int32)), (.int (101 : Int32)), (.int (103 : Int32)), (.int (101 : Int32)), (.int (114 : Int32))]) (z := (10 : Int32)) ⟨by decide +kernel, by decide +kernel⟩ (by decide) rfl (g := (mkF m 79 (own_F1 i i1 i2 i3 i4 i5 (i &&& (3 : Int32))) [(.int (11 : Int32)), (.ref b76), (.ref b76)])) rfl (hb hby at_79) (n := 40) (by decide +kernel) (by decide) (by decide) (by decide)
    have R := R110
    have sf_b76 := R.safe V_b76.lt sf_b76
    have C := C.trans R
    have hk := hk'
    have V_b76 := V_b76.ext E110
    have SL := SL.ext E110
    have O := O.ext E110
    have ne_b76_a110 := (Sf110 _ sf_b76).1
    have ne_b76_b110 := (Sf110 _ sf_b76).2
    obtain ⟨cl111, Ar111, q111, Z111, N111, H111, G111⟩ := id V_b76
    have hin111 : ¬ ((11 : Int32) < 0 ∨ cl111.slots.size ≤ ((11 : Int32)).toNatClampNeg) := inb_of Z111 ⟨by decide, by decide⟩
    obtain ⟨T112, h112, X112, e112, W112, st112⟩ := stR X110 hx hZ e110 Ar111 (j := (11 : Int32)) hin111 rfl (Sto.ofV Ar111 q111 OV76 (Ins.self Ex110)) (g := (mkF m 81 (own_F1 i i1 i2 i3 i4 i5 (i &&& (3 : Int32))) [(.ref a110), (.int (11 : Int32)), (.ref b76), (.ref b76)])) rfl rfl (hb hby at_81)
    have R := CHr.wr W112 sf_b76 C.1
    have sf_b76 := R.safe V_b76.lt sf_b76
    have C := C.trans R
    have V_b76 : Arv Z h112 b76 k76 (.object "java/lang/String") (23 : Int32) [(.ref a77), (.ref a80), (.ref a83), (.ref a86), (.ref a89), (.ref a92), (.ref a95), (.ref a98), (.ref a101), (.ref a104), (.ref a107), (.ref a110), .null, .null, .null, .null, .null, .null, .null, .null, .null, .null, .null] .null := Arv.set Ar111 q111 Z111 N111 H111 G111 rfl W112 11 rfl (Nat.le_of_ble_eq_true rfl)
    have hk := (by rw [W112.size]; exact hk : _ ≤ Array.size h112)
    have SL := SL.wr W112 (List.mem_of_getElem? (i := 0) rfl)
    have Ex110 := Ex110.wr W112
    have Fc110 := Fc110.other W112 (Or.inl (Ne.symm ne_b76_a110))
    have Fv110 := Fv110.other W112 (Or.inl (Ne.symm ne_b76_a110))
    have Av110 := Av110.other W112 (Ne.symm ne_b76_b110)
    have O := O.wr W112 g_b76
    have N112 := Fr.snoc X112 N109 g_b76
    have SL := SL.cons Ex110 Fc110 Fv110 Av110 (fun q => (Ne.symm ne_b76_a110) (List.mem_singleton.mp q)) (fun q => (Ne.symm ne_b76_b110) (List.mem_singleton.mp q))
    obtain ⟨a113, T113, h113, kk113, b113, kb113, X113, e113, E113, hS, hk', hZ, hown, Ex113, Fc113, Fv113, Av113, -, -, R113, -, Sf113, st113⟩ := ldcCH X112 hx hZ hown (hw _ (List.mem_of_getElem? (i := 22) rfl)) hSA e112 hS hk hEL (List.mem_of_getElem? (i := 20) rfl) C.1 (vs := [(.int (115 : Int32)), (.int (117 : Int32)), (.int (109 : Int32)), (.int (76 : Int32)), (.int (111 : Int32)), (.int (110 : Int32)), (.int (103 : Int32)), (.int (32 : Int32))]) (z := (8 : Int32)) ⟨by decide +kernel, by decide +kernel⟩ (by decide) rfl (g := (mkF m 85 (own_F1 i i1 i2 i3 i4 i5 (i &&& (3 : Int32))) [(.int (12 : Int32)), (.ref b76), (.ref b76)])) rfl (hb hby at_85) (n := 32) (by decide +kernel) (by decide) (by decide) (by decide)
    have R := R113
    have sf_b76 := R.safe V_b76.lt sf_b76
    have C := C.trans R
    have hk := hk'
    have V_b76 := V_b76.ext E113
    have SL := SL.ext E113
    have O := O.ext E113
    have ne_b76_a113 := (Sf113 _ sf_b76).1
    have ne_b76_b113 := (Sf113 _ sf_b76).2
    obtain ⟨cl114, Ar114, q114, Z114, N114, H114, G114⟩ := id V_b76
    have hin114 : ¬ ((12 : Int32) < 0 ∨ cl114.slots.size ≤ ((12 : Int32)).toNatClampNeg) := inb_of Z114 ⟨by decide, by decide⟩
    obtain ⟨T115, h115, X115, e115, W115, st115⟩ := stR X113 hx hZ e113 Ar114 (j := (12 : Int32)) hin114 rfl (Sto.ofV Ar114 q114 OV76 (Ins.self Ex113)) (g := (mkF m 87 (own_F1 i i1 i2 i3 i4 i5 (i &&& (3 : Int32))) [(.ref a113), (.int (12 : Int32)), (.ref b76), (.ref b76)])) rfl rfl (hb hby at_87)
    have R := CHr.wr W115 sf_b76 C.1
    have sf_b76 := R.safe V_b76.lt sf_b76
    have C := C.trans R
    have V_b76 : Arv Z h115 b76 k76 (.object "java/lang/String") (23 : Int32) [(.ref a77), (.ref a80), (.ref a83), (.ref a86), (.ref a89), (.ref a92), (.ref a95), (.ref a98), (.ref a101), (.ref a104), (.ref a107), (.ref a110), (.ref a113), .null, .null, .null, .null, .null, .null, .null, .null, .null, .null] .null := Arv.set Ar114 q114 Z114 N114 H114 G114 rfl W115 12 rfl (Nat.le_of_ble_eq_true rfl)
    have hk := (by rw [W115.size]; exact hk : _ ≤ Array.size h115)
    have SL := SL.wr W115 (List.mem_of_getElem? (i := 0) rfl)
    have Ex113 := Ex113.wr W115
    have Fc113 := Fc113.other W115 (Or.inl (Ne.symm ne_b76_a113))
    have Fv113 := Fv113.other W115 (Or.inl (Ne.symm ne_b76_a113))
    have Av113 := Av113.other W115 (Ne.symm ne_b76_b113)
    have O := O.wr W115 g_b76
    have N115 := Fr.snoc X115 N112 g_b76
    have SL := SL.cons Ex113 Fc113 Fv113 Av113 (fun q => (Ne.symm ne_b76_a113) (List.mem_singleton.mp q)) (fun q => (Ne.symm ne_b76_b113) (List.mem_singleton.mp q))
    obtain ⟨a116, T116, h116, kk116, b116, kb116, X116, e116, E116, hS, hk', hZ, hown, Ex116, Fc116, Fv116, Av116, -, -, R116, -, Sf116, st116⟩ := ldcCH X115 hx hZ hown (hw _ (List.mem_of_getElem? (i := 23) rfl)) hSA e115 hS hk hEL (List.mem_of_getElem? (i := 21) rfl) C.1 (vs := [(.int (115 : Int32)), (.int (117 : Int32)), (.int (109 : Int32)), (.int (100 : Int32)), (.int (111 : Int32)), (.int (117 : Int32)), (.int (98 : Int32)), (.int (108 : Int32)), (.int (101 : Int32))]) (z := (9 : Int32)) ⟨by decide +kernel, by decide +kernel⟩ (by decide) rfl (g := (mkF m 91 (own_F1 i i1 i2 i3 i4 i5 (i &&& (3 : Int32))) [(.int (13 : Int32)), (.ref b76), (.ref b76)])) rfl (hb hby at_91) (n := 36) (by decide +kernel) (by decide) (by decide) (by decide)
    have R := R116
    have sf_b76 := R.safe V_b76.lt sf_b76
    have C := C.trans R
    have hk := hk'
    have V_b76 := V_b76.ext E116
    have SL := SL.ext E116
    have O := O.ext E116
    have ne_b76_a116 := (Sf116 _ sf_b76).1
    have ne_b76_b116 := (Sf116 _ sf_b76).2
    obtain ⟨cl117, Ar117, q117, Z117, N117, H117, G117⟩ := id V_b76
    have hin117 : ¬ ((13 : Int32) < 0 ∨ cl117.slots.size ≤ ((13 : Int32)).toNatClampNeg) := inb_of Z117 ⟨by decide, by decide⟩
    obtain ⟨T118, h118, X118, e118, W118, st118⟩ := stR X116 hx hZ e116 Ar117 (j := (13 : Int32)) hin117 rfl (Sto.ofV Ar117 q117 OV76 (Ins.self Ex116)) (g := (mkF m 93 (own_F1 i i1 i2 i3 i4 i5 (i &&& (3 : Int32))) [(.ref a116), (.int (13 : Int32)), (.ref b76), (.ref b76)])) rfl rfl (hb hby at_93)
    have R := CHr.wr W118 sf_b76 C.1
    have sf_b76 := R.safe V_b76.lt sf_b76
    have C := C.trans R
    have V_b76 : Arv Z h118 b76 k76 (.object "java/lang/String") (23 : Int32) [(.ref a77), (.ref a80), (.ref a83), (.ref a86), (.ref a89), (.ref a92), (.ref a95), (.ref a98), (.ref a101), (.ref a104), (.ref a107), (.ref a110), (.ref a113), (.ref a116), .null, .null, .null, .null, .null, .null, .null, .null, .null] .null := Arv.set Ar117 q117 Z117 N117 H117 G117 rfl W118 13 rfl (Nat.le_of_ble_eq_true rfl)
    have hk := (by rw [W118.size]; exact hk : _ ≤ Array.size h118)
    have SL := SL.wr W118 (List.mem_of_getElem? (i := 0) rfl)
    have Ex116 := Ex116.wr W118
    have Fc116 := Fc116.other W118 (Or.inl (Ne.symm ne_b76_a116))
    have Fv116 := Fv116.other W118 (Or.inl (Ne.symm ne_b76_a116))
    have Av116 := Av116.other W118 (Ne.symm ne_b76_b116)
    have O := O.wr W118 g_b76
    have N118 := Fr.snoc X118 N115 g_b76
    have SL := SL.cons Ex116 Fc116 Fv116 Av116 (fun q => (Ne.symm ne_b76_a116) (List.mem_singleton.mp q)) (fun q => (Ne.symm ne_b76_b116) (List.mem_singleton.mp q))
    obtain ⟨a119, T119, h119, kk119, b119, kb119, X119, e119, E119, hS, hk', hZ, hown, Ex119, Fc119, Fv119, Av119, -, -, R119, -, Sf119, st119⟩ := ldcCH X118 hx hZ hown (hw _ (List.mem_of_getElem? (i := 24) rfl)) hSA e118 hS hk hEL (List.mem_of_getElem? (i := 22) rfl) C.1 (vs := [(.int (83 : Int32)), (.int (117 : Int32)), (.int (109 : Int32)), (.int (66 : Int32)), (.int (105 : Int32)), (.int (103 : Int32)), (.int (68 : Int32)), (.int (101 : Int32)), (.int (99 : Int32)), (.int (105 : Int32)), (.int (109 : Int32)), (.int (97 : Int32)), (.int (108 : Int32))]) (z := (13 : Int32)) ⟨by decide +kernel, by decide +kernel⟩ (by decide) rfl (g := (mkF m 97 (own_F1 i i1 i2 i3 i4 i5 (i &&& (3 : Int32))) [(.int (14 : Int32)), (.ref b76), (.ref b76)])) rfl (hb hby at_97) (n := 52) (by decide +kernel) (by decide) (by decide) (by decide)
    have R := R119
    have sf_b76 := R.safe V_b76.lt sf_b76
    have C := C.trans R
    have hk := hk'
    have V_b76 := V_b76.ext E119
    have SL := SL.ext E119
    have O := O.ext E119
    have ne_b76_a119 := (Sf119 _ sf_b76).1
    have ne_b76_b119 := (Sf119 _ sf_b76).2
    obtain ⟨cl120, Ar120, q120, Z120, N120, H120, G120⟩ := id V_b76
    have hin120 : ¬ ((14 : Int32) < 0 ∨ cl120.slots.size ≤ ((14 : Int32)).toNatClampNeg) := inb_of Z120 ⟨by decide, by decide⟩
    obtain ⟨T121, h121, X121, e121, W121, st121⟩ := stR X119 hx hZ e119 Ar120 (j := (14 : Int32)) hin120 rfl (Sto.ofV Ar120 q120 OV76 (Ins.self Ex119)) (g := (mkF m 99 (own_F1 i i1 i2 i3 i4 i5 (i &&& (3 : Int32))) [(.ref a119), (.int (14 : Int32)), (.ref b76), (.ref b76)])) rfl rfl (hb hby at_99)
    have R := CHr.wr W121 sf_b76 C.1
    have sf_b76 := R.safe V_b76.lt sf_b76
    have C := C.trans R
    have V_b76 : Arv Z h121 b76 k76 (.object "java/lang/String") (23 : Int32) [(.ref a77), (.ref a80), (.ref a83), (.ref a86), (.ref a89), (.ref a92), (.ref a95), (.ref a98), (.ref a101), (.ref a104), (.ref a107), (.ref a110), (.ref a113), (.ref a116), (.ref a119), .null, .null, .null, .null, .null, .null, .null, .null] .null := Arv.set Ar120 q120 Z120 N120 H120 G120 rfl W121 14 rfl (Nat.le_of_ble_eq_true rfl)
    have hk := (by rw [W121.size]; exact hk : _ ≤ Array.size h121)
    have SL := SL.wr W121 (List.mem_of_getElem? (i := 0) rfl)
    have Ex119 := Ex119.wr W121
    have Fc119 := Fc119.other W121 (Or.inl (Ne.symm ne_b76_a119))
    have Fv119 := Fv119.other W121 (Or.inl (Ne.symm ne_b76_a119))
    have Av119 := Av119.other W121 (Ne.symm ne_b76_b119)
    have O := O.wr W121 g_b76
    have N121 := Fr.snoc X121 N118 g_b76
    have SL := SL.cons Ex119 Fc119 Fv119 Av119 (fun q => (Ne.symm ne_b76_a119) (List.mem_singleton.mp q)) (fun q => (Ne.symm ne_b76_b119) (List.mem_singleton.mp q))
    obtain ⟨a122, T122, h122, kk122, b122, kb122, X122, e122, E122, hS, hk', hZ, hown, Ex122, Fc122, Fv122, Av122, -, -, R122, -, Sf122, st122⟩ := ldcCH X121 hx hZ hown (hw _ (List.mem_of_getElem? (i := 25) rfl)) hSA e121 hS hk hEL (List.mem_of_getElem? (i := 23) rfl) C.1 (vs := [(.int (115 : Int32)), (.int (117 : Int32)), (.int (109 : Int32)), (.int (66 : Int32)), (.int (105 : Int32)), (.int (103 : Int32)), (.int (68 : Int32)), (.int (101 : Int32)), (.int (99 : Int32)), (.int (105 : Int32)), (.int (109 : Int32)), (.int (97 : Int32))]) (z := (12 : Int32)) ⟨by decide +kernel, by decide +kernel⟩ (by decide) rfl (g := (mkF m 103 (own_F1 i i1 i2 i3 i4 i5 (i &&& (3 : Int32))) [(.int (15 : Int32)), (.ref b76), (.ref b76)])) rfl (hb hby at_103) (n := 48) (by decide +kernel) (by decide) (by decide) (by decide)
    have R := R122
    have sf_b76 := R.safe V_b76.lt sf_b76
    have C := C.trans R
    have hk := hk'
    have V_b76 := V_b76.ext E122
    have SL := SL.ext E122
    have O := O.ext E122
    have ne_b76_a122 := (Sf122 _ sf_b76).1
    have ne_b76_b122 := (Sf122 _ sf_b76).2
    obtain ⟨cl123, Ar123, q123, Z123, N123, H123, G123⟩ := id V_b76
    have hin123 : ¬ ((15 : Int32) < 0 ∨ cl123.slots.size ≤ ((15 : Int32)).toNatClampNeg) := inb_of Z123 ⟨by decide, by decide⟩
    obtain ⟨T124, h124, X124, e124, W124, st124⟩ := stR X122 hx hZ e122 Ar123 (j := (15 : Int32)) hin123 rfl (Sto.ofV Ar123 q123 OV76 (Ins.self Ex122)) (g := (mkF m 105 (own_F1 i i1 i2 i3 i4 i5 (i &&& (3 : Int32))) [(.ref a122), (.int (15 : Int32)), (.ref b76), (.ref b76)])) rfl rfl (hb hby at_105)
    have R := CHr.wr W124 sf_b76 C.1
    have sf_b76 := R.safe V_b76.lt sf_b76
    have C := C.trans R
    have V_b76 : Arv Z h124 b76 k76 (.object "java/lang/String") (23 : Int32) [(.ref a77), (.ref a80), (.ref a83), (.ref a86), (.ref a89), (.ref a92), (.ref a95), (.ref a98), (.ref a101), (.ref a104), (.ref a107), (.ref a110), (.ref a113), (.ref a116), (.ref a119), (.ref a122), .null, .null, .null, .null, .null, .null, .null] .null := Arv.set Ar123 q123 Z123 N123 H123 G123 rfl W124 15 rfl (Nat.le_of_ble_eq_true rfl)
    have hk := (by rw [W124.size]; exact hk : _ ≤ Array.size h124)
    have SL := SL.wr W124 (List.mem_of_getElem? (i := 0) rfl)
    have Ex122 := Ex122.wr W124
    have Fc122 := Fc122.other W124 (Or.inl (Ne.symm ne_b76_a122))
    have Fv122 := Fv122.other W124 (Or.inl (Ne.symm ne_b76_a122))
    have Av122 := Av122.other W124 (Ne.symm ne_b76_b122)
    have O := O.wr W124 g_b76
    have N124 := Fr.snoc X124 N121 g_b76
    have SL := SL.cons Ex122 Fc122 Fv122 Av122 (fun q => (Ne.symm ne_b76_a122) (List.mem_singleton.mp q)) (fun q => (Ne.symm ne_b76_b122) (List.mem_singleton.mp q))
    obtain ⟨a125, T125, h125, kk125, b125, kb125, X125, e125, E125, hS, hk', hZ, hown, Ex125, Fc125, Fv125, Av125, -, -, R125, -, Sf125, st125⟩ := ldcCH X124 hx hZ hown (hw _ (List.mem_of_getElem? (i := 26) rfl)) hSA e124 hS hk hEL (List.mem_of_getElem? (i := 24) rfl) C.1 (vs := [(.int (109 : Int32)), (.int (105 : Int32))]) (z := (2 : Int32)) ⟨by decide +kernel, by decide +kernel⟩ (by decide) rfl (g := (mkF m 109 (own_F1 i i1 i2 i3 i4 i5 (i &&& (3 : Int32))) [(.int (16 : Int32)), (.ref b76), (.ref b76)])) rfl (hb hby at_109) (n := 8) (by decide +kernel) (by decide) (by decide) (by decide)
    have R := R125
    have sf_b76 := R.safe V_b76.lt sf_b76
    have C := C.trans R
    have hk := hk'
    have V_b76 := V_b76.ext E125
    have SL := SL.ext E125
    have O := O.ext E125
    have ne_b76_a125 := (Sf125 _ sf_b76).1
    have ne_b76_b125 := (Sf125 _ sf_b76).2
    obtain ⟨cl126, Ar126, q126, Z126, N126, H126, G126⟩ := id V_b76
    have hin126 : ¬ ((16 : Int32) < 0 ∨ cl126.slots.size ≤ ((16 : Int32)).toNatClampNeg) := inb_of Z126 ⟨by decide, by decide⟩
    obtain ⟨T127, h127, X127, e127, W127, st127⟩ := stR X125 hx hZ e125 Ar126 (j := (16 : Int32)) hin126 rfl (Sto.ofV Ar126 q126 OV76 (Ins.self Ex125)) (g := (mkF m 111 (own_F1 i i1 i2 i3 i4 i5 (i &&& (3 : Int32))) [(.ref a125), (.int (16 : Int32)), (.ref b76), (.ref b76)])) rfl rfl (hb hby at_111)
    have R := CHr.wr W127 sf_b76 C.1
    have sf_b76 := R.safe V_b76.lt sf_b76
    have C := C.trans R
    have V_b76 : Arv Z h127 b76 k76 (.object "java/lang/String") (23 : Int32) [(.ref a77), (.ref a80), (.ref a83), (.ref a86), (.ref a89), (.ref a92), (.ref a95), (.ref a98), (.ref a101), (.ref a104), (.ref a107), (.ref a110), (.ref a113), (.ref a116), (.ref a119), (.ref a122), (.ref a125), .null, .null, .null, .null, .null, .null] .null := Arv.set Ar126 q126 Z126 N126 H126 G126 rfl W127 16 rfl (Nat.le_of_ble_eq_true rfl)
    have hk := (by rw [W127.size]; exact hk : _ ≤ Array.size h127)
    have SL := SL.wr W127 (List.mem_of_getElem? (i := 0) rfl)
    have Ex125 := Ex125.wr W127
    have Fc125 := Fc125.other W127 (Or.inl (Ne.symm ne_b76_a125))
    have Fv125 := Fv125.other W127 (Or.inl (Ne.symm ne_b76_a125))
    have Av125 := Av125.other W127 (Ne.symm ne_b76_b125)
    have O := O.wr W127 g_b76
    have N127 := Fr.snoc X127 N124 g_b76
    have SL := SL.cons Ex125 Fc125 Fv125 Av125 (fun q => (Ne.symm ne_b76_a125) (List.mem_singleton.mp q)) (fun q => (Ne.symm ne_b76_b125) (List.mem_singleton.mp q))
    obtain ⟨a128, T128, h128, kk128, b128, kb128, X128, e128, E128, hS, hk', hZ, hown, Ex128, Fc128, Fv128, Av128, -, -, R128, -, Sf128, st128⟩ := ldcCH X127 hx hZ hown (hw _ (List.mem_of_getElem? (i := 27) rfl)) hSA e127 hS hk hEL (List.mem_of_getElem? (i := 25) rfl) C.1 (vs := [(.int (109 : Int32)), (.int (97 : Int32)), (.int (120 : Int32)), (.int (120 : Int32))]) (z := (4 : Int32)) ⟨by decide +kernel, by decide +kernel⟩ (by decide) rfl (g := (mkF m 115 (own_F1 i i1 i2 i3 i4 i5 (i &&& (3 : Int32))) [(.int (17 : Int32)), (.ref b76), (.ref b76)])) rfl (hb hby at_115) (n := 16) (by decide +kernel) (by decide) (by decide) (by decide)
    have R := R128
    have sf_b76 := R.safe V_b76.lt sf_b76
    have C := C.trans R
    have hk := hk'
    have V_b76 := V_b76.ext E128
    have SL := SL.ext E128
    have O := O.ext E128
    have ne_b76_a128 := (Sf128 _ sf_b76).1
    have ne_b76_b128 := (Sf128 _ sf_b76).2
    obtain ⟨cl129, Ar129, q129, Z129, N129, H129, G129⟩ := id V_b76
    have hin129 : ¬ ((17 : Int32) < 0 ∨ cl129.slots.size ≤ ((17 : Int32)).toNatClampNeg) := inb_of Z129 ⟨by decide, by decide⟩
    obtain ⟨T130, h130, X130, e130, W130, st130⟩ := stR X128 hx hZ e128 Ar129 (j := (17 : Int32)) hin129 rfl (Sto.ofV Ar129 q129 OV76 (Ins.self Ex128)) (g := (mkF m 117 (own_F1 i i1 i2 i3 i4 i5 (i &&& (3 : Int32))) [(.ref a128), (.int (17 : Int32)), (.ref b76), (.ref b76)])) rfl rfl (hb hby at_117)
    have R := CHr.wr W130 sf_b76 C.1
    have sf_b76 := R.safe V_b76.lt sf_b76
    have C := C.trans R
    have V_b76 : Arv Z h130 b76 k76 (.object "java/lang/String") (23 : Int32) [(.ref a77), (.ref a80), (.ref a83), (.ref a86), (.ref a89), (.ref a92), (.ref a95), (.ref a98), (.ref a101), (.ref a104), (.ref a107), (.ref a110), (.ref a113), (.ref a116), (.ref a119), (.ref a122), (.ref a125), (.ref a128), .null, .null, .null, .null, .null] .null := Arv.set Ar129 q129 Z129 N129 H129 G129 rfl W130 17 rfl (Nat.le_of_ble_eq_true rfl)
    have hk := (by rw [W130.size]; exact hk : _ ≤ Array.size h130)
    have SL := SL.wr W130 (List.mem_of_getElem? (i := 0) rfl)
    have Ex128 := Ex128.wr W130
    have Fc128 := Fc128.other W130 (Or.inl (Ne.symm ne_b76_a128))
    have Fv128 := Fv128.other W130 (Or.inl (Ne.symm ne_b76_a128))
    have Av128 := Av128.other W130 (Ne.symm ne_b76_b128)
    have O := O.wr W130 g_b76
    have N130 := Fr.snoc X130 N127 g_b76
    have SL := SL.cons Ex128 Fc128 Fv128 Av128 (fun q => (Ne.symm ne_b76_a128) (List.mem_singleton.mp q)) (fun q => (Ne.symm ne_b76_b128) (List.mem_singleton.mp q))
    obtain ⟨a131, T131, h131, kk131, b131, kb131, X131, e131, E131, hS, hk', hZ, hown, Ex131, Fc131, Fv131, Av131, -, -, R131, -, Sf131, st131⟩ := ldcCH X130 hx hZ hown (hw _ (List.mem_of_getElem? (i := 28) rfl)) hSA e130 hS hk hEL (List.mem_of_getElem? (i := 26) rfl) C.1 (vs := [(.int (65 : Int32)), (.int (86 : Int32)), (.int (71 : Int32))]) (z := (3 : Int32)) ⟨by decide +kernel, by decide +kernel⟩ (by decide) rfl (g := (mkF m 121 (own_F1 i i1 i2 i3 i4 i5 (i &&& (3 : Int32))) [(.int (18 : Int32)), (.ref b76), (.ref b76)])) rfl (hb hby at_121) (n := 12) (by decide +kernel) (by decide) (by decide) (by decide)
    have R := R131
    have sf_b76 := R.safe V_b76.lt sf_b76
    have C := C.trans R
    have hk := hk'
    have V_b76 := V_b76.ext E131
    have SL := SL.ext E131
    have O := O.ext E131
    have ne_b76_a131 := (Sf131 _ sf_b76).1
    have ne_b76_b131 := (Sf131 _ sf_b76).2
    obtain ⟨cl132, Ar132, q132, Z132, N132, H132, G132⟩ := id V_b76
    have hin132 : ¬ ((18 : Int32) < 0 ∨ cl132.slots.size ≤ ((18 : Int32)).toNatClampNeg) := inb_of Z132 ⟨by decide, by decide⟩
    obtain ⟨T133, h133, X133, e133, W133, st133⟩ := stR X131 hx hZ e131 Ar132 (j := (18 : Int32)) hin132 rfl (Sto.ofV Ar132 q132 OV76 (Ins.self Ex131)) (g := (mkF m 123 (own_F1 i i1 i2 i3 i4 i5 (i &&& (3 : Int32))) [(.ref a131), (.int (18 : Int32)), (.ref b76), (.ref b76)])) rfl rfl (hb hby at_123)
    have R := CHr.wr W133 sf_b76 C.1
    have sf_b76 := R.safe V_b76.lt sf_b76
    have C := C.trans R
    have V_b76 : Arv Z h133 b76 k76 (.object "java/lang/String") (23 : Int32) [(.ref a77), (.ref a80), (.ref a83), (.ref a86), (.ref a89), (.ref a92), (.ref a95), (.ref a98), (.ref a101), (.ref a104), (.ref a107), (.ref a110), (.ref a113), (.ref a116), (.ref a119), (.ref a122), (.ref a125), (.ref a128), (.ref a131), .null, .null, .null, .null] .null := Arv.set Ar132 q132 Z132 N132 H132 G132 rfl W133 18 rfl (Nat.le_of_ble_eq_true rfl)
    have hk := (by rw [W133.size]; exact hk : _ ≤ Array.size h133)
    have SL := SL.wr W133 (List.mem_of_getElem? (i := 0) rfl)
    have Ex131 := Ex131.wr W133
    have Fc131 := Fc131.other W133 (Or.inl (Ne.symm ne_b76_a131))
    have Fv131 := Fv131.other W133 (Or.inl (Ne.symm ne_b76_a131))
    have Av131 := Av131.other W133 (Ne.symm ne_b76_b131)
    have O := O.wr W133 g_b76
    have N133 := Fr.snoc X133 N130 g_b76
    have SL := SL.cons Ex131 Fc131 Fv131 Av131 (fun q => (Ne.symm ne_b76_a131) (List.mem_singleton.mp q)) (fun q => (Ne.symm ne_b76_b131) (List.mem_singleton.mp q))
    obtain ⟨a134, T134, h134, kk134, b134, kb134, X134, e134, E134, hS, hk', hZ, hown, Ex134, Fc134, Fv134, Av134, -, -, R134, -, Sf134, st134⟩ := ldcCH X133 hx hZ hown (hw _ (List.mem_of_getElem? (i := 29) rfl)) hSA e133 hS hk hEL (List.mem_of_getElem? (i := 27) rfl) C.1 (vs := []) (z := (0 : Int32)) ⟨by decide +kernel, by decide +kernel⟩ (by decide) rfl (g := (mkF m 127 (own_F1 i i1 i2 i3 i4 i5 (i &&& (3 : Int32))) [(.int (19 : Int32)), (.ref b76), (.ref b76)])) rfl (hb hby at_127) (n := 0) (by decide +kernel) (by decide) (by decide) (by decide)
    have R := R134
    have sf_b76 := R.safe V_b76.lt sf_b76
    have C := C.trans R
    have hk := hk'
    have V_b76 := V_b76.ext E134
    have SL := SL.ext E134
    have O := O.ext E134
    have ne_b76_a134 := (Sf134 _ sf_b76).1
    have ne_b76_b134 := (Sf134 _ sf_b76).2
    obtain ⟨cl135, Ar135, q135, Z135, N135, H135, G135⟩ := id V_b76
    have hin135 : ¬ ((19 : Int32) < 0 ∨ cl135.slots.size ≤ ((19 : Int32)).toNatClampNeg) := inb_of Z135 ⟨by decide, by decide⟩
    obtain ⟨T136, h136, X136, e136, W136, st136⟩ := stR X134 hx hZ e134 Ar135 (j := (19 : Int32)) hin135 rfl (Sto.ofV Ar135 q135 OV76 (Ins.self Ex134)) (g := (mkF m 129 (own_F1 i i1 i2 i3 i4 i5 (i &&& (3 : Int32))) [(.ref a134), (.int (19 : Int32)), (.ref b76), (.ref b76)])) rfl rfl (hb hby at_129)
    have R := CHr.wr W136 sf_b76 C.1
    have sf_b76 := R.safe V_b76.lt sf_b76
    have C := C.trans R
    have V_b76 : Arv Z h136 b76 k76 (.object "java/lang/String") (23 : Int32) [(.ref a77), (.ref a80), (.ref a83), (.ref a86), (.ref a89), (.ref a92), (.ref a95), (.ref a98), (.ref a101), (.ref a104), (.ref a107), (.ref a110), (.ref a113), (.ref a116), (.ref a119), (.ref a122), (.ref a125), (.ref a128), (.ref a131), (.ref a134), .null, .null, .null] .null := Arv.set Ar135 q135 Z135 N135 H135 G135 rfl W136 19 rfl (Nat.le_of_ble_eq_true rfl)
    have hk := (by rw [W136.size]; exact hk : _ ≤ Array.size h136)
    have SL := SL.wr W136 (List.mem_of_getElem? (i := 0) rfl)
    have Ex134 := Ex134.wr W136
    have Fc134 := Fc134.other W136 (Or.inl (Ne.symm ne_b76_a134))
    have Fv134 := Fv134.other W136 (Or.inl (Ne.symm ne_b76_a134))
    have Av134 := Av134.other W136 (Ne.symm ne_b76_b134)
    have O := O.wr W136 g_b76
    have N136 := Fr.snoc X136 N133 g_b76
    have SL := SL.cons Ex134 Fc134 Fv134 Av134 (fun q => (Ne.symm ne_b76_a134) (List.mem_singleton.mp q)) (fun q => (Ne.symm ne_b76_b134) (List.mem_singleton.mp q))
    obtain ⟨a137, T137, h137, kk137, b137, kb137, X137, e137, E137, hS, hk', hZ, hown, Ex137, Fc137, Fv137, Av137, -, -, R137, -, Sf137, st137⟩ := ldcCH X136 hx hZ hown (hw _ (List.mem_of_getElem? (i := 30) rfl)) hSA e136 hS hk hEL (List.mem_of_getElem? (i := 28) rfl) C.1 (vs := [(.int (83 : Int32)), (.int (85 : Int32)), (.int (77 : Int32)), (.int (95 : Int32)), (.int (73 : Int32)), (.int (78 : Int32)), (.int (84 : Int32)), (.int (69 : Int32)), (.int (71 : Int32)), (.int (69 : Int32)), (.int (82 : Int32))]) (z := (11 : Int32)) ⟨by decide +kernel, by decide +kernel⟩ (by decide) rfl (g := (mkF m 133 (own_F1 i i1 i2 i3 i4 i5 (i &&& (3 : Int32))) [(.int (20 : Int32)), (.ref b76), (.ref b76)])) rfl (hb hby at_133) (n := 44) (by decide +kernel) (by decide) (by decide) (by decide)
    have R := R137
    have sf_b76 := R.safe V_b76.lt sf_b76
    have C := C.trans R
    have hk := hk'
    have V_b76 := V_b76.ext E137
    have SL := SL.ext E137
    have O := O.ext E137
    have ne_b76_a137 := (Sf137 _ sf_b76).1
    have ne_b76_b137 := (Sf137 _ sf_b76).2
    obtain ⟨cl138, Ar138, q138, Z138, N138, H138, G138⟩ := id V_b76
    have hin138 : ¬ ((20 : Int32) < 0 ∨ cl138.slots.size ≤ ((20 : Int32)).toNatClampNeg) := inb_of Z138 ⟨by decide, by decide⟩
    obtain ⟨T139, h139, X139, e139, W139, st139⟩ := stR X137 hx hZ e137 Ar138 (j := (20 : Int32)) hin138 rfl (Sto.ofV Ar138 q138 OV76 (Ins.self Ex137)) (g := (mkF m 135 (own_F1 i i1 i2 i3 i4 i5 (i &&& (3 : Int32))) [(.ref a137), (.int (20 : Int32)), (.ref b76), (.ref b76)])) rfl rfl (hb hby at_135)
    have R := CHr.wr W139 sf_b76 C.1
    have sf_b76 := R.safe V_b76.lt sf_b76
    have C := C.trans R
    have V_b76 : Arv Z h139 b76 k76 (.object "java/lang/String") (23 : Int32) [(.ref a77), (.ref a80), (.ref a83), (.ref a86), (.ref a89), (.ref a92), (.ref a95), (.ref a98), (.ref a101), (.ref a104), (.ref a107), (.ref a110), (.ref a113), (.ref a116), (.ref a119), (.ref a122), (.ref a125), (.ref a128), (.ref a131), (.ref a134), (.ref a137), .null, .null] .null := Arv.set Ar138 q138 Z138 N138 H138 G138 rfl W139 20 rfl (Nat.le_of_ble_eq_true rfl)
    have hk := (by rw [W139.size]; exact hk : _ ≤ Array.size h139)
    have SL := SL.wr W139 (List.mem_of_getElem? (i := 0) rfl)
    have Ex137 := Ex137.wr W139
    have Fc137 := Fc137.other W139 (Or.inl (Ne.symm ne_b76_a137))
    have Fv137 := Fv137.other W139 (Or.inl (Ne.symm ne_b76_a137))
    have Av137 := Av137.other W139 (Ne.symm ne_b76_b137)
    have O := O.wr W139 g_b76
    have N139 := Fr.snoc X139 N136 g_b76
    have SL := SL.cons Ex137 Fc137 Fv137 Av137 (fun q => (Ne.symm ne_b76_a137) (List.mem_singleton.mp q)) (fun q => (Ne.symm ne_b76_b137) (List.mem_singleton.mp q))
    obtain ⟨a140, T140, h140, kk140, b140, kb140, X140, e140, E140, hS, hk', hZ, hown, Ex140, Fc140, Fv140, Av140, -, -, R140, -, Sf140, st140⟩ := ldcCH X139 hx hZ hown (hw _ (List.mem_of_getElem? (i := 31) rfl)) hSA e139 hS hk hEL (List.mem_of_getElem? (i := 29) rfl) C.1 (vs := [(.int (115 : Int32)), (.int (117 : Int32)), (.int (109 : Int32)), (.int (70 : Int32)), (.int (108 : Int32)), (.int (111 : Int32)), (.int (97 : Int32)), (.int (116 : Int32))]) (z := (8 : Int32)) ⟨by decide +kernel, by decide +kernel⟩ (by decide) rfl (g := (mkF m 139 (own_F1 i i1 i2 i3 i4 i5 (i &&& (3 : Int32))) [(.int (21 : Int32)), (.ref b76), (.ref b76)])) rfl (hb hby at_139) (n := 32) (by decide +kernel) (by decide) (by decide) (by decide)
    have R := R140
    have sf_b76 := R.safe V_b76.lt sf_b76
    have C := C.trans R
    have hk := hk'
    have V_b76 := V_b76.ext E140
    have SL := SL.ext E140
    have O := O.ext E140
    have ne_b76_a140 := (Sf140 _ sf_b76).1
    have ne_b76_b140 := (Sf140 _ sf_b76).2
    obtain ⟨cl141, Ar141, q141, Z141, N141, H141, G141⟩ := id V_b76
    have hin141 : ¬ ((21 : Int32) < 0 ∨ cl141.slots.size ≤ ((21 : Int32)).toNatClampNeg) := inb_of Z141 ⟨by decide, by decide⟩
    obtain ⟨T142, h142, X142, e142, W142, st142⟩ := stR X140 hx hZ e140 Ar141 (j := (21 : Int32)) hin141 rfl (Sto.ofV Ar141 q141 OV76 (Ins.self Ex140)) (g := (mkF m 141 (own_F1 i i1 i2 i3 i4 i5 (i &&& (3 : Int32))) [(.ref a140), (.int (21 : Int32)), (.ref b76), (.ref b76)])) rfl rfl (hb hby at_141)
    have R := CHr.wr W142 sf_b76 C.1
    have sf_b76 := R.safe V_b76.lt sf_b76
    have C := C.trans R
    have V_b76 : Arv Z h142 b76 k76 (.object "java/lang/String") (23 : Int32) [(.ref a77), (.ref a80), (.ref a83), (.ref a86), (.ref a89), (.ref a92), (.ref a95), (.ref a98), (.ref a101), (.ref a104), (.ref a107), (.ref a110), (.ref a113), (.ref a116), (.ref a119), (.ref a122), (.ref a125), (.ref a128), (.ref a131), (.ref a134), (.ref a137), (.ref a140), .null] .null := Arv.set Ar141 q141 Z141 N141 H141 G141 rfl W142 21 rfl (Nat.le_of_ble_eq_true rfl)
    have hk := (by rw [W142.size]; exact hk : _ ≤ Array.size h142)
    have SL := SL.wr W142 (List.mem_of_getElem? (i := 0) rfl)
    have Ex140 := Ex140.wr W142
    have Fc140 := Fc140.other W142 (Or.inl (Ne.symm ne_b76_a140))
    have Fv140 := Fv140.other W142 (Or.inl (Ne.symm ne_b76_a140))
    have Av140 := Av140.other W142 (Ne.symm ne_b76_b140)
    have O := O.wr W142 g_b76
    have N142 := Fr.snoc X142 N139 g_b76
    have SL := SL.cons Ex140 Fc140 Fv140 Av140 (fun q => (Ne.symm ne_b76_a140) (List.mem_singleton.mp q)) (fun q => (Ne.symm ne_b76_b140) (List.mem_singleton.mp q))
    obtain ⟨cl143, Ar143, q143, Z143, N143, H143, G143⟩ := id V_b76
    have hin143 : ¬ ((22 : Int32) < 0 ∨ cl143.slots.size ≤ ((22 : Int32)).toNatClampNeg) := inb_of Z143 ⟨by decide, by decide⟩
    obtain ⟨T144, h144, X144, e144, W144, st144⟩ := stR X142 hx hZ e142 Ar143 (j := (22 : Int32)) hin143 rfl (Or.inl rfl) (g := (mkF m 146 (own_F1 i i1 i2 i3 i4 i5 (i &&& (3 : Int32))) [.null, (.int (22 : Int32)), (.ref b76), (.ref b76)])) rfl rfl (hb hby at_146)
    have R := CHr.wr W144 sf_b76 C.1
    have sf_b76 := R.safe V_b76.lt sf_b76
    have C := C.trans R
    have V_b76 : Arv Z h144 b76 k76 (.object "java/lang/String") (23 : Int32) [(.ref a77), (.ref a80), (.ref a83), (.ref a86), (.ref a89), (.ref a92), (.ref a95), (.ref a98), (.ref a101), (.ref a104), (.ref a107), (.ref a110), (.ref a113), (.ref a116), (.ref a119), (.ref a122), (.ref a125), (.ref a128), (.ref a131), (.ref a134), (.ref a137), (.ref a140), .null] .null := Arv.set Ar143 q143 Z143 N143 H143 G143 rfl W144 22 rfl (Nat.le_of_ble_eq_true rfl)
    have hk := (by rw [W144.size]; exact hk : _ ≤ Array.size h144)
    have SL := SL.wr W144 (List.mem_of_getElem? (i := 0) rfl)
    have O := O.wr W144 g_b76
    have N144 := Fr.snoc X144 N142 g_b76
    have SL := SL.add (x := Array.size h144) (Nat.le_refl _)
    obtain ⟨T145, h145, k145, X145, e145, E145, A145, OV145, st145⟩ := newR X144 hx hZ hown (hw _ (List.mem_of_getElem? (i := 32) rfl)) (hw _ (List.mem_of_getElem? (i := 33) rfl)) e144 (g := (mkF m 151 (own_F17 i i1 i2 i3 i4 i5 (i &&& (3 : Int32)) b76) [(.int (23 : Int32))])) rfl (hb hby at_151) rfl (by decide) (cap := 23) (by decide) (by decide) (by decide) (by decide)
    obtain ⟨b145, gq145⟩ : ∃ z, z = Array.size h144 := ⟨_, rfl⟩
    rw [← gq145] at A145 st145
    have ne_b76_b145 : b76 ≠ b145 := Nat.ne_of_lt (Nat.lt_of_lt_of_le V_b76.lt (Nat.le_of_eq gq145.symm))
    have g_b145 : n0 ≤ b145 := Nat.le_trans (O.1 ▸ O.2.1) (Nat.le_of_eq gq145.symm)
    have sf_b145 := own_safeN C.1 E145 (Nat.le_of_eq gq145.symm)
    have R := CHr.ext E145 C.1
    have sf_b76 := R.safe V_b76.lt sf_b76
    have C := C.trans R
    have hk := Nat.le_trans hk E145.1
    have V_b76 := V_b76.ext E145
    have SL := SL.ext E145
    have O := O.ext E145
    have V_b145 : Arv Z h145 b145 k145 (.object "com/example/querent/querent/translation/Aggregation") (23 : Int32) [.null, .null, .null, .null, .null, .null, .null, .null, .null, .null, .null, .null, .null, .null, .null, .null, .null, .null, .null, .null, .null, .null, .null] .null := (Arv.new A145 (by decide)).pad (pad_rep [] .null 23)
    rw [← gq145] at SL
    obtain ⟨T146, X146, e146, st146⟩ := getS2 X145 hx hZ hown (host := "") (Or.inl (hw _ (List.mem_of_getElem? (i := 34) rfl))) Via.refl e145 (S_s_COUNT.ext O.2) (g := (mkF m 156 (own_F17 i i1 i2 i3 i4 i5 (i &&& (3 : Int32)) b76) [(.int (0 : Int32)), (.ref b145), (.ref b145)])) rfl (hb hby at_156)
    have E_s_COUNT := o_E_s_COUNT.ext O.2
    obtain ⟨cl147, Ar147, q147, Z147, N147, H147, G147⟩ := id V_b145
    have hin147 : ¬ ((0 : Int32) < 0 ∨ cl147.slots.size ≤ ((0 : Int32)).toNatClampNeg) := inb_of Z147 ⟨by decide, by decide⟩
    obtain ⟨T148, h148, X148, e148, W148, st148⟩ := stR X146 hx hZ e146 Ar147 (j := (0 : Int32)) hin147 rfl (Sto.ofV Ar147 q147 OV145 (Ins.self E_s_COUNT)) (g := (mkF m 159 (own_F17 i i1 i2 i3 i4 i5 (i &&& (3 : Int32)) b76) [(.ref s_COUNT), (.int (0 : Int32)), (.ref b145), (.ref b145)])) rfl rfl (hb hby at_159)
    have R := CHr.wr W148 sf_b145 C.1
    have sf_b76 := R.safe V_b76.lt sf_b76
    have sf_b145 := R.safe V_b145.lt sf_b145
    have C := C.trans R
    have V_b145 : Arv Z h148 b145 k145 (.object "com/example/querent/querent/translation/Aggregation") (23 : Int32) [(.ref s_COUNT), .null, .null, .null, .null, .null, .null, .null, .null, .null, .null, .null, .null, .null, .null, .null, .null, .null, .null, .null, .null, .null, .null] .null := Arv.set Ar147 q147 Z147 N147 H147 G147 rfl W148 0 rfl (Nat.le_of_ble_eq_true rfl)
    have hk := (by rw [W148.size]; exact hk : _ ≤ Array.size h148)
    have V_b76 := V_b76.other W148 ne_b76_b145
    have SL := SL.wr W148 (List.mem_of_getElem? (i := 0) rfl)
    have E_s_COUNT := E_s_COUNT.wr W148
    have O := O.wr W148 g_b145
    have N148 := Fr.snoc X148 N144 g_b145
    obtain ⟨T149, X149, e149, st149⟩ := getS2 X148 hx hZ hown (host := "") (Or.inl (hw _ (List.mem_of_getElem? (i := 38) rfl))) Via.refl e148 (S_s_SUM_INTEGER.ext O.2) (g := (mkF m 162 (own_F17 i i1 i2 i3 i4 i5 (i &&& (3 : Int32)) b76) [(.int (1 : Int32)), (.ref b145), (.ref b145)])) rfl (hb hby at_162)
    have E_s_SUM_INTEGER := o_E_s_SUM_INTEGER.ext O.2
    obtain ⟨cl150, Ar150, q150, Z150, N150, H150, G150⟩ := id V_b145
    have hin150 : ¬ ((1 : Int32) < 0 ∨ cl150.slots.size ≤ ((1 : Int32)).toNatClampNeg) := inb_of Z150 ⟨by decide, by decide⟩
    obtain ⟨T151, h151, X151, e151, W151, st151⟩ := stR X149 hx hZ e149 Ar150 (j := (1 : Int32)) hin150 rfl (Sto.ofV Ar150 q150 OV145 (Ins.self E_s_SUM_INTEGER)) (g := (mkF m 165 (own_F17 i i1 i2 i3 i4 i5 (i &&& (3 : Int32)) b76) [(.ref s_SUM_INTEGER), (.int (1 : Int32)), (.ref b145), (.ref b145)])) rfl rfl (hb hby at_165)
    have R := CHr.wr W151 sf_b145 C.1
    have sf_b76 := R.safe V_b76.lt sf_b76
    have sf_b145 := R.safe V_b145.lt sf_b145
    have C := C.trans R
    have V_b145 : Arv Z h151 b145 k145 (.object "com/example/querent/querent/translation/Aggregation") (23 : Int32) [(.ref s_COUNT), (.ref s_SUM_INTEGER), .null, .null, .null, .null, .null, .null, .null, .null, .null, .null, .null, .null, .null, .null, .null, .null, .null, .null, .null, .null, .null] .null := Arv.set Ar150 q150 Z150 N150 H150 G150 rfl W151 1 rfl (Nat.le_of_ble_eq_true rfl)
    have hk := (by rw [W151.size]; exact hk : _ ≤ Array.size h151)
    have V_b76 := V_b76.other W151 ne_b76_b145
    have SL := SL.wr W151 (List.mem_of_getElem? (i := 0) rfl)
    have E_s_COUNT := E_s_COUNT.wr W151
    have E_s_SUM_INTEGER := E_s_SUM_INTEGER.wr W151
    have O := O.wr W151 g_b145
    have N151 := Fr.snoc X151 N148 g_b145
    obtain ⟨T152, X152, e152, st152⟩ := getS2 X151 hx hZ hown (host := "") (Or.inl (hw _ (List.mem_of_getElem? (i := 40) rfl))) Via.refl e151 (S_s_SUM_LONG.ext O.2) (g := (mkF m 168 (own_F17 i i1 i2 i3 i4 i5 (i &&& (3 : Int32)) b76) [(.int (2 : Int32)), (.ref b145), (.ref b145)])) rfl (hb hby at_168)
    have E_s_SUM_LONG := o_E_s_SUM_LONG.ext O.2
    obtain ⟨cl153, Ar153, q153, Z153, N153, H153, G153⟩ := id V_b145
    have hin153 : ¬ ((2 : Int32) < 0 ∨ cl153.slots.size ≤ ((2 : Int32)).toNatClampNeg) := inb_of Z153 ⟨by decide, by decide⟩
    obtain ⟨T154, h154, X154, e154, W154, st154⟩ := stR X152 hx hZ e152 Ar153 (j := (2 : Int32)) hin153 rfl (Sto.ofV Ar153 q153 OV145 (Ins.self E_s_SUM_LONG)) (g := (mkF m 171 (own_F17 i i1 i2 i3 i4 i5 (i &&& (3 : Int32)) b76) [(.ref s_SUM_LONG), (.int (2 : Int32)), (.ref b145), (.ref b145)])) rfl rfl (hb hby at_171)
    have R := CHr.wr W154 sf_b145 C.1
    have sf_b76 := R.safe V_b76.lt sf_b76
    have sf_b145 := R.safe V_b145.lt sf_b145
    have C := C.trans R
    have V_b145 : Arv Z h154 b145 k145 (.object "com/example/querent/querent/translation/Aggregation") (23 : Int32) [(.ref s_COUNT), (.ref s_SUM_INTEGER), (.ref s_SUM_LONG), .null, .null, .null, .null, .null, .null, .null, .null, .null, .null, .null, .null, .null, .null, .null, .null, .null, .null, .null, .null] .null := Arv.set Ar153 q153 Z153 N153 H153 G153 rfl W154 2 rfl (Nat.le_of_ble_eq_true rfl)
    have hk := (by rw [W154.size]; exact hk : _ ≤ Array.size h154)
    have V_b76 := V_b76.other W154 ne_b76_b145
    have SL := SL.wr W154 (List.mem_of_getElem? (i := 0) rfl)
    have E_s_COUNT := E_s_COUNT.wr W154
    have E_s_SUM_INTEGER := E_s_SUM_INTEGER.wr W154
    have E_s_SUM_LONG := E_s_SUM_LONG.wr W154
    have O := O.wr W154 g_b145
    have N154 := Fr.snoc X154 N151 g_b145
    obtain ⟨T155, X155, e155, st155⟩ := getS2 X154 hx hZ hown (host := "") (Or.inl (hw _ (List.mem_of_getElem? (i := 42) rfl))) Via.refl e154 (S_s_SUM_DOUBLE.ext O.2) (g := (mkF m 174 (own_F17 i i1 i2 i3 i4 i5 (i &&& (3 : Int32)) b76) [(.int (3 : Int32)), (.ref b145), (.ref b145)])) rfl (hb hby at_174)
    have E_s_SUM_DOUBLE := o_E_s_SUM_DOUBLE.ext O.2
    obtain ⟨cl156, Ar156, q156, Z156, N156, H156, G156⟩ := id V_b145
    have hin156 : ¬ ((3 : Int32) < 0 ∨ cl156.slots.size ≤ ((3 : Int32)).toNatClampNeg) := inb_of Z156 ⟨by decide, by decide⟩
    obtain ⟨T157, h157, X157, e157, W157, st157⟩ := stR X155 hx hZ e155 Ar156 (j := (3 : Int32)) hin156 rfl (Sto.ofV Ar156 q156 OV145 (Ins.self E_s_SUM_DOUBLE)) (g := (mkF m 177 (own_F17 i i1 i2 i3 i4 i5 (i &&& (3 : Int32)) b76) [(.ref s_SUM_DOUBLE), (.int (3 : Int32)), (.ref b145), (.ref b145)])) rfl rfl (hb hby at_177)
    have R := CHr.wr W157 sf_b145 C.1
    have sf_b76 := R.safe V_b76.lt sf_b76
    have sf_b145 := R.safe V_b145.lt sf_b145
    have C := C.trans R
    have V_b145 : Arv Z h157 b145 k145 (.object "com/example/querent/querent/translation/Aggregation") (23 : Int32) [(.ref s_COUNT), (.ref s_SUM_INTEGER), (.ref s_SUM_LONG), (.ref s_SUM_DOUBLE), .null, .null, .null, .null, .null, .null, .null, .null, .null, .null, .null, .null, .null, .null, .null, .null, .null, .null, .null] .null := Arv.set Ar156 q156 Z156 N156 H156 G156 rfl W157 3 rfl (Nat.le_of_ble_eq_true rfl)
    have hk := (by rw [W157.size]; exact hk : _ ≤ Array.size h157)
    have V_b76 := V_b76.other W157 ne_b76_b145
    have SL := SL.wr W157 (List.mem_of_getElem? (i := 0) rfl)
    have E_s_COUNT := E_s_COUNT.wr W157
    have E_s_SUM_INTEGER := E_s_SUM_INTEGER.wr W157
    have E_s_SUM_LONG := E_s_SUM_LONG.wr W157
    have E_s_SUM_DOUBLE := E_s_SUM_DOUBLE.wr W157
    have O := O.wr W157 g_b145
    have N157 := Fr.snoc X157 N154 g_b145
    obtain ⟨T158, X158, e158, st158⟩ := getS2 X157 hx hZ hown (host := "") (Or.inl (hw _ (List.mem_of_getElem? (i := 44) rfl))) Via.refl e157 (S_s_SUM_BIG_DECIMAL.ext O.2) (g := (mkF m 180 (own_F17 i i1 i2 i3 i4 i5 (i &&& (3 : Int32)) b76) [(.int (4 : Int32)), (.ref b145), (.ref b145)])) rfl (hb hby at_180)
    have E_s_SUM_BIG_DECIMAL := o_E_s_SUM_BIG_DECIMAL.ext O.2
    obtain ⟨cl159, Ar159, q159, Z159, N159, H159, G159⟩ := id V_b145
    have hin159 : ¬ ((4 : Int32) < 0 ∨ cl159.slots.size ≤ ((4 : Int32)).toNatClampNeg) := inb_of Z159 ⟨by decide, by decide⟩
    obtain ⟨T160, h160, X160, e160, W160, st160⟩ := stR X158 hx hZ e158 Ar159 (j := (4 : Int32)) hin159 rfl (Sto.ofV Ar159 q159 OV145 (Ins.self E_s_SUM_BIG_DECIMAL)) (g := (mkF m 183 (own_F17 i i1 i2 i3 i4 i5 (i &&& (3 : Int32)) b76) [(.ref s_SUM_BIG_DECIMAL), (.int (4 : Int32)), (.ref b145), (.ref b145)])) rfl rfl (hb hby at_183)
    have R := CHr.wr W160 sf_b145 C.1
    have sf_b76 := R.safe V_b76.lt sf_b76
    have sf_b145 := R.safe V_b145.lt sf_b145
    have C := C.trans R
    have V_b145 : Arv Z h160 b145 k145 (.object "com/example/querent/querent/translation/Aggregation") (23 : Int32) [(.ref s_COUNT), (.ref s_SUM_INTEGER), (.ref s_SUM_LONG), (.ref s_SUM_DOUBLE), (.ref s_SUM_BIG_DECIMAL), .null, .null, .null, .null, .null, .null, .null, .null, .null, .null, .null, .null, .null, .null, .null, .null, .null, .null] .null := Arv.set Ar159 q159 Z159 N159 H159 G159 rfl W160 4 rfl (Nat.le_of_ble_eq_true rfl)
    have hk := (by rw [W160.size]; exact hk : _ ≤ Array.size h160)
    have V_b76 := V_b76.other W160 ne_b76_b145
    have SL := SL.wr W160 (List.mem_of_getElem? (i := 0) rfl)
    have E_s_COUNT := E_s_COUNT.wr W160
    have E_s_SUM_INTEGER := E_s_SUM_INTEGER.wr W160
    have E_s_SUM_LONG := E_s_SUM_LONG.wr W160
    have E_s_SUM_DOUBLE := E_s_SUM_DOUBLE.wr W160
    have E_s_SUM_BIG_DECIMAL := E_s_SUM_BIG_DECIMAL.wr W160
    have O := O.wr W160 g_b145
    have N160 := Fr.snoc X160 N157 g_b145
    obtain ⟨T161, X161, e161, st161⟩ := getS2 X160 hx hZ hown (host := "") (Or.inl (hw _ (List.mem_of_getElem? (i := 46) rfl))) Via.refl e160 (S_s_MIN.ext O.2) (g := (mkF m 186 (own_F17 i i1 i2 i3 i4 i5 (i &&& (3 : Int32)) b76) [(.int (5 : Int32)), (.ref b145), (.ref b145)])) rfl (hb hby at_186)
    have E_s_MIN := o_E_s_MIN.ext O.2
    obtain ⟨cl162, Ar162, q162, Z162, N162, H162, G162⟩ := id V_b145
    have hin162 : ¬ ((5 : Int32) < 0 ∨ cl162.slots.size ≤ ((5 : Int32)).toNatClampNeg) := inb_of Z162 ⟨by decide, by decide⟩
    obtain ⟨T163, h163, X163, e163, W163, st163⟩ := stR X161 hx hZ e161 Ar162 (j := (5 : Int32)) hin162 rfl (Sto.ofV Ar162 q162 OV145 (Ins.self E_s_MIN)) (g := (mkF m 189 (own_F17 i i1 i2 i3 i4 i5 (i &&& (3 : Int32)) b76) [(.ref s_MIN), (.int (5 : Int32)), (.ref b145), (.ref b145)])) rfl rfl (hb hby at_189)
    have R := CHr.wr W163 sf_b145 C.1
    have sf_b76 := R.safe V_b76.lt sf_b76
    have sf_b145 := R.safe V_b145.lt sf_b145
    have C := C.trans R
    have V_b145 : Arv Z h163 b145 k145 (.object "com/example/querent/querent/translation/Aggregation") (23 : Int32) [(.ref s_COUNT), (.ref s_SUM_INTEGER), (.ref s_SUM_LONG), (.ref s_SUM_DOUBLE), (.ref s_SUM_BIG_DECIMAL), (.ref s_MIN), .null, .null, .null, .null, .null, .null, .null, .null, .null, .null, .null, .null, .null, .null, .null, .null, .null] .null := Arv.set Ar162 q162 Z162 N162 H162 G162 rfl W163 5 rfl (Nat.le_of_ble_eq_true rfl)
    have hk := (by rw [W163.size]; exact hk : _ ≤ Array.size h163)
    have V_b76 := V_b76.other W163 ne_b76_b145
    have SL := SL.wr W163 (List.mem_of_getElem? (i := 0) rfl)
    have E_s_COUNT := E_s_COUNT.wr W163
    have E_s_SUM_INTEGER := E_s_SUM_INTEGER.wr W163
    have E_s_SUM_LONG := E_s_SUM_LONG.wr W163
    have E_s_SUM_DOUBLE := E_s_SUM_DOUBLE.wr W163
    have E_s_SUM_BIG_DECIMAL := E_s_SUM_BIG_DECIMAL.wr W163
    have E_s_MIN := E_s_MIN.wr W163
    have O := O.wr W163 g_b145
    have N163 := Fr.snoc X163 N160 g_b145
    obtain ⟨T164, X164, e164, st164⟩ := getS2 X163 hx hZ hown (host := "") (Or.inl (hw _ (List.mem_of_getElem? (i := 48) rfl))) Via.refl e163 (S_s_MAX.ext O.2) (g := (mkF m 193 (own_F17 i i1 i2 i3 i4 i5 (i &&& (3 : Int32)) b76) [(.int (6 : Int32)), (.ref b145), (.ref b145)])) rfl (hb hby at_193)
    have E_s_MAX := o_E_s_MAX.ext O.2
    obtain ⟨cl165, Ar165, q165, Z165, N165, H165, G165⟩ := id V_b145
    have hin165 : ¬ ((6 : Int32) < 0 ∨ cl165.slots.size ≤ ((6 : Int32)).toNatClampNeg) := inb_of Z165 ⟨by decide, by decide⟩
    obtain ⟨T166, h166, X166, e166, W166, st166⟩ := stR X164 hx hZ e164 Ar165 (j := (6 : Int32)) hin165 rfl (Sto.ofV Ar165 q165 OV145 (Ins.self E_s_MAX)) (g := (mkF m 196 (own_F17 i i1 i2 i3 i4 i5 (i &&& (3 : Int32)) b76) [(.ref s_MAX), (.int (6 : Int32)), (.ref b145), (.ref b145)])) rfl rfl (hb hby at_196)
    have R := CHr.wr W166 sf_b145 C.1
    have sf_b76 := R.safe V_b76.lt sf_b76
    have sf_b145 := R.safe V_b145.lt sf_b145
    have C := C.trans R
    have V_b145 : Arv Z h166 b145 k145 (.object "com/example/querent/querent/translation/Aggregation") (23 : Int32) [(.ref s_COUNT), (.ref s_SUM_INTEGER), (.ref s_SUM_LONG), (.ref s_SUM_DOUBLE), (.ref s_SUM_BIG_DECIMAL), (.ref s_MIN), (.ref s_MAX), .null, .null, .null, .null, .null, .null, .null, .null, .null, .null, .null, .null, .null, .null, .null, .null] .null := Arv.set Ar165 q165 Z165 N165 H165 G165 rfl W166 6 rfl (Nat.le_of_ble_eq_true rfl)
    have hk := (by rw [W166.size]; exact hk : _ ≤ Array.size h166)
    have V_b76 := V_b76.other W166 ne_b76_b145
    have SL := SL.wr W166 (List.mem_of_getElem? (i := 0) rfl)
    have E_s_COUNT := E_s_COUNT.wr W166
    have E_s_SUM_INTEGER := E_s_SUM_INTEGER.wr W166
    have E_s_SUM_LONG := E_s_SUM_LONG.wr W166
    have E_s_SUM_DOUBLE := E_s_SUM_DOUBLE.wr W166
    have E_s_SUM_BIG_DECIMAL := E_s_SUM_BIG_DECIMAL.wr W166
    have E_s_MIN := E_s_MIN.wr W166
    have E_s_MAX := E_s_MAX.wr W166
    have O := O.wr W166 g_b145
    have N166 := Fr.snoc X166 N163 g_b145
    obtain ⟨T167, X167, e167, st167⟩ := getS2 X166 hx hZ hown (host := "") (Or.inl (hw _ (List.mem_of_getElem? (i := 50) rfl))) Via.refl e166 (S_s_AVG.ext O.2) (g := (mkF m 200 (own_F17 i i1 i2 i3 i4 i5 (i &&& (3 : Int32)) b76) [(.int (7 : Int32)), (.ref b145), (.ref b145)])) rfl (hb hby at_200)
    have E_s_AVG := o_E_s_AVG.ext O.2
    obtain ⟨cl168, Ar168, q168, Z168, N168, H168, G168⟩ := id V_b145
    have hin168 : ¬ ((7 : Int32) < 0 ∨ cl168.slots.size ≤ ((7 : Int32)).toNatClampNeg) := inb_of Z168 ⟨by decide, by decide⟩
    obtain ⟨T169, h169, X169, e169, W169, st169⟩ := stR X167 hx hZ e167 Ar168 (j := (7 : Int32)) hin168 rfl (Sto.ofV Ar168 q168 OV145 (Ins.self E_s_AVG)) (g := (mkF m 203 (own_F17 i i1 i2 i3 i4 i5 (i &&& (3 : Int32)) b76) [(.ref s_AVG), (.int (7 : Int32)), (.ref b145), (.ref b145)])) rfl rfl (hb hby at_203)
    have R := CHr.wr W169 sf_b145 C.1
    have sf_b76 := R.safe V_b76.lt sf_b76
    have sf_b145 := R.safe V_b145.lt sf_b145
    have C := C.trans R
    have V_b145 : Arv Z h169 b145 k145 (.object "com/example/querent/querent/translation/Aggregation") (23 : Int32) [(.ref s_COUNT), (.ref s_SUM_INTEGER), (.ref s_SUM_LONG), (.ref s_SUM_DOUBLE), (.ref s_SUM_BIG_DECIMAL), (.ref s_MIN), (.ref s_MAX), (.ref s_AVG), .null, .null, .null, .null, .null, .null, .null, .null, .null, .null, .null, .null, .null, .null, .null] .null := Arv.set Ar168 q168 Z168 N168 H168 G168 rfl W169 7 rfl (Nat.le_of_ble_eq_true rfl)
    have hk := (by rw [W169.size]; exact hk : _ ≤ Array.size h169)
    have V_b76 := V_b76.other W169 ne_b76_b145
    have SL := SL.wr W169 (List.mem_of_getElem? (i := 0) rfl)
    have E_s_COUNT := E_s_COUNT.wr W169
    have E_s_SUM_INTEGER := E_s_SUM_INTEGER.wr W169
    have E_s_SUM_LONG := E_s_SUM_LONG.wr W169
    have E_s_SUM_DOUBLE := E_s_SUM_DOUBLE.wr W169
    have E_s_SUM_BIG_DECIMAL := E_s_SUM_BIG_DECIMAL.wr W169
    have E_s_MIN := E_s_MIN.wr W169
    have E_s_MAX := E_s_MAX.wr W169
    have E_s_AVG := E_s_AVG.wr W169
    have O := O.wr W169 g_b145
    have N169 := Fr.snoc X169 N166 g_b145
    obtain ⟨cl170, Ar170, q170, Z170, N170, H170, G170⟩ := id V_b145
    have hin170 : ¬ ((8 : Int32) < 0 ∨ cl170.slots.size ≤ ((8 : Int32)).toNatClampNeg) := inb_of Z170 ⟨by decide, by decide⟩
    obtain ⟨T171, h171, X171, e171, W171, st171⟩ := stR X169 hx hZ e169 Ar170 (j := (8 : Int32)) hin170 rfl (Or.inl rfl) (g := (mkF m 208 (own_F17 i i1 i2 i3 i4 i5 (i &&& (3 : Int32)) b76) [.null, (.int (8 : Int32)), (.ref b145), (.ref b145)])) rfl rfl (hb hby at_208)
    have R := CHr.wr W171 sf_b145 C.1
    have sf_b76 := R.safe V_b76.lt sf_b76
    have sf_b145 := R.safe V_b145.lt sf_b145
    have C := C.trans R
    have V_b145 : Arv Z h171 b145 k145 (.object "com/example/querent/querent/translation/Aggregation") (23 : Int32) [(.ref s_COUNT), (.ref s_SUM_INTEGER), (.ref s_SUM_LONG), (.ref s_SUM_DOUBLE), (.ref s_SUM_BIG_DECIMAL), (.ref s_MIN), (.ref s_MAX), (.ref s_AVG), .null, .null, .null, .null, .null, .null, .null, .null, .null, .null, .null, .null, .null, .null, .null] .null := Arv.set Ar170 q170 Z170 N170 H170 G170 rfl W171 8 rfl (Nat.le_of_ble_eq_true rfl)
    have hk := (by rw [W171.size]; exact hk : _ ≤ Array.size h171)
    have V_b76 := V_b76.other W171 ne_b76_b145
    have SL := SL.wr W171 (List.mem_of_getElem? (i := 0) rfl)
    have E_s_COUNT := E_s_COUNT.wr W171
    have E_s_SUM_INTEGER := E_s_SUM_INTEGER.wr W171
    have E_s_SUM_LONG := E_s_SUM_LONG.wr W171
    have E_s_SUM_DOUBLE := E_s_SUM_DOUBLE.wr W171
    have E_s_SUM_BIG_DECIMAL := E_s_SUM_BIG_DECIMAL.wr W171
    have E_s_MIN := E_s_MIN.wr W171
    have E_s_MAX := E_s_MAX.wr W171
    have E_s_AVG := E_s_AVG.wr W171
    have O := O.wr W171 g_b145
    have N171 := Fr.snoc X171 N169 g_b145
    obtain ⟨cl172, Ar172, q172, Z172, N172, H172, G172⟩ := id V_b145
    have hin172 : ¬ ((9 : Int32) < 0 ∨ cl172.slots.size ≤ ((9 : Int32)).toNatClampNeg) := inb_of Z172 ⟨by decide, by decide⟩
    obtain ⟨T173, h173, X173, e173, W173, st173⟩ := stR X171 hx hZ e171 Ar172 (j := (9 : Int32)) hin172 rfl (Or.inl rfl) (g := (mkF m 213 (own_F17 i i1 i2 i3 i4 i5 (i &&& (3 : Int32)) b76) [.null, (.int (9 : Int32)), (.ref b145), (.ref b145)])) rfl rfl (hb hby at_213)
    have R := CHr.wr W173 sf_b145 C.1
    have sf_b76 := R.safe V_b76.lt sf_b76
    have sf_b145 := R.safe V_b145.lt sf_b145
    have C := C.trans R
    have V_b145 : Arv Z h173 b145 k145 (.object "com/example/querent/querent/translation/Aggregation") (23 : Int32) [(.ref s_COUNT), (.ref s_SUM_INTEGER), (.ref s_SUM_LONG), (.ref s_SUM_DOUBLE), (.ref s_SUM_BIG_DECIMAL), (.ref s_MIN), (.ref s_MAX), (.ref s_AVG), .null, .null, .null, .null, .null, .null, .null, .null, .null, .null, .null, .null, .null, .null, .null] .null := Arv.set Ar172 q172 Z172 N172 H172 G172 rfl W173 9 rfl (Nat.le_of_ble_eq_true rfl)
    have hk := (by rw [W173.size]; exact hk : _ ≤ Array.size h173)
    have V_b76 := V_b76.other W173 ne_b76_b145
    have SL := SL.wr W173 (List.mem_of_getElem? (i := 0) rfl)
    have E_s_COUNT := E_s_COUNT.wr W173
    have E_s_SUM_INTEGER := E_s_SUM_INTEGER.wr W173
    have E_s_SUM_LONG := E_s_SUM_LONG.wr W173
    have E_s_SUM_DOUBLE := E_s_SUM_DOUBLE.wr W173
    have E_s_SUM_BIG_DECIMAL := E_s_SUM_BIG_DECIMAL.wr W173
    have E_s_MIN := E_s_MIN.wr W173
    have E_s_MAX := E_s_MAX.wr W173
    have E_s_AVG := E_s_AVG.wr W173
    have O := O.wr W173 g_b145
    have N173 := Fr.snoc X173 N171 g_b145
    obtain ⟨cl174, Ar174, q174, Z174, N174, H174, G174⟩ := id V_b145
    have hin174 : ¬ ((10 : Int32) < 0 ∨ cl174.slots.size ≤ ((10 : Int32)).toNatClampNeg) := inb_of Z174 ⟨by decide, by decide⟩
    obtain ⟨T175, h175, X175, e175, W175, st175⟩ := stR X173 hx hZ e173 Ar174 (j := (10 : Int32)) hin174 rfl (Or.inl rfl) (g := (mkF m 218 (own_F17 i i1 i2 i3 i4 i5 (i &&& (3 : Int32)) b76) [.null, (.int (10 : Int32)), (.ref b145), (.ref b145)])) rfl rfl (hb hby at_218)
    have R := CHr.wr W175 sf_b145 C.1
    have sf_b76 := R.safe V_b76.lt sf_b76
    have sf_b145 := R.safe V_b145.lt sf_b145
    have C := C.trans R
    have V_b145 : Arv Z h175 b145 k145 (.object "com/example/querent/querent/translation/Aggregation") (23 : Int32) [(.ref s_COUNT), (.ref s_SUM_INTEGER), (.ref s_SUM_LONG), (.ref s_SUM_DOUBLE), (.ref s_SUM_BIG_DECIMAL), (.ref s_MIN), (.ref s_MAX), (.ref s_AVG), .null, .null, .null, .null, .null, .null, .null, .null, .null, .null, .null, .null, .null, .null, .null] .null := Arv.set Ar174 q174 Z174 N174 H174 G174 rfl W175 10 rfl (Nat.le_of_ble_eq_true rfl)
    have hk := (by rw [W175.size]; exact hk : _ ≤ Array.size h175)
    have V_b76 := V_b76.other W175 ne_b76_b145
    have SL := SL.wr W175 (List.mem_of_getElem? (i := 0) rfl)
    have E_s_COUNT := E_s_COUNT.wr W175
    have E_s_SUM_INTEGER := E_s_SUM_INTEGER.wr W175
    have E_s_SUM_LONG := E_s_SUM_LONG.wr W175
    have E_s_SUM_DOUBLE := E_s_SUM_DOUBLE.wr W175
    have E_s_SUM_BIG_DECIMAL := E_s_SUM_BIG_DECIMAL.wr W175
    have E_s_MIN := E_s_MIN.wr W175
    have E_s_MAX := E_s_MAX.wr W175
    have E_s_AVG := E_s_AVG.wr W175
    have O := O.wr W175 g_b145
    have N175 := Fr.snoc X175 N173 g_b145
    obtain ⟨cl176, Ar176, q176, Z176, N176, H176, G176⟩ := id V_b145
    have hin176 : ¬ ((11 : Int32) < 0 ∨ cl176.slots.size ≤ ((11 : Int32)).toNatClampNeg) := inb_of Z176 ⟨by decide, by decide⟩
    obtain ⟨T177, h177, X177, e177, W177, st177⟩ := stR X175 hx hZ e175 Ar176 (j := (11 : Int32)) hin176 rfl (Or.inl rfl) (g := (mkF m 223 (own_F17 i i1 i2 i3 i4 i5 (i &&& (3 : Int32)) b76) [.null, (.int (11 : Int32)), (.ref b145), (.ref b145)])) rfl rfl (hb hby at_223)
    have R := CHr.wr W177 sf_b145 C.1
    have sf_b76 := R.safe V_b76.lt sf_b76
    have sf_b145 := R.safe V_b145.lt sf_b145
    have C := C.trans R
    have V_b145 : Arv Z h177 b145 k145 (.object "com/example/querent/querent/translation/Aggregation") (23 : Int32) [(.ref s_COUNT), (.ref s_SUM_INTEGER), (.ref s_SUM_LONG), (.ref s_SUM_DOUBLE), (.ref s_SUM_BIG_DECIMAL), (.ref s_MIN), (.ref s_MAX), (.ref s_AVG), .null, .null, .null, .null, .null, .null, .null, .null, .null, .null, .null, .null, .null, .null, .null] .null := Arv.set Ar176 q176 Z176 N176 H176 G176 rfl W177 11 rfl (Nat.le_of_ble_eq_true rfl)
    have hk := (by rw [W177.size]; exact hk : _ ≤ Array.size h177)
    have V_b76 := V_b76.other W177 ne_b76_b145
    have SL := SL.wr W177 (List.mem_of_getElem? (i := 0) rfl)
    have E_s_COUNT := E_s_COUNT.wr W177
    have E_s_SUM_INTEGER := E_s_SUM_INTEGER.wr W177
    have E_s_SUM_LONG := E_s_SUM_LONG.wr W177
    have E_s_SUM_DOUBLE := E_s_SUM_DOUBLE.wr W177
    have E_s_SUM_BIG_DECIMAL := E_s_SUM_BIG_DECIMAL.wr W177
    have E_s_MIN := E_s_MIN.wr W177
    have E_s_MAX := E_s_MAX.wr W177
    have E_s_AVG := E_s_AVG.wr W177
    have O := O.wr W177 g_b145
    have N177 := Fr.snoc X177 N175 g_b145
    obtain ⟨cl178, Ar178, q178, Z178, N178, H178, G178⟩ := id V_b145
    have hin178 : ¬ ((12 : Int32) < 0 ∨ cl178.slots.size ≤ ((12 : Int32)).toNatClampNeg) := inb_of Z178 ⟨by decide, by decide⟩
    obtain ⟨T179, h179, X179, e179, W179, st179⟩ := stR X177 hx hZ e177 Ar178 (j := (12 : Int32)) hin178 rfl (Or.inl rfl) (g := (mkF m 228 (own_F17 i i1 i2 i3 i4 i5 (i &&& (3 : Int32)) b76) [.null, (.int (12 : Int32)), (.ref b145), (.ref b145)])) rfl rfl (hb hby at_228)
    have R := CHr.wr W179 sf_b145 C.1
    have sf_b76 := R.safe V_b76.lt sf_b76
    have sf_b145 := R.safe V_b145.lt sf_b145
    have C := C.trans R
    have V_b145 : Arv Z h179 b145 k145 (.object "com/example/querent/querent/translation/Aggregation") (23 : Int32) [(.ref s_COUNT), (.ref s_SUM_INTEGER), (.ref s_SUM_LONG), (.ref s_SUM_DOUBLE), (.ref s_SUM_BIG_DECIMAL), (.ref s_MIN), (.ref s_MAX), (.ref s_AVG), .null, .null, .null, .null, .null, .null, .null, .null, .null, .null, .null, .null, .null, .null, .null] .null := Arv.set Ar178 q178 Z178 N178 H178 G178 rfl W179 12 rfl (Nat.le_of_ble_eq_true rfl)
    have hk := (by rw [W179.size]; exact hk : _ ≤ Array.size h179)
    have V_b76 := V_b76.other W179 ne_b76_b145
    have SL := SL.wr W179 (List.mem_of_getElem? (i := 0) rfl)
    have E_s_COUNT := E_s_COUNT.wr W179
    have E_s_SUM_INTEGER := E_s_SUM_INTEGER.wr W179
    have E_s_SUM_LONG := E_s_SUM_LONG.wr W179
    have E_s_SUM_DOUBLE := E_s_SUM_DOUBLE.wr W179
    have E_s_SUM_BIG_DECIMAL := E_s_SUM_BIG_DECIMAL.wr W179
    have E_s_MIN := E_s_MIN.wr W179
    have E_s_MAX := E_s_MAX.wr W179
    have E_s_AVG := E_s_AVG.wr W179
    have O := O.wr W179 g_b145
    have N179 := Fr.snoc X179 N177 g_b145
    obtain ⟨cl180, Ar180, q180, Z180, N180, H180, G180⟩ := id V_b145
    have hin180 : ¬ ((13 : Int32) < 0 ∨ cl180.slots.size ≤ ((13 : Int32)).toNatClampNeg) := inb_of Z180 ⟨by decide, by decide⟩
    obtain ⟨T181, h181, X181, e181, W181, st181⟩ := stR X179 hx hZ e179 Ar180 (j := (13 : Int32)) hin180 rfl (Or.inl rfl) (g := (mkF m 233 (own_F17 i i1 i2 i3 i4 i5 (i &&& (3 : Int32)) b76) [.null, (.int (13 : Int32)), (.ref b145), (.ref b145)])) rfl rfl (hb hby at_233)
    have R := CHr.wr W181 sf_b145 C.1
    have sf_b76 := R.safe V_b76.lt sf_b76
    have sf_b145 := R.safe V_b145.lt sf_b145
    have C := C.trans R
    have V_b145 : Arv Z h181 b145 k145 (.object "com/example/querent/querent/translation/Aggregation") (23 : Int32) [(.ref s_COUNT), (.ref s_SUM_INTEGER), (.ref s_SUM_LONG), (.ref s_SUM_DOUBLE), (.ref s_SUM_BIG_DECIMAL), (.ref s_MIN), (.ref s_MAX), (.ref s_AVG), .null, .null, .null, .null, .null, .null, .null, .null, .null, .null, .null, .null, .null, .null, .null] .null := Arv.set Ar180 q180 Z180 N180 H180 G180 rfl W181 13 rfl (Nat.le_of_ble_eq_true rfl)
    have hk := (by rw [W181.size]; exact hk : _ ≤ Array.size h181)
    have V_b76 := V_b76.other W181 ne_b76_b145
    have SL := SL.wr W181 (List.mem_of_getElem? (i := 0) rfl)
    have E_s_COUNT := E_s_COUNT.wr W181
    have E_s_SUM_INTEGER := E_s_SUM_INTEGER.wr W181
    have E_s_SUM_LONG := E_s_SUM_LONG.wr W181
    have E_s_SUM_DOUBLE := E_s_SUM_DOUBLE.wr W181
    have E_s_SUM_BIG_DECIMAL := E_s_SUM_BIG_DECIMAL.wr W181
    have E_s_MIN := E_s_MIN.wr W181
    have E_s_MAX := E_s_MAX.wr W181
    have E_s_AVG := E_s_AVG.wr W181
    have O := O.wr W181 g_b145
    have N181 := Fr.snoc X181 N179 g_b145
    obtain ⟨cl182, Ar182, q182, Z182, N182, H182, G182⟩ := id V_b145
    have hin182 : ¬ ((14 : Int32) < 0 ∨ cl182.slots.size ≤ ((14 : Int32)).toNatClampNeg) := inb_of Z182 ⟨by decide, by decide⟩
    obtain ⟨T183, h183, X183, e183, W183, st183⟩ := stR X181 hx hZ e181 Ar182 (j := (14 : Int32)) hin182 rfl (Or.inl rfl) (g := (mkF m 238 (own_F17 i i1 i2 i3 i4 i5 (i &&& (3 : Int32)) b76) [.null, (.int (14 : Int32)), (.ref b145), (.ref b145)])) rfl rfl (hb hby at_238)
    have R := CHr.wr W183 sf_b145 C.1
    have sf_b76 := R.safe V_b76.lt sf_b76
    have sf_b145 := R.safe V_b145.lt sf_b145
    have C := C.trans R
    have V_b145 : Arv Z h183 b145 k145 (.object "com/example/querent/querent/translation/Aggregation") (23 : Int32) [(.ref s_COUNT), (.ref s_SUM_INTEGER), (.ref s_SUM_LONG), (.ref s_SUM_DOUBLE), (.ref s_SUM_BIG_DECIMAL), (.ref s_MIN), (.ref s_MAX), (.ref s_AVG), .null, .null, .null, .null, .null, .null, .null, .null, .null, .null, .null, .null, .null, .null, .null] .null := Arv.set Ar182 q182 Z182 N182 H182 G182 rfl W183 14 rfl (Nat.le_of_ble_eq_true rfl)
    have hk := (by rw [W183.size]; exact hk : _ ≤ Array.size h183)
    have V_b76 := V_b76.other W183 ne_b76_b145
    have SL := SL.wr W183 (List.mem_of_getElem? (i := 0) rfl)
    have E_s_COUNT := E_s_COUNT.wr W183
    have E_s_SUM_INTEGER := E_s_SUM_INTEGER.wr W183
    have E_s_SUM_LONG := E_s_SUM_LONG.wr W183
    have E_s_SUM_DOUBLE := E_s_SUM_DOUBLE.wr W183
    have E_s_SUM_BIG_DECIMAL := E_s_SUM_BIG_DECIMAL.wr W183
    have E_s_MIN := E_s_MIN.wr W183
    have E_s_MAX := E_s_MAX.wr W183
    have E_s_AVG := E_s_AVG.wr W183
    have O := O.wr W183 g_b145
    have N183 := Fr.snoc X183 N181 g_b145
    obtain ⟨cl184, Ar184, q184, Z184, N184, H184, G184⟩ := id V_b145
    have hin184 : ¬ ((15 : Int32) < 0 ∨ cl184.slots.size ≤ ((15 : Int32)).toNatClampNeg) := inb_of Z184 ⟨by decide, by decide⟩
    obtain ⟨T185, h185, X185, e185, W185, st185⟩ := stR X183 hx hZ e183 Ar184 (j := (15 : Int32)) hin184 rfl (Or.inl rfl) (g := (mkF m 243 (own_F17 i i1 i2 i3 i4 i5 (i &&& (3 : Int32)) b76) [.null, (.int (15 : Int32)), (.ref b145), (.ref b145)])) rfl rfl (hb hby at_243)
    have R := CHr.wr W185 sf_b145 C.1
    have sf_b76 := R.safe V_b76.lt sf_b76
    have sf_b145 := R.safe V_b145.lt sf_b145
    have C := C.trans R
    have V_b145 : Arv Z h185 b145 k145 (.object "com/example/querent/querent/translation/Aggregation") (23 : Int32) [(.ref s_COUNT), (.ref s_SUM_INTEGER), (.ref s_SUM_LONG), (.ref s_SUM_DOUBLE), (.ref s_SUM_BIG_DECIMAL), (.ref s_MIN), (.ref s_MAX), (.ref s_AVG), .null, .null, .null, .null, .null, .null, .null, .null, .null, .null, .null, .null, .null, .null, .null] .null := Arv.set Ar184 q184 Z184 N184 H184 G184 rfl W185 15 rfl (Nat.le_of_ble_eq_true rfl)
    have hk := (by rw [W185.size]; exact hk : _ ≤ Array.size h185)
    have V_b76 := V_b76.other W185 ne_b76_b145
    have SL := SL.wr W185 (List.mem_of_getElem? (i := 0) rfl)
    have E_s_COUNT := E_s_COUNT.wr W185
    have E_s_SUM_INTEGER := E_s_SUM_INTEGER.wr W185
    have E_s_SUM_LONG := E_s_SUM_LONG.wr W185
    have E_s_SUM_DOUBLE := E_s_SUM_DOUBLE.wr W185
    have E_s_SUM_BIG_DECIMAL := E_s_SUM_BIG_DECIMAL.wr W185
    have E_s_MIN := E_s_MIN.wr W185
    have E_s_MAX := E_s_MAX.wr W185
    have E_s_AVG := E_s_AVG.wr W185
    have O := O.wr W185 g_b145
    have N185 := Fr.snoc X185 N183 g_b145
    obtain ⟨cl186, Ar186, q186, Z186, N186, H186, G186⟩ := id V_b145
    have hin186 : ¬ ((16 : Int32) < 0 ∨ cl186.slots.size ≤ ((16 : Int32)).toNatClampNeg) := inb_of Z186 ⟨by decide, by decide⟩
    obtain ⟨T187, h187, X187, e187, W187, st187⟩ := stR X185 hx hZ e185 Ar186 (j := (16 : Int32)) hin186 rfl (Or.inl rfl) (g := (mkF m 248 (own_F17 i i1 i2 i3 i4 i5 (i &&& (3 : Int32)) b76) [.null, (.int (16 : Int32)), (.ref b145), (.ref b145)])) rfl rfl (hb hby at_248)
    have R := CHr.wr W187 sf_b145 C.1
    have sf_b76 := R.safe V_b76.lt sf_b76
    have sf_b145 := R.safe V_b145.lt sf_b145
    have C := C.trans R
    have V_b145 : Arv Z h187 b145 k145 (.object "com/example/querent/querent/translation/Aggregation") (23 : Int32) [(.ref s_COUNT), (.ref s_SUM_INTEGER), (.ref s_SUM_LONG), (.ref s_SUM_DOUBLE), (.ref s_SUM_BIG_DECIMAL), (.ref s_MIN), (.ref s_MAX), (.ref s_AVG), .null, .null, .null, .null, .null, .null, .null, .null, .null, .null, .null, .null, .null, .null, .null] .null := Arv.set Ar186 q186 Z186 N186 H186 G186 rfl W187 16 rfl (Nat.le_of_ble_eq_true rfl)
    have hk := (by rw [W187.size]; exact hk : _ ≤ Array.size h187)
    have V_b76 := V_b76.other W187 ne_b76_b145
    have SL := SL.wr W187 (List.mem_of_getElem? (i := 0) rfl)
    have E_s_COUNT := E_s_COUNT.wr W187
    have E_s_SUM_INTEGER := E_s_SUM_INTEGER.wr W187
    have E_s_SUM_LONG := E_s_SUM_LONG.wr W187
    have E_s_SUM_DOUBLE := E_s_SUM_DOUBLE.wr W187
    have E_s_SUM_BIG_DECIMAL := E_s_SUM_BIG_DECIMAL.wr W187
    have E_s_MIN := E_s_MIN.wr W187
    have E_s_MAX := E_s_MAX.wr W187
    have E_s_AVG := E_s_AVG.wr W187
    have O := O.wr W187 g_b145
    have N187 := Fr.snoc X187 N185 g_b145
    obtain ⟨cl188, Ar188, q188, Z188, N188, H188, G188⟩ := id V_b145
    have hin188 : ¬ ((17 : Int32) < 0 ∨ cl188.slots.size ≤ ((17 : Int32)).toNatClampNeg) := inb_of Z188 ⟨by decide, by decide⟩
    obtain ⟨T189, h189, X189, e189, W189, st189⟩ := stR X187 hx hZ e187 Ar188 (j := (17 : Int32)) hin188 rfl (Or.inl rfl) (g := (mkF m 253 (own_F17 i i1 i2 i3 i4 i5 (i &&& (3 : Int32)) b76) [.null, (.int (17 : Int32)), (.ref b145), (.ref b145)])) rfl rfl (hb hby at_253)
    have R := CHr.wr W189 sf_b145 C.1
    have sf_b76 := R.safe V_b76.lt sf_b76
    have sf_b145 := R.safe V_b145.lt sf_b145
    have C := C.trans R
    have V_b145 : Arv Z h189 b145 k145 (.object "com/example/querent/querent/translation/Aggregation") (23 : Int32) [(.ref s_COUNT), (.ref s_SUM_INTEGER), (.ref s_SUM_LONG), (.ref s_SUM_DOUBLE), (.ref s_SUM_BIG_DECIMAL), (.ref s_MIN), (.ref s_MAX), (.ref s_AVG), .null, .null, .null, .null, .null, .null, .null, .null, .null, .null, .null, .null, .null, .null, .null] .null := Arv.set Ar188 q188 Z188 N188 H188 G188 rfl W189 17 rfl (Nat.le_of_ble_eq_true rfl)
    have hk := (by rw [W189.size]; exact hk : _ ≤ Array.size h189)
    have V_b76 := V_b76.other W189 ne_b76_b145
    have SL := SL.wr W189 (List.mem_of_getElem? (i := 0) rfl)
    have E_s_COUNT := E_s_COUNT.wr W189
    have E_s_SUM_INTEGER := E_s_SUM_INTEGER.wr W189
    have E_s_SUM_LONG := E_s_SUM_LONG.wr W189
    have E_s_SUM_DOUBLE := E_s_SUM_DOUBLE.wr W189
    have E_s_SUM_BIG_DECIMAL := E_s_SUM_BIG_DECIMAL.wr W189
    have E_s_MIN := E_s_MIN.wr W189
    have E_s_MAX := E_s_MAX.wr W189
    have E_s_AVG := E_s_AVG.wr W189
    have O := O.wr W189 g_b145
    have N189 := Fr.snoc X189 N187 g_b145
    obtain ⟨cl190, Ar190, q190, Z190, N190, H190, G190⟩ := id V_b145
    have hin190 : ¬ ((18 : Int32) < 0 ∨ cl190.slots.size ≤ ((18 : Int32)).toNatClampNeg) := inb_of Z190 ⟨by decide, by decide⟩
    obtain ⟨T191, h191, X191, e191, W191, st191⟩ := stR X189 hx hZ e189 Ar190 (j := (18 : Int32)) hin190 rfl (Or.inl rfl) (g := (mkF m 258 (own_F17 i i1 i2 i3 i4 i5 (i &&& (3 : Int32)) b76) [.null, (.int (18 : Int32)), (.ref b145), (.ref b145)])) rfl rfl (hb hby at_258)
    have R := CHr.wr W191 sf_b145 C.1
    have sf_b76 := R.safe V_b76.lt sf_b76
    have sf_b145 := R.safe V_b145.lt sf_b145
    have C := C.trans R
    have V_b145 : Arv Z h191 b145 k145 (.object "com/example/querent/querent/translation/Aggregation") (23 : Int32) [(.ref s_COUNT), (.ref s_SUM_INTEGER), (.ref s_SUM_LONG), (.ref s_SUM_DOUBLE), (.ref s_SUM_BIG_DECIMAL), (.ref s_MIN), (.ref s_MAX), (.ref s_AVG), .null, .null, .null, .null, .null, .null, .null, .null, .null, .null, .null, .null, .null, .null, .null] .null := Arv.set Ar190 q190 Z190 N190 H190 G190 rfl W191 18 rfl (Nat.le_of_ble_eq_true rfl)
    have hk := (by rw [W191.size]; exact hk : _ ≤ Array.size h191)
    have V_b76 := V_b76.other W191 ne_b76_b145
    have SL := SL.wr W191 (List.mem_of_getElem? (i := 0) rfl)
    have E_s_COUNT := E_s_COUNT.wr W191
    have E_s_SUM_INTEGER := E_s_SUM_INTEGER.wr W191
    have E_s_SUM_LONG := E_s_SUM_LONG.wr W191
    have E_s_SUM_DOUBLE := E_s_SUM_DOUBLE.wr W191
    have E_s_SUM_BIG_DECIMAL := E_s_SUM_BIG_DECIMAL.wr W191
    have E_s_MIN := E_s_MIN.wr W191
    have E_s_MAX := E_s_MAX.wr W191
    have E_s_AVG := E_s_AVG.wr W191
    have O := O.wr W191 g_b145
    have N191 := Fr.snoc X191 N189 g_b145
    obtain ⟨cl192, Ar192, q192, Z192, N192, H192, G192⟩ := id V_b145
    have hin192 : ¬ ((19 : Int32) < 0 ∨ cl192.slots.size ≤ ((19 : Int32)).toNatClampNeg) := inb_of Z192 ⟨by decide, by decide⟩
    obtain ⟨T193, h193, X193, e193, W193, st193⟩ := stR X191 hx hZ e191 Ar192 (j := (19 : Int32)) hin192 rfl (Or.inl rfl) (g := (mkF m 263 (own_F17 i i1 i2 i3 i4 i5 (i &&& (3 : Int32)) b76) [.null, (.int (19 : Int32)), (.ref b145), (.ref b145)])) rfl rfl (hb hby at_263)
    have R := CHr.wr W193 sf_b145 C.1
    have sf_b76 := R.safe V_b76.lt sf_b76
    have sf_b145 := R.safe V_b145.lt sf_b145
    have C := C.trans R
    have V_b145 : Arv Z h193 b145 k145 (.object "com/example/querent/querent/translation/Aggregation") (23 : Int32) [(.ref s_COUNT), (.ref s_SUM_INTEGER), (.ref s_SUM_LONG), (.ref s_SUM_DOUBLE), (.ref s_SUM_BIG_DECIMAL), (.ref s_MIN), (.ref s_MAX), (.ref s_AVG), .null, .null, .null, .null, .null, .null, .null, .null, .null, .null, .null, .null, .null, .null, .null] .null := Arv.set Ar192 q192 Z192 N192 H192 G192 rfl W193 19 rfl (Nat.le_of_ble_eq_true rfl)
    have hk := (by rw [W193.size]; exact hk : _ ≤ Array.size h193)
    have V_b76 := V_b76.other W193 ne_b76_b145
    have SL := SL.wr W193 (List.mem_of_getElem? (i := 0) rfl)
    have E_s_COUNT := E_s_COUNT.wr W193
    have E_s_SUM_INTEGER := E_s_SUM_INTEGER.wr W193
    have E_s_SUM_LONG := E_s_SUM_LONG.wr W193
    have E_s_SUM_DOUBLE := E_s_SUM_DOUBLE.wr W193
    have E_s_SUM_BIG_DECIMAL := E_s_SUM_BIG_DECIMAL.wr W193
    have E_s_MIN := E_s_MIN.wr W193
    have E_s_MAX := E_s_MAX.wr W193
    have E_s_AVG := E_s_AVG.wr W193
    have O := O.wr W193 g_b145
    have N193 := Fr.snoc X193 N191 g_b145
    obtain ⟨cl194, Ar194, q194, Z194, N194, H194, G194⟩ := id V_b145
    have hin194 : ¬ ((20 : Int32) < 0 ∨ cl194.slots.size ≤ ((20 : Int32)).toNatClampNeg) := inb_of Z194 ⟨by decide, by decide⟩
    obtain ⟨T195, h195, X195, e195, W195, st195⟩ := stR X193 hx hZ e193 Ar194 (j := (20 : Int32)) hin194 rfl (Or.inl rfl) (g := (mkF m 268 (own_F17 i i1 i2 i3 i4 i5 (i &&& (3 : Int32)) b76) [.null, (.int (20 : Int32)), (.ref b145), (.ref b145)])) rfl rfl (hb hby at_268)
    have R := CHr.wr W195 sf_b145 C.1
    have sf_b76 := R.safe V_b76.lt sf_b76
    have sf_b145 := R.safe V_b145.lt sf_b145
    have C := C.trans R
    have V_b145 : Arv Z h195 b145 k145 (.object "com/example/querent/querent/translation/Aggregation") (23 : Int32) [(.ref s_COUNT), (.ref s_SUM_INTEGER), (.ref s_SUM_LONG), (.ref s_SUM_DOUBLE), (.ref s_SUM_BIG_DECIMAL), (.ref s_MIN), (.ref s_MAX), (.ref s_AVG), .null, .null, .null, .null, .null, .null, .null, .null, .null, .null, .null, .null, .null, .null, .null] .null := Arv.set Ar194 q194 Z194 N194 H194 G194 rfl W195 20 rfl (Nat.le_of_ble_eq_true rfl)
    have hk := (by rw [W195.size]; exact hk : _ ≤ Array.size h195)
    have V_b76 := V_b76.other W195 ne_b76_b145
    have SL := SL.wr W195 (List.mem_of_getElem? (i := 0) rfl)
    have E_s_COUNT := E_s_COUNT.wr W195
    have E_s_SUM_INTEGER := E_s_SUM_INTEGER.wr W195
    have E_s_SUM_LONG := E_s_SUM_LONG.wr W195
    have E_s_SUM_DOUBLE := E_s_SUM_DOUBLE.wr W195
    have E_s_SUM_BIG_DECIMAL := E_s_SUM_BIG_DECIMAL.wr W195
    have E_s_MIN := E_s_MIN.wr W195
    have E_s_MAX := E_s_MAX.wr W195
    have E_s_AVG := E_s_AVG.wr W195
    have O := O.wr W195 g_b145
    have N195 := Fr.snoc X195 N193 g_b145
    obtain ⟨cl196, Ar196, q196, Z196, N196, H196, G196⟩ := id V_b145
    have hin196 : ¬ ((21 : Int32) < 0 ∨ cl196.slots.size ≤ ((21 : Int32)).toNatClampNeg) := inb_of Z196 ⟨by decide, by decide⟩
    obtain ⟨T197, h197, X197, e197, W197, st197⟩ := stR X195 hx hZ e195 Ar196 (j := (21 : Int32)) hin196 rfl (Or.inl rfl) (g := (mkF m 273 (own_F17 i i1 i2 i3 i4 i5 (i &&& (3 : Int32)) b76) [.null, (.int (21 : Int32)), (.ref b145), (.ref b145)])) rfl rfl (hb hby at_273)
    have R := CHr.wr W197 sf_b145 C.1
    have sf_b76 := R.safe V_b76.lt sf_b76
    have sf_b145 := R.safe V_b145.lt sf_b145
    have C := C.trans R
    have V_b145 : Arv Z h197 b145 k145 (.object "com/example/querent/querent/translation/Aggregation") (23 : Int32) [(.ref s_COUNT), (.ref s_SUM_INTEGER), (.ref s_SUM_LONG), (.ref s_SUM_DOUBLE), (.ref s_SUM_BIG_DECIMAL), (.ref s_MIN), (.ref s_MAX), (.ref s_AVG), .null, .null, .null, .null, .null, .null, .null, .null, .null, .null, .null, .null, .null, .null, .null] .null := Arv.set Ar196 q196 Z196 N196 H196 G196 rfl W197 21 rfl (Nat.le_of_ble_eq_true rfl)
    have hk := (by rw [W197.size]; exact hk : _ ≤ Array.size h197)
    have V_b76 := V_b76.other W197 ne_b76_b145
    have SL := SL.wr W197 (List.mem_of_getElem? (i := 0) rfl)
    have E_s_COUNT := E_s_COUNT.wr W197
    have E_s_SUM_INTEGER := E_s_SUM_INTEGER.wr W197
    have E_s_SUM_LONG := E_s_SUM_LONG.wr W197
    have E_s_SUM_DOUBLE := E_s_SUM_DOUBLE.wr W197
    have E_s_SUM_BIG_DECIMAL := E_s_SUM_BIG_DECIMAL.wr W197
    have E_s_MIN := E_s_MIN.wr W197
    have E_s_MAX := E_s_MAX.wr W197
    have E_s_AVG := E_s_AVG.wr W197
    have O := O.wr W197 g_b145
    have N197 := Fr.snoc X197 N195 g_b145
    obtain ⟨cl198, Ar198, q198, Z198, N198, H198, G198⟩ := id V_b145
    have hin198 : ¬ ((22 : Int32) < 0 ∨ cl198.slots.size ≤ ((22 : Int32)).toNatClampNeg) := inb_of Z198 ⟨by decide, by decide⟩
    obtain ⟨T199, h199, X199, e199, W199, st199⟩ := stR X197 hx hZ e197 Ar198 (j := (22 : Int32)) hin198 rfl (Or.inl rfl) (g := (mkF m 278 (own_F17 i i1 i2 i3 i4 i5 (i &&& (3 : Int32)) b76) [.null, (.int (22 : Int32)), (.ref b145), (.ref b145)])) rfl rfl (hb hby at_278)
    have R := CHr.wr W199 sf_b145 C.1
    have sf_b76 := R.safe V_b76.lt sf_b76
    have sf_b145 := R.safe V_b145.lt sf_b145
    have C := C.trans R
    have V_b145 : Arv Z h199 b145 k145 (.object "com/example/querent/querent/translation/Aggregation") (23 : Int32) [(.ref s_COUNT), (.ref s_SUM_INTEGER), (.ref s_SUM_LONG), (.ref s_SUM_DOUBLE), (.ref s_SUM_BIG_DECIMAL), (.ref s_MIN), (.ref s_MAX), (.ref s_AVG), .null, .null, .null, .null, .null, .null, .null, .null, .null, .null, .null, .null, .null, .null, .null] .null := Arv.set Ar198 q198 Z198 N198 H198 G198 rfl W199 22 rfl (Nat.le_of_ble_eq_true rfl)
    have hk := (by rw [W199.size]; exact hk : _ ≤ Array.size h199)
    have V_b76 := V_b76.other W199 ne_b76_b145
    have SL := SL.wr W199 (List.mem_of_getElem? (i := 0) rfl)
    have E_s_COUNT := E_s_COUNT.wr W199
    have E_s_SUM_INTEGER := E_s_SUM_INTEGER.wr W199
    have E_s_SUM_LONG := E_s_SUM_LONG.wr W199
    have E_s_SUM_DOUBLE := E_s_SUM_DOUBLE.wr W199
    have E_s_SUM_BIG_DECIMAL := E_s_SUM_BIG_DECIMAL.wr W199
    have E_s_MIN := E_s_MIN.wr W199
    have E_s_MAX := E_s_MAX.wr W199
    have E_s_AVG := E_s_AVG.wr W199
    have O := O.wr W199 g_b145
    have N199 := Fr.snoc X199 N197 g_b145
    obtain ⟨cl200, Ar200, -, Z200, N200, -, -⟩ := id V_b76
    have w201 : ∀ t, Steps p.tables e below (T199.setTop (mkF m 290 (own_F19 i i1 i2 i3 i4 i5 (i &&& (3 : Int32)) b76 b145 (((i.toUInt32 >>> ((2 : Int32) &&& 31).toUInt32).toInt32) - ((i.toUInt32 >>> ((2 : Int32) &&& 31).toUInt32).toInt32) / (23 : Int32) * (23 : Int32))) [])) t → Steps p.tables e below (s₁.setTop (entryFrame m #[(.int i), (.int i1), (.int i2), (.int i3), (.int i4), (.int i5)] maxLocals)) t := fun t k => by
      refine w1 t ?_
      refine XS.icmpNo X0.here hx rfl (hb hby at_8) rfl (flt hc8_2).2.2.1 ?_
      show Steps p.tables e below (s₁.setTop (mkF m 11 (own_F1 i i1 i2 i3 i4 i5 (i &&& (3 : Int32))) [])) _
      refine XS.bipush X0.here hx rfl (hb hby at_11) ?_
      show Steps p.tables e below (s₁.setTop (mkF m 13 (own_F1 i i1 i2 i3 i4 i5 (i &&& (3 : Int32))) [(.int (23 : Int32))])) _
      refine st76 _ ?_
      show Steps p.tables e below (T76.setTop (mkF m 16 (own_F1 i i1 i2 i3 i4 i5 (i &&& (3 : Int32))) [(.ref b76)])) _
      refine XS.dup X76.here hx rfl (hb hby at_16) rfl rfl ?_
      show Steps p.tables e below (T76.setTop (mkF m 17 (own_F1 i i1 i2 i3 i4 i5 (i &&& (3 : Int32))) [(.ref b76), (.ref b76)])) _
      refine XS.iconst X76.here hx rfl (hb hby at_17) ?_
      show Steps p.tables e below (T76.setTop (mkF m 18 (own_F1 i i1 i2 i3 i4 i5 (i &&& (3 : Int32))) [(.int (0 : Int32)), (.ref b76), (.ref b76)])) _
      refine st77 _ ?_
      show Steps p.tables e below (T77.setTop (mkF m 20 (own_F1 i i1 i2 i3 i4 i5 (i &&& (3 : Int32))) [(.ref a77), (.int (0 : Int32)), (.ref b76), (.ref b76)])) _
      refine st79 _ ?_
      show Steps p.tables e below (T79.setTop (mkF m 21 (own_F1 i i1 i2 i3 i4 i5 (i &&& (3 : Int32))) [(.ref b76)])) _
      refine XS.dup X79.here hx rfl (hb hby at_21) rfl rfl ?_
      show Steps p.tables e below (T79.setTop (mkF m 22 (own_F1 i i1 i2 i3 i4 i5 (i &&& (3 : Int32))) [(.ref b76), (.ref b76)])) _
      refine XS.iconst X79.here hx rfl (hb hby at_22) ?_
      show Steps p.tables e below (T79.setTop (mkF m 23 (own_F1 i i1 i2 i3 i4 i5 (i &&& (3 : Int32))) [(.int (1 : Int32)), (.ref b76), (.ref b76)])) _
      refine st80 _ ?_
      show Steps p.tables e below (T80.setTop (mkF m 25 (own_F1 i i1 i2 i3 i4 i5 (i &&& (3 : Int32))) [(.ref a80), (.int (1 : Int32)), (.ref b76), (.ref b76)])) _
      refine st82 _ ?_
      show Steps p.tables e below (T82.setTop (mkF m 26 (own_F1 i i1 i2 i3 i4 i5 (i &&& (3 : Int32))) [(.ref b76)])) _
      refine XS.dup X82.here hx rfl (hb hby at_26) rfl rfl ?_
      show Steps p.tables e below (T82.setTop (mkF m 27 (own_F1 i i1 i2 i3 i4 i5 (i &&& (3 : Int32))) [(.ref b76), (.ref b76)])) _
      refine XS.iconst X82.here hx rfl (hb hby at_27) ?_
      show Steps p.tables e below (T82.setTop (mkF m 28 (own_F1 i i1 i2 i3 i4 i5 (i &&& (3 : Int32))) [(.int (2 : Int32)), (.ref b76), (.ref b76)])) _
      refine st83 _ ?_
      show Steps p.tables e below (T83.setTop (mkF m 30 (own_F1 i i1 i2 i3 i4 i5 (i &&& (3 : Int32))) [(.ref a83), (.int (2 : Int32)), (.ref b76), (.ref b76)])) _
      refine st85 _ ?_
      show Steps p.tables e below (T85.setTop (mkF m 31 (own_F1 i i1 i2 i3 i4 i5 (i &&& (3 : Int32))) [(.ref b76)])) _
      refine XS.dup X85.here hx rfl (hb hby at_31) rfl rfl ?_
      show Steps p.tables e below (T85.setTop (mkF m 32 (own_F1 i i1 i2 i3 i4 i5 (i &&& (3 : Int32))) [(.ref b76), (.ref b76)])) _
      refine XS.iconst X85.here hx rfl (hb hby at_32) ?_
      show Steps p.tables e below (T85.setTop (mkF m 33 (own_F1 i i1 i2 i3 i4 i5 (i &&& (3 : Int32))) [(.int (3 : Int32)), (.ref b76), (.ref b76)])) _
      refine st86 _ ?_
      show Steps p.tables e below (T86.setTop (mkF m 35 (own_F1 i i1 i2 i3 i4 i5 (i &&& (3 : Int32))) [(.ref a86), (.int (3 : Int32)), (.ref b76), (.ref b76)])) _
      refine st88 _ ?_
      show Steps p.tables e below (T88.setTop (mkF m 36 (own_F1 i i1 i2 i3 i4 i5 (i &&& (3 : Int32))) [(.ref b76)])) _
      refine XS.dup X88.here hx rfl (hb hby at_36) rfl rfl ?_
      show Steps p.tables e below (T88.setTop (mkF m 37 (own_F1 i i1 i2 i3 i4 i5 (i &&& (3 : Int32))) [(.ref b76), (.ref b76)])) _
      refine XS.iconst X88.here hx rfl (hb hby at_37) ?_
      show Steps p.tables e below (T88.setTop (mkF m 38 (own_F1 i i1 i2 i3 i4 i5 (i &&& (3 : Int32))) [(.int (4 : Int32)), (.ref b76), (.ref b76)])) _
      refine st89 _ ?_
      show Steps p.tables e below (T89.setTop (mkF m 40 (own_F1 i i1 i2 i3 i4 i5 (i &&& (3 : Int32))) [(.ref a89), (.int (4 : Int32)), (.ref b76), (.ref b76)])) _
      refine st91 _ ?_
      show Steps p.tables e below (T91.setTop (mkF m 41 (own_F1 i i1 i2 i3 i4 i5 (i &&& (3 : Int32))) [(.ref b76)])) _
      refine XS.dup X91.here hx rfl (hb hby at_41) rfl rfl ?_
      show Steps p.tables e below (T91.setTop (mkF m 42 (own_F1 i i1 i2 i3 i4 i5 (i &&& (3 : Int32))) [(.ref b76), (.ref b76)])) _
      refine XS.iconst X91.here hx rfl (hb hby at_42) ?_
      show Steps p.tables e below (T91.setTop (mkF m 43 (own_F1 i i1 i2 i3 i4 i5 (i &&& (3 : Int32))) [(.int (5 : Int32)), (.ref b76), (.ref b76)])) _
      refine st92 _ ?_
      show Steps p.tables e below (T92.setTop (mkF m 45 (own_F1 i i1 i2 i3 i4 i5 (i &&& (3 : Int32))) [(.ref a92), (.int (5 : Int32)), (.ref b76), (.ref b76)])) _
      refine st94 _ ?_
      show Steps p.tables e below (T94.setTop (mkF m 46 (own_F1 i i1 i2 i3 i4 i5 (i &&& (3 : Int32))) [(.ref b76)])) _
      refine XS.dup X94.here hx rfl (hb hby at_46) rfl rfl ?_
      show Steps p.tables e below (T94.setTop (mkF m 47 (own_F1 i i1 i2 i3 i4 i5 (i &&& (3 : Int32))) [(.ref b76), (.ref b76)])) _
      refine XS.bipush X94.here hx rfl (hb hby at_47) ?_
      show Steps p.tables e below (T94.setTop (mkF m 49 (own_F1 i i1 i2 i3 i4 i5 (i &&& (3 : Int32))) [(.int (6 : Int32)), (.ref b76), (.ref b76)])) _
      refine st95 _ ?_
      show Steps p.tables e below (T95.setTop (mkF m 51 (own_F1 i i1 i2 i3 i4 i5 (i &&& (3 : Int32))) [(.ref a95), (.int (6 : Int32)), (.ref b76), (.ref b76)])) _
      refine st97 _ ?_
      show Steps p.tables e below (T97.setTop (mkF m 52 (own_F1 i i1 i2 i3 i4 i5 (i &&& (3 : Int32))) [(.ref b76)])) _
      refine XS.dup X97.here hx rfl (hb hby at_52) rfl rfl ?_
      show Steps p.tables e below (T97.setTop (mkF m 53 (own_F1 i i1 i2 i3 i4 i5 (i &&& (3 : Int32))) [(.ref b76), (.ref b76)])) _
      refine XS.bipush X97.here hx rfl (hb hby at_53) ?_
      show Steps p.tables e below (T97.setTop (mkF m 55 (own_F1 i i1 i2 i3 i4 i5 (i &&& (3 : Int32))) [(.int (7 : Int32)), (.ref b76), (.ref b76)])) _
      refine st98 _ ?_
      show Steps p.tables e below (T98.setTop (mkF m 57 (own_F1 i i1 i2 i3 i4 i5 (i &&& (3 : Int32))) [(.ref a98), (.int (7 : Int32)), (.ref b76), (.ref b76)])) _
      refine st100 _ ?_
      show Steps p.tables e below (T100.setTop (mkF m 58 (own_F1 i i1 i2 i3 i4 i5 (i &&& (3 : Int32))) [(.ref b76)])) _
      refine XS.dup X100.here hx rfl (hb hby at_58) rfl rfl ?_
      show Steps p.tables e below (T100.setTop (mkF m 59 (own_F1 i i1 i2 i3 i4 i5 (i &&& (3 : Int32))) [(.ref b76), (.ref b76)])) _
      refine XS.bipush X100.here hx rfl (hb hby at_59) ?_
      show Steps p.tables e below (T100.setTop (mkF m 61 (own_F1 i i1 i2 i3 i4 i5 (i &&& (3 : Int32))) [(.int (8 : Int32)), (.ref b76), (.ref b76)])) _
      refine st101 _ ?_
      show Steps p.tables e below (T101.setTop (mkF m 63 (own_F1 i i1 i2 i3 i4 i5 (i &&& (3 : Int32))) [(.ref a101), (.int (8 : Int32)), (.ref b76), (.ref b76)])) _
      refine st103 _ ?_
      show Steps p.tables e below (T103.setTop (mkF m 64 (own_F1 i i1 i2 i3 i4 i5 (i &&& (3 : Int32))) [(.ref b76)])) _
      refine XS.dup X103.here hx rfl (hb hby at_64) rfl rfl ?_
      show Steps p.tables e below (T103.setTop (mkF m 65 (own_F1 i i1 i2 i3 i4 i5 (i &&& (3 : Int32))) [(.ref b76), (.ref b76)])) _
      refine XS.bipush X103.here hx rfl (hb hby at_65) ?_
      show Steps p.tables e below (T103.setTop (mkF m 67 (own_F1 i i1 i2 i3 i4 i5 (i &&& (3 : Int32))) [(.int (9 : Int32)), (.ref b76), (.ref b76)])) _
      refine st104 _ ?_
      show Steps p.tables e below (T104.setTop (mkF m 69 (own_F1 i i1 i2 i3 i4 i5 (i &&& (3 : Int32))) [(.ref a104), (.int (9 : Int32)), (.ref b76), (.ref b76)])) _
      refine st106 _ ?_
      show Steps p.tables e below (T106.setTop (mkF m 70 (own_F1 i i1 i2 i3 i4 i5 (i &&& (3 : Int32))) [(.ref b76)])) _
      refine XS.dup X106.here hx rfl (hb hby at_70) rfl rfl ?_
      show Steps p.tables e below (T106.setTop (mkF m 71 (own_F1 i i1 i2 i3 i4 i5 (i &&& (3 : Int32))) [(.ref b76), (.ref b76)])) _
      refine XS.bipush X106.here hx rfl (hb hby at_71) ?_
      show Steps p.tables e below (T106.setTop (mkF m 73 (own_F1 i i1 i2 i3 i4 i5 (i &&& (3 : Int32))) [(.int (10 : Int32)), (.ref b76), (.ref b76)])) _
      refine st107 _ ?_
      show Steps p.tables e below (T107.setTop (mkF m 75 (own_F1 i i1 i2 i3 i4 i5 (i &&& (3 : Int32))) [(.ref a107), (.int (10 : Int32)), (.ref b76), (.ref b76)])) _
      refine st109 _ ?_
      show Steps p.tables e below (T109.setTop (mkF m 76 (own_F1 i i1 i2 i3 i4 i5 (i &&& (3 : Int32))) [(.ref b76)])) _
      refine XS.dup X109.here hx rfl (hb hby at_76) rfl rfl ?_
      show Steps p.tables e below (T109.setTop (mkF m 77 (own_F1 i i1 i2 i3 i4 i5 (i &&& (3 : Int32))) [(.ref b76), (.ref b76)])) _
      refine XS.bipush X109.here hx rfl (hb hby at_77) ?_
      show Steps p.tables e below (T109.setTop (mkF m 79 (own_F1 i i1 i2 i3 i4 i5 (i &&& (3 : Int32))) [(.int (11 : Int32)), (.ref b76), (.ref b76)])) _
      refine st110 _ ?_
      show Steps p.tables e below (T110.setTop (mkF m 81 (own_F1 i i1 i2 i3 i4 i5 (i &&& (3 : Int32))) [(.ref a110), (.int (11 : Int32)), (.ref b76), (.ref b76)])) _
      refine st112 _ ?_
      show Steps p.tables e below (T112.setTop (mkF m 82 (own_F1 i i1 i2 i3 i4 i5 (i &&& (3 : Int32))) [(.ref b76)])) _
      refine XS.dup X112.here hx rfl (hb hby at_82) rfl rfl ?_
      show Steps p.tables e below (T112.setTop (mkF m 83 (own_F1 i i1 i2 i3 i4 i5 (i &&& (3 : Int32))) [(.ref b76), (.ref b76)])) _
      refine XS.bipush X112.here hx rfl (hb hby at_83) ?_
      show Steps p.tables e below (T112.setTop (mkF m 85 (own_F1 i i1 i2 i3 i4 i5 (i &&& (3 : Int32))) [(.int (12 : Int32)), (.ref b76), (.ref b76)])) _
      refine st113 _ ?_
      show Steps p.tables e below (T113.setTop (mkF m 87 (own_F1 i i1 i2 i3 i4 i5 (i &&& (3 : Int32))) [(.ref a113), (.int (12 : Int32)), (.ref b76), (.ref b76)])) _
      refine st115 _ ?_
      show Steps p.tables e below (T115.setTop (mkF m 88 (own_F1 i i1 i2 i3 i4 i5 (i &&& (3 : Int32))) [(.ref b76)])) _
      refine XS.dup X115.here hx rfl (hb hby at_88) rfl rfl ?_
      show Steps p.tables e below (T115.setTop (mkF m 89 (own_F1 i i1 i2 i3 i4 i5 (i &&& (3 : Int32))) [(.ref b76), (.ref b76)])) _
      refine XS.bipush X115.here hx rfl (hb hby at_89) ?_
      show Steps p.tables e below (T115.setTop (mkF m 91 (own_F1 i i1 i2 i3 i4 i5 (i &&& (3 : Int32))) [(.int (13 : Int32)), (.ref b76), (.ref b76)])) _
      refine st116 _ ?_
      show Steps p.tables e below (T116.setTop (mkF m 93 (own_F1 i i1 i2 i3 i4 i5 (i &&& (3 : Int32))) [(.ref a116), (.int (13 : Int32)), (.ref b76), (.ref b76)])) _
      refine st118 _ ?_
      show Steps p.tables e below (T118.setTop (mkF m 94 (own_F1 i i1 i2 i3 i4 i5 (i &&& (3 : Int32))) [(.ref b76)])) _
      refine XS.dup X118.here hx rfl (hb hby at_94) rfl rfl ?_
      show Steps p.tables e below (T118.setTop (mkF m 95 (own_F1 i i1 i2 i3 i4 i5 (i &&& (3 : Int32))) [(.ref b76), (.ref b76)])) _
      refine XS.bipush X118.here hx rfl (hb hby at_95) ?_
      show Steps p.tables e below (T118.setTop (mkF m 97 (own_F1 i i1 i2 i3 i4 i5 (i &&& (3 : Int32))) [(.int (14 : Int32)), (.ref b76), (.ref b76)])) _
      refine st119 _ ?_
      show Steps p.tables e below (T119.setTop (mkF m 99 (own_F1 i i1 i2 i3 i4 i5 (i &&& (3 : Int32))) [(.ref a119), (.int (14 : Int32)), (.ref b76), (.ref b76)])) _
      refine st121 _ ?_
      show Steps p.tables e below (T121.setTop (mkF m 100 (own_F1 i i1 i2 i3 i4 i5 (i &&& (3 : Int32))) [(.ref b76)])) _
      refine XS.dup X121.here hx rfl (hb hby at_100) rfl rfl ?_
      show Steps p.tables e below (T121.setTop (mkF m 101 (own_F1 i i1 i2 i3 i4 i5 (i &&& (3 : Int32))) [(.ref b76), (.ref b76)])) _
      refine XS.bipush X121.here hx rfl (hb hby at_101) ?_
      show Steps p.tables e below (T121.setTop (mkF m 103 (own_F1 i i1 i2 i3 i4 i5 (i &&& (3 : Int32))) [(.int (15 : Int32)), (.ref b76), (.ref b76)])) _
      refine st122 _ ?_
      show Steps p.tables e below (T122.setTop (mkF m 105 (own_F1 i i1 i2 i3 i4 i5 (i &&& (3 : Int32))) [(.ref a122), (.int (15 : Int32)), (.ref b76), (.ref b76)])) _
      refine st124 _ ?_
      show Steps p.tables e below (T124.setTop (mkF m 106 (own_F1 i i1 i2 i3 i4 i5 (i &&& (3 : Int32))) [(.ref b76)])) _
      refine XS.dup X124.here hx rfl (hb hby at_106) rfl rfl ?_
      show Steps p.tables e below (T124.setTop (mkF m 107 (own_F1 i i1 i2 i3 i4 i5 (i &&& (3 : Int32))) [(.ref b76), (.ref b76)])) _
      refine XS.bipush X124.here hx rfl (hb hby at_107) ?_
      show Steps p.tables e below (T124.setTop (mkF m 109 (own_F1 i i1 i2 i3 i4 i5 (i &&& (3 : Int32))) [(.int (16 : Int32)), (.ref b76), (.ref b76)])) _
      refine st125 _ ?_
      show Steps p.tables e below (T125.setTop (mkF m 111 (own_F1 i i1 i2 i3 i4 i5 (i &&& (3 : Int32))) [(.ref a125), (.int (16 : Int32)), (.ref b76), (.ref b76)])) _
      refine st127 _ ?_
      show Steps p.tables e below (T127.setTop (mkF m 112 (own_F1 i i1 i2 i3 i4 i5 (i &&& (3 : Int32))) [(.ref b76)])) _
      refine XS.dup X127.here hx rfl (hb hby at_112) rfl rfl ?_
      show Steps p.tables e below (T127.setTop (mkF m 113 (own_F1 i i1 i2 i3 i4 i5 (i &&& (3 : Int32))) [(.ref b76), (.ref b76)])) _
      refine XS.bipush X127.here hx rfl (hb hby at_113) ?_
      show Steps p.tables e below (T127.setTop (mkF m 115 (own_F1 i i1 i2 i3 i4 i5 (i &&& (3 : Int32))) [(.int (17 : Int32)), (.ref b76), (.ref b76)])) _
      refine st128 _ ?_
      show Steps p.tables e below (T128.setTop (mkF m 117 (own_F1 i i1 i2 i3 i4 i5 (i &&& (3 : Int32))) [(.ref a128), (.int (17 : Int32)), (.ref b76), (.ref b76)])) _
      refine st130 _ ?_
      show Steps p.tables e below (T130.setTop (mkF m 118 (own_F1 i i1 i2 i3 i4 i5 (i &&& (3 : Int32))) [(.ref b76)])) _
      refine XS.dup X130.here hx rfl (hb hby at_118) rfl rfl ?_
      show Steps p.tables e below (T130.setTop (mkF m 119 (own_F1 i i1 i2 i3 i4 i5 (i &&& (3 : Int32))) [(.ref b76), (.ref b76)])) _
      refine XS.bipush X130.here hx rfl (hb hby at_119) ?_
      show Steps p.tables e below (T130.setTop (mkF m 121 (own_F1 i i1 i2 i3 i4 i5 (i &&& (3 : Int32))) [(.int (18 : Int32)), (.ref b76), (.ref b76)])) _
      refine st131 _ ?_
      show Steps p.tables e below (T131.setTop (mkF m 123 (own_F1 i i1 i2 i3 i4 i5 (i &&& (3 : Int32))) [(.ref a131), (.int (18 : Int32)), (.ref b76), (.ref b76)])) _
      refine st133 _ ?_
      show Steps p.tables e below (T133.setTop (mkF m 124 (own_F1 i i1 i2 i3 i4 i5 (i &&& (3 : Int32))) [(.ref b76)])) _
      refine XS.dup X133.here hx rfl (hb hby at_124) rfl rfl ?_
      show Steps p.tables e below (T133.setTop (mkF m 125 (own_F1 i i1 i2 i3 i4 i5 (i &&& (3 : Int32))) [(.ref b76), (.ref b76)])) _
      refine XS.bipush X133.here hx rfl (hb hby at_125) ?_
      show Steps p.tables e below (T133.setTop (mkF m 127 (own_F1 i i1 i2 i3 i4 i5 (i &&& (3 : Int32))) [(.int (19 : Int32)), (.ref b76), (.ref b76)])) _
      refine st134 _ ?_
      show Steps p.tables e below (T134.setTop (mkF m 129 (own_F1 i i1 i2 i3 i4 i5 (i &&& (3 : Int32))) [(.ref a134), (.int (19 : Int32)), (.ref b76), (.ref b76)])) _
      refine st136 _ ?_
      show Steps p.tables e below (T136.setTop (mkF m 130 (own_F1 i i1 i2 i3 i4 i5 (i &&& (3 : Int32))) [(.ref b76)])) _
      refine XS.dup X136.here hx rfl (hb hby at_130) rfl rfl ?_
      show Steps p.tables e below (T136.setTop (mkF m 131 (own_F1 i i1 i2 i3 i4 i5 (i &&& (3 : Int32))) [(.ref b76), (.ref b76)])) _
      refine XS.bipush X136.here hx rfl (hb hby at_131) ?_
      show Steps p.tables e below (T136.setTop (mkF m 133 (own_F1 i i1 i2 i3 i4 i5 (i &&& (3 : Int32))) [(.int (20 : Int32)), (.ref b76), (.ref b76)])) _
      refine st137 _ ?_
      show Steps p.tables e below (T137.setTop (mkF m 135 (own_F1 i i1 i2 i3 i4 i5 (i &&& (3 : Int32))) [(.ref a137), (.int (20 : Int32)), (.ref b76), (.ref b76)])) _
      refine st139 _ ?_
      show Steps p.tables e below (T139.setTop (mkF m 136 (own_F1 i i1 i2 i3 i4 i5 (i &&& (3 : Int32))) [(.ref b76)])) _
      refine XS.dup X139.here hx rfl (hb hby at_136) rfl rfl ?_
      show Steps p.tables e below (T139.setTop (mkF m 137 (own_F1 i i1 i2 i3 i4 i5 (i &&& (3 : Int32))) [(.ref b76), (.ref b76)])) _
      refine XS.bipush X139.here hx rfl (hb hby at_137) ?_
      show Steps p.tables e below (T139.setTop (mkF m 139 (own_F1 i i1 i2 i3 i4 i5 (i &&& (3 : Int32))) [(.int (21 : Int32)), (.ref b76), (.ref b76)])) _
      refine st140 _ ?_
      show Steps p.tables e below (T140.setTop (mkF m 141 (own_F1 i i1 i2 i3 i4 i5 (i &&& (3 : Int32))) [(.ref a140), (.int (21 : Int32)), (.ref b76), (.ref b76)])) _
      refine st142 _ ?_
      show Steps p.tables e below (T142.setTop (mkF m 142 (own_F1 i i1 i2 i3 i4 i5 (i &&& (3 : Int32))) [(.ref b76)])) _
      refine XS.dup X142.here hx rfl (hb hby at_142) rfl rfl ?_
      show Steps p.tables e below (T142.setTop (mkF m 143 (own_F1 i i1 i2 i3 i4 i5 (i &&& (3 : Int32))) [(.ref b76), (.ref b76)])) _
      refine XS.bipush X142.here hx rfl (hb hby at_143) ?_
      show Steps p.tables e below (T142.setTop (mkF m 145 (own_F1 i i1 i2 i3 i4 i5 (i &&& (3 : Int32))) [(.int (22 : Int32)), (.ref b76), (.ref b76)])) _
      refine XS.aconstNull X142.here hx rfl (hb hby at_145) ?_
      show Steps p.tables e below (T142.setTop (mkF m 146 (own_F1 i i1 i2 i3 i4 i5 (i &&& (3 : Int32))) [.null, (.int (22 : Int32)), (.ref b76), (.ref b76)])) _
      refine st144 _ ?_
      show Steps p.tables e below (T144.setTop (mkF m 147 (own_F1 i i1 i2 i3 i4 i5 (i &&& (3 : Int32))) [(.ref b76)])) _
      refine XS.astore X144.here hx rfl (hb hby at_147) rfl rfl (l' := (own_F17 i i1 i2 i3 i4 i5 (i &&& (3 : Int32)) b76)) rfl ?_
      show Steps p.tables e below (T144.setTop (mkF m 149 (own_F17 i i1 i2 i3 i4 i5 (i &&& (3 : Int32)) b76) [])) _
      refine XS.bipush X144.here hx rfl (hb hby at_149) ?_
      show Steps p.tables e below (T144.setTop (mkF m 151 (own_F17 i i1 i2 i3 i4 i5 (i &&& (3 : Int32)) b76) [(.int (23 : Int32))])) _
      refine st145 _ ?_
      show Steps p.tables e below (T145.setTop (mkF m 154 (own_F17 i i1 i2 i3 i4 i5 (i &&& (3 : Int32)) b76) [(.ref b145)])) _
      refine XS.dup X145.here hx rfl (hb hby at_154) rfl rfl ?_
      show Steps p.tables e below (T145.setTop (mkF m 155 (own_F17 i i1 i2 i3 i4 i5 (i &&& (3 : Int32)) b76) [(.ref b145), (.ref b145)])) _
      refine XS.iconst X145.here hx rfl (hb hby at_155) ?_
      show Steps p.tables e below (T145.setTop (mkF m 156 (own_F17 i i1 i2 i3 i4 i5 (i &&& (3 : Int32)) b76) [(.int (0 : Int32)), (.ref b145), (.ref b145)])) _
      refine st146 _ ?_
      show Steps p.tables e below (T146.setTop (mkF m 159 (own_F17 i i1 i2 i3 i4 i5 (i &&& (3 : Int32)) b76) [(.ref s_COUNT), (.int (0 : Int32)), (.ref b145), (.ref b145)])) _
      refine st148 _ ?_
      show Steps p.tables e below (T148.setTop (mkF m 160 (own_F17 i i1 i2 i3 i4 i5 (i &&& (3 : Int32)) b76) [(.ref b145)])) _
      refine XS.dup X148.here hx rfl (hb hby at_160) rfl rfl ?_
      show Steps p.tables e below (T148.setTop (mkF m 161 (own_F17 i i1 i2 i3 i4 i5 (i &&& (3 : Int32)) b76) [(.ref b145), (.ref b145)])) _
      refine XS.iconst X148.here hx rfl (hb hby at_161) ?_
      show Steps p.tables e below (T148.setTop (mkF m 162 (own_F17 i i1 i2 i3 i4 i5 (i &&& (3 : Int32)) b76) [(.int (1 : Int32)), (.ref b145), (.ref b145)])) _
      refine st149 _ ?_
      show Steps p.tables e below (T149.setTop (mkF m 165 (own_F17 i i1 i2 i3 i4 i5 (i &&& (3 : Int32)) b76) [(.ref s_SUM_INTEGER), (.int (1 : Int32)), (.ref b145), (.ref b145)])) _
      refine st151 _ ?_
      show Steps p.tables e below (T151.setTop (mkF m 166 (own_F17 i i1 i2 i3 i4 i5 (i &&& (3 : Int32)) b76) [(.ref b145)])) _
      refine XS.dup X151.here hx rfl (hb hby at_166) rfl rfl ?_
      show Steps p.tables e below (T151.setTop (mkF m 167 (own_F17 i i1 i2 i3 i4 i5 (i &&& (3 : Int32)) b76) [(.ref b145), (.ref b145)])) _
      refine XS.iconst X151.here hx rfl (hb hby at_167) ?_
      show Steps p.tables e below (T151.setTop (mkF m 168 (own_F17 i i1 i2 i3 i4 i5 (i &&& (3 : Int32)) b76) [(.int (2 : Int32)), (.ref b145), (.ref b145)])) _
      refine st152 _ ?_
      show Steps p.tables e below (T152.setTop (mkF m 171 (own_F17 i i1 i2 i3 i4 i5 (i &&& (3 : Int32)) b76) [(.ref s_SUM_LONG), (.int (2 : Int32)), (.ref b145), (.ref b145)])) _
      refine st154 _ ?_
      show Steps p.tables e below (T154.setTop (mkF m 172 (own_F17 i i1 i2 i3 i4 i5 (i &&& (3 : Int32)) b76) [(.ref b145)])) _
      refine XS.dup X154.here hx rfl (hb hby at_172) rfl rfl ?_
      show Steps p.tables e below (T154.setTop (mkF m 173 (own_F17 i i1 i2 i3 i4 i5 (i &&& (3 : Int32)) b76) [(.ref b145), (.ref b145)])) _
      refine XS.iconst X154.here hx rfl (hb hby at_173) ?_
      show Steps p.tables e below (T154.setTop (mkF m 174 (own_F17 i i1 i2 i3 i4 i5 (i &&& (3 : Int32)) b76) [(.int (3 : Int32)), (.ref b145), (.ref b145)])) _
      refine st155 _ ?_
      show Steps p.tables e below (T155.setTop (mkF m 177 (own_F17 i i1 i2 i3 i4 i5 (i &&& (3 : Int32)) b76) [(.ref s_SUM_DOUBLE), (.int (3 : Int32)), (.ref b145), (.ref b145)])) _
      refine st157 _ ?_
      show Steps p.tables e below (T157.setTop (mkF m 178 (own_F17 i i1 i2 i3 i4 i5 (i &&& (3 : Int32)) b76) [(.ref b145)])) _
      refine XS.dup X157.here hx rfl (hb hby at_178) rfl rfl ?_
      show Steps p.tables e below (T157.setTop (mkF m 179 (own_F17 i i1 i2 i3 i4 i5 (i &&& (3 : Int32)) b76) [(.ref b145), (.ref b145)])) _
      refine XS.iconst X157.here hx rfl (hb hby at_179) ?_
      show Steps p.tables e below (T157.setTop (mkF m 180 (own_F17 i i1 i2 i3 i4 i5 (i &&& (3 : Int32)) b76) [(.int (4 : Int32)), (.ref b145), (.ref b145)])) _
      refine st158 _ ?_
      show Steps p.tables e below (T158.setTop (mkF m 183 (own_F17 i i1 i2 i3 i4 i5 (i &&& (3 : Int32)) b76) [(.ref s_SUM_BIG_DECIMAL), (.int (4 : Int32)), (.ref b145), (.ref b145)])) _
      refine st160 _ ?_
      show Steps p.tables e below (T160.setTop (mkF m 184 (own_F17 i i1 i2 i3 i4 i5 (i &&& (3 : Int32)) b76) [(.ref b145)])) _
      refine XS.dup X160.here hx rfl (hb hby at_184) rfl rfl ?_
      show Steps p.tables e below (T160.setTop (mkF m 185 (own_F17 i i1 i2 i3 i4 i5 (i &&& (3 : Int32)) b76) [(.ref b145), (.ref b145)])) _
      refine XS.iconst X160.here hx rfl (hb hby at_185) ?_
      show Steps p.tables e below (T160.setTop (mkF m 186 (own_F17 i i1 i2 i3 i4 i5 (i &&& (3 : Int32)) b76) [(.int (5 : Int32)), (.ref b145), (.ref b145)])) _
      refine st161 _ ?_
      show Steps p.tables e below (T161.setTop (mkF m 189 (own_F17 i i1 i2 i3 i4 i5 (i &&& (3 : Int32)) b76) [(.ref s_MIN), (.int (5 : Int32)), (.ref b145), (.ref b145)])) _
      refine st163 _ ?_
      show Steps p.tables e below (T163.setTop (mkF m 190 (own_F17 i i1 i2 i3 i4 i5 (i &&& (3 : Int32)) b76) [(.ref b145)])) _
      refine XS.dup X163.here hx rfl (hb hby at_190) rfl rfl ?_
      show Steps p.tables e below (T163.setTop (mkF m 191 (own_F17 i i1 i2 i3 i4 i5 (i &&& (3 : Int32)) b76) [(.ref b145), (.ref b145)])) _
      refine XS.bipush X163.here hx rfl (hb hby at_191) ?_
      show Steps p.tables e below (T163.setTop (mkF m 193 (own_F17 i i1 i2 i3 i4 i5 (i &&& (3 : Int32)) b76) [(.int (6 : Int32)), (.ref b145), (.ref b145)])) _
      refine st164 _ ?_
      show Steps p.tables e below (T164.setTop (mkF m 196 (own_F17 i i1 i2 i3 i4 i5 (i &&& (3 : Int32)) b76) [(.ref s_MAX), (.int (6 : Int32)), (.ref b145), (.ref b145)])) _
      refine st166 _ ?_
      show Steps p.tables e below (T166.setTop (mkF m 197 (own_F17 i i1 i2 i3 i4 i5 (i &&& (3 : Int32)) b76) [(.ref b145)])) _
      refine XS.dup X166.here hx rfl (hb hby at_197) rfl rfl ?_
      show Steps p.tables e below (T166.setTop (mkF m 198 (own_F17 i i1 i2 i3 i4 i5 (i &&& (3 : Int32)) b76) [(.ref b145), (.ref b145)])) _
      refine XS.bipush X166.here hx rfl (hb hby at_198) ?_
      show Steps p.tables e below (T166.setTop (mkF m 200 (own_F17 i i1 i2 i3 i4 i5 (i &&& (3 : Int32)) b76) [(.int (7 : Int32)), (.ref b145), (.ref b145)])) _
      refine st167 _ ?_
      show Steps p.tables e below (T167.setTop (mkF m 203 (own_F17 i i1 i2 i3 i4 i5 (i &&& (3 : Int32)) b76) [(.ref s_AVG), (.int (7 : Int32)), (.ref b145), (.ref b145)])) _
      refine st169 _ ?_
      show Steps p.tables e below (T169.setTop (mkF m 204 (own_F17 i i1 i2 i3 i4 i5 (i &&& (3 : Int32)) b76) [(.ref b145)])) _
      refine XS.dup X169.here hx rfl (hb hby at_204) rfl rfl ?_
      show Steps p.tables e below (T169.setTop (mkF m 205 (own_F17 i i1 i2 i3 i4 i5 (i &&& (3 : Int32)) b76) [(.ref b145), (.ref b145)])) _
      refine XS.bipush X169.here hx rfl (hb hby at_205) ?_
      show Steps p.tables e below (T169.setTop (mkF m 207 (own_F17 i i1 i2 i3 i4 i5 (i &&& (3 : Int32)) b76) [(.int (8 : Int32)), (.ref b145), (.ref b145)])) _
      refine XS.aconstNull X169.here hx rfl (hb hby at_207) ?_
      show Steps p.tables e below (T169.setTop (mkF m 208 (own_F17 i i1 i2 i3 i4 i5 (i &&& (3 : Int32)) b76) [.null, (.int (8 : Int32)), (.ref b145), (.ref b145)])) _
      refine st171 _ ?_
      show Steps p.tables e below (T171.setTop (mkF m 209 (own_F17 i i1 i2 i3 i4 i5 (i &&& (3 : Int32)) b76) [(.ref b145)])) _
      refine XS.dup X171.here hx rfl (hb hby at_209) rfl rfl ?_
      show Steps p.tables e below (T171.setTop (mkF m 210 (own_F17 i i1 i2 i3 i4 i5 (i &&& (3 : Int32)) b76) [(.ref b145), (.ref b145)])) _
      refine XS.bipush X171.here hx rfl (hb hby at_210) ?_
      show Steps p.tables e below (T171.setTop (mkF m 212 (own_F17 i i1 i2 i3 i4 i5 (i &&& (3 : Int32)) b76) [(.int (9 : Int32)), (.ref b145), (.ref b145)])) _
      refine XS.aconstNull X171.here hx rfl (hb hby at_212) ?_
      show Steps p.tables e below (T171.setTop (mkF m 213 (own_F17 i i1 i2 i3 i4 i5 (i &&& (3 : Int32)) b76) [.null, (.int (9 : Int32)), (.ref b145), (.ref b145)])) _
      refine st173 _ ?_
      show Steps p.tables e below (T173.setTop (mkF m 214 (own_F17 i i1 i2 i3 i4 i5 (i &&& (3 : Int32)) b76) [(.ref b145)])) _
      refine XS.dup X173.here hx rfl (hb hby at_214) rfl rfl ?_
      show Steps p.tables e below (T173.setTop (mkF m 215 (own_F17 i i1 i2 i3 i4 i5 (i &&& (3 : Int32)) b76) [(.ref b145), (.ref b145)])) _
      refine XS.bipush X173.here hx rfl (hb hby at_215) ?_
      show Steps p.tables e below (T173.setTop (mkF m 217 (own_F17 i i1 i2 i3 i4 i5 (i &&& (3 : Int32)) b76) [(.int (10 : Int32)), (.ref b145), (.ref b145)])) _
      refine XS.aconstNull X173.here hx rfl (hb hby at_217) ?_
      show Steps p.tables e below (T173.setTop (mkF m 218 (own_F17 i i1 i2 i3 i4 i5 (i &&& (3 : Int32)) b76) [.null, (.int (10 : Int32)), (.ref b145), (.ref b145)])) _
      refine st175 _ ?_
      show Steps p.tables e below (T175.setTop (mkF m 219 (own_F17 i i1 i2 i3 i4 i5 (i &&& (3 : Int32)) b76) [(.ref b145)])) _
      refine XS.dup X175.here hx rfl (hb hby at_219) rfl rfl ?_
      show Steps p.tables e below (T175.setTop (mkF m 220 (own_F17 i i1 i2 i3 i4 i5 (i &&& (3 : Int32)) b76) [(.ref b145), (.ref b145)])) _
      refine XS.bipush X175.here hx rfl (hb hby at_220) ?_
      show Steps p.tables e below (T175.setTop (mkF m 222 (own_F17 i i1 i2 i3 i4 i5 (i &&& (3 : Int32)) b76) [(.int (11 : Int32)), (.ref b145), (.ref b145)])) _
      refine XS.aconstNull X175.here hx rfl (hb hby at_222) ?_
      show Steps p.tables e below (T175.setTop (mkF m 223 (own_F17 i i1 i2 i3 i4 i5 (i &&& (3 : Int32)) b76) [.null, (.int (11 : Int32)), (.ref b145), (.ref b145)])) _
      refine st177 _ ?_
      show Steps p.tables e below (T177.setTop (mkF m 224 (own_F17 i i1 i2 i3 i4 i5 (i &&& (3 : Int32)) b76) [(.ref b145)])) _
      refine XS.dup X177.here hx rfl (hb hby at_224) rfl rfl ?_
      show Steps p.tables e below (T177.setTop (mkF m 225 (own_F17 i i1 i2 i3 i4 i5 (i &&& (3 : Int32)) b76) [(.ref b145), (.ref b145)])) _
      refine XS.bipush X177.here hx rfl (hb hby at_225) ?_
      show Steps p.tables e below (T177.setTop (mkF m 227 (own_F17 i i1 i2 i3 i4 i5 (i &&& (3 : Int32)) b76) [(.int (12 : Int32)), (.ref b145), (.ref b145)])) _
      refine XS.aconstNull X177.here hx rfl (hb hby at_227) ?_
      show Steps p.tables e below (T177.setTop (mkF m 228 (own_F17 i i1 i2 i3 i4 i5 (i &&& (3 : Int32)) b76) [.null, (.int (12 : Int32)), (.ref b145), (.ref b145)])) _
      refine st179 _ ?_
      show Steps p.tables e below (T179.setTop (mkF m 229 (own_F17 i i1 i2 i3 i4 i5 (i &&& (3 : Int32)) b76) [(.ref b145)])) _
      refine XS.dup X179.here hx rfl (hb hby at_229) rfl rfl ?_
      show Steps p.tables e below (T179.setTop (mkF m 230 (own_F17 i i1 i2 i3 i4 i5 (i &&& (3 : Int32)) b76) [(.ref b145), (.ref b145)])) _
      refine XS.bipush X179.here hx rfl (hb hby at_230) ?_
      show Steps p.tables e below (T179.setTop (mkF m 232 (own_F17 i i1 i2 i3 i4 i5 (i &&& (3 : Int32)) b76) [(.int (13 : Int32)), (.ref b145), (.ref b145)])) _
      refine XS.aconstNull X179.here hx rfl (hb hby at_232) ?_
      show Steps p.tables e below (T179.setTop (mkF m 233 (own_F17 i i1 i2 i3 i4 i5 (i &&& (3 : Int32)) b76) [.null, (.int (13 : Int32)), (.ref b145), (.ref b145)])) _
      refine st181 _ ?_
      show Steps p.tables e below (T181.setTop (mkF m 234 (own_F17 i i1 i2 i3 i4 i5 (i &&& (3 : Int32)) b76) [(.ref b145)])) _
      refine XS.dup X181.here hx rfl (hb hby at_234) rfl rfl ?_
      show Steps p.tables e below (T181.setTop (mkF m 235 (own_F17 i i1 i2 i3 i4 i5 (i &&& (3 : Int32)) b76) [(.ref b145), (.ref b145)])) _
      refine XS.bipush X181.here hx rfl (hb hby at_235) ?_
      show Steps p.tables e below (T181.setTop (mkF m 237 (own_F17 i i1 i2 i3 i4 i5 (i &&& (3 : Int32)) b76) [(.int (14 : Int32)), (.ref b145), (.ref b145)])) _
      refine XS.aconstNull X181.here hx rfl (hb hby at_237) ?_
      show Steps p.tables e below (T181.setTop (mkF m 238 (own_F17 i i1 i2 i3 i4 i5 (i &&& (3 : Int32)) b76) [.null, (.int (14 : Int32)), (.ref b145), (.ref b145)])) _
      refine st183 _ ?_
      show Steps p.tables e below (T183.setTop (mkF m 239 (own_F17 i i1 i2 i3 i4 i5 (i &&& (3 : Int32)) b76) [(.ref b145)])) _
      refine XS.dup X183.here hx rfl (hb hby at_239) rfl rfl ?_
      show Steps p.tables e below (T183.setTop (mkF m 240 (own_F17 i i1 i2 i3 i4 i5 (i &&& (3 : Int32)) b76) [(.ref b145), (.ref b145)])) _
      refine XS.bipush X183.here hx rfl (hb hby at_240) ?_
      show Steps p.tables e below (T183.setTop (mkF m 242 (own_F17 i i1 i2 i3 i4 i5 (i &&& (3 : Int32)) b76) [(.int (15 : Int32)), (.ref b145), (.ref b145)])) _
      refine XS.aconstNull X183.here hx rfl (hb hby at_242) ?_
      show Steps p.tables e below (T183.setTop (mkF m 243 (own_F17 i i1 i2 i3 i4 i5 (i &&& (3 : Int32)) b76) [.null, (.int (15 : Int32)), (.ref b145), (.ref b145)])) _
      refine st185 _ ?_
      show Steps p.tables e below (T185.setTop (mkF m 244 (own_F17 i i1 i2 i3 i4 i5 (i &&& (3 : Int32)) b76) [(.ref b145)])) _
      refine XS.dup X185.here hx rfl (hb hby at_244) rfl rfl ?_
      show Steps p.tables e below (T185.setTop (mkF m 245 (own_F17 i i1 i2 i3 i4 i5 (i &&& (3 : Int32)) b76) [(.ref b145), (.ref b145)])) _
      refine XS.bipush X185.here hx rfl (hb hby at_245) ?_
      show Steps p.tables e below (T185.setTop (mkF m 247 (own_F17 i i1 i2 i3 i4 i5 (i &&& (3 : Int32)) b76) [(.int (16 : Int32)), (.ref b145), (.ref b145)])) _
      refine XS.aconstNull X185.here hx rfl (hb hby at_247) ?_
      show Steps p.tables e below (T185.setTop (mkF m 248 (own_F17 i i1 i2 i3 i4 i5 (i &&& (3 : Int32)) b76) [.null, (.int (16 : Int32)), (.ref b145), (.ref b145)])) _
      refine st187 _ ?_
      show Steps p.tables e below (T187.setTop (mkF m 249 (own_F17 i i1 i2 i3 i4 i5 (i &&& (3 : Int32)) b76) [(.ref b145)])) _
      refine XS.dup X187.here hx rfl (hb hby at_249) rfl rfl ?_
      show Steps p.tables e below (T187.setTop (mkF m 250 (own_F17 i i1 i2 i3 i4 i5 (i &&& (3 : Int32)) b76) [(.ref b145), (.ref b145)])) _
      refine XS.bipush X187.here hx rfl (hb hby at_250) ?_
      show Steps p.tables e below (T187.setTop (mkF m 252 (own_F17 i i1 i2 i3 i4 i5 (i &&& (3 : Int32)) b76) [(.int (17 : Int32)), (.ref b145), (.ref b145)])) _
      refine XS.aconstNull X187.here hx rfl (hb hby at_252) ?_
      show Steps p.tables e below (T187.setTop (mkF m 253 (own_F17 i i1 i2 i3 i4 i5 (i &&& (3 : Int32)) b76) [.null, (.int (17 : Int32)), (.ref b145), (.ref b145)])) _
      refine st189 _ ?_
      show Steps p.tables e below (T189.setTop (mkF m 254 (own_F17 i i1 i2 i3 i4 i5 (i &&& (3 : Int32)) b76) [(.ref b145)])) _
      refine XS.dup X189.here hx rfl (hb hby at_254) rfl rfl ?_
      show Steps p.tables e below (T189.setTop (mkF m 255 (own_F17 i i1 i2 i3 i4 i5 (i &&& (3 : Int32)) b76) [(.ref b145), (.ref b145)])) _
      refine XS.bipush X189.here hx rfl (hb hby at_255) ?_
      show Steps p.tables e below (T189.setTop (mkF m 257 (own_F17 i i1 i2 i3 i4 i5 (i &&& (3 : Int32)) b76) [(.int (18 : Int32)), (.ref b145), (.ref b145)])) _
      refine XS.aconstNull X189.here hx rfl (hb hby at_257) ?_
      show Steps p.tables e below (T189.setTop (mkF m 258 (own_F17 i i1 i2 i3 i4 i5 (i &&& (3 : Int32)) b76) [.null, (.int (18 : Int32)), (.ref b145), (.ref b145)])) _
      refine st191 _ ?_
      show Steps p.tables e below (T191.setTop (mkF m 259 (own_F17 i i1 i2 i3 i4 i5 (i &&& (3 : Int32)) b76) [(.ref b145)])) _
      refine XS.dup X191.here hx rfl (hb hby at_259) rfl rfl ?_
      show Steps p.tables e below (T191.setTop (mkF m 260 (own_F17 i i1 i2 i3 i4 i5 (i &&& (3 : Int32)) b76) [(.ref b145), (.ref b145)])) _
      refine XS.bipush X191.here hx rfl (hb hby at_260) ?_
      show Steps p.tables e below (T191.setTop (mkF m 262 (own_F17 i i1 i2 i3 i4 i5 (i &&& (3 : Int32)) b76) [(.int (19 : Int32)), (.ref b145), (.ref b145)])) _
      refine XS.aconstNull X191.here hx rfl (hb hby at_262) ?_
      show Steps p.tables e below (T191.setTop (mkF m 263 (own_F17 i i1 i2 i3 i4 i5 (i &&& (3 : Int32)) b76) [.null, (.int (19 : Int32)), (.ref b145), (.ref b145)])) _
      refine st193 _ ?_
      show Steps p.tables e below (T193.setTop (mkF m 264 (own_F17 i i1 i2 i3 i4 i5 (i &&& (3 : Int32)) b76) [(.ref b145)])) _
      refine XS.dup X193.here hx rfl (hb hby at_264) rfl rfl ?_
      show Steps p.tables e below (T193.setTop (mkF m 265 (own_F17 i i1 i2 i3 i4 i5 (i &&& (3 : Int32)) b76) [(.ref b145), (.ref b145)])) _
      refine XS.bipush X193.here hx rfl (hb hby at_265) ?_
      show Steps p.tables e below (T193.setTop (mkF m 267 (own_F17 i i1 i2 i3 i4 i5 (i &&& (3 : Int32)) b76) [(.int (20 : Int32)), (.ref b145), (.ref b145)])) _
      refine XS.aconstNull X193.here hx rfl (hb hby at_267) ?_
      show Steps p.tables e below (T193.setTop (mkF m 268 (own_F17 i i1 i2 i3 i4 i5 (i &&& (3 : Int32)) b76) [.null, (.int (20 : Int32)), (.ref b145), (.ref b145)])) _
      refine st195 _ ?_
      show Steps p.tables e below (T195.setTop (mkF m 269 (own_F17 i i1 i2 i3 i4 i5 (i &&& (3 : Int32)) b76) [(.ref b145)])) _
      refine XS.dup X195.here hx rfl (hb hby at_269) rfl rfl ?_
      show Steps p.tables e below (T195.setTop (mkF m 270 (own_F17 i i1 i2 i3 i4 i5 (i &&& (3 : Int32)) b76) [(.ref b145), (.ref b145)])) _
      refine XS.bipush X195.here hx rfl (hb hby at_270) ?_
      show Steps p.tables e below (T195.setTop (mkF m 272 (own_F17 i i1 i2 i3 i4 i5 (i &&& (3 : Int32)) b76) [(.int (21 : Int32)), (.ref b145), (.ref b145)])) _
      refine XS.aconstNull X195.here hx rfl (hb hby at_272) ?_
      show Steps p.tables e below (T195.setTop (mkF m 273 (own_F17 i i1 i2 i3 i4 i5 (i &&& (3 : Int32)) b76) [.null, (.int (21 : Int32)), (.ref b145), (.ref b145)])) _
      refine st197 _ ?_
      show Steps p.tables e below (T197.setTop (mkF m 274 (own_F17 i i1 i2 i3 i4 i5 (i &&& (3 : Int32)) b76) [(.ref b145)])) _
      refine XS.dup X197.here hx rfl (hb hby at_274) rfl rfl ?_
      show Steps p.tables e below (T197.setTop (mkF m 275 (own_F17 i i1 i2 i3 i4 i5 (i &&& (3 : Int32)) b76) [(.ref b145), (.ref b145)])) _
      refine XS.bipush X197.here hx rfl (hb hby at_275) ?_
      show Steps p.tables e below (T197.setTop (mkF m 277 (own_F17 i i1 i2 i3 i4 i5 (i &&& (3 : Int32)) b76) [(.int (22 : Int32)), (.ref b145), (.ref b145)])) _
      refine XS.aconstNull X197.here hx rfl (hb hby at_277) ?_
      show Steps p.tables e below (T197.setTop (mkF m 278 (own_F17 i i1 i2 i3 i4 i5 (i &&& (3 : Int32)) b76) [.null, (.int (22 : Int32)), (.ref b145), (.ref b145)])) _
      refine st199 _ ?_
      show Steps p.tables e below (T199.setTop (mkF m 279 (own_F17 i i1 i2 i3 i4 i5 (i &&& (3 : Int32)) b76) [(.ref b145)])) _
      refine XS.astore X199.here hx rfl (hb hby at_279) rfl rfl (l' := (own_F18 i i1 i2 i3 i4 i5 (i &&& (3 : Int32)) b76 b145)) rfl ?_
      show Steps p.tables e below (T199.setTop (mkF m 281 (own_F18 i i1 i2 i3 i4 i5 (i &&& (3 : Int32)) b76 b145) [])) _
      refine XS.iloadN X199.here hx rfl (hb hby at_281) rfl ?_
      show Steps p.tables e below (T199.setTop (mkF m 282 (own_F18 i i1 i2 i3 i4 i5 (i &&& (3 : Int32)) b76 b145) [(.int i)])) _
      refine XS.iconst X199.here hx rfl (hb hby at_282) ?_
      show Steps p.tables e below (T199.setTop (mkF m 283 (own_F18 i i1 i2 i3 i4 i5 (i &&& (3 : Int32)) b76 b145) [(.int (2 : Int32)), (.int i)])) _
      refine XS.iushr X199.here hx rfl (hb hby at_283) rfl ?_
      show Steps p.tables e below (T199.setTop (mkF m 284 (own_F18 i i1 i2 i3 i4 i5 (i &&& (3 : Int32)) b76 b145) [(.int ((i.toUInt32 >>> ((2 : Int32) &&& 31).toUInt32).toInt32))])) _
      refine XS.aload X199.here hx rfl (hb hby at_284) rfl rfl ?_
      show Steps p.tables e below (T199.setTop (mkF m 286 (own_F18 i i1 i2 i3 i4 i5 (i &&& (3 : Int32)) b76 b145) [(.ref b76), (.int ((i.toUInt32 >>> ((2 : Int32) &&& 31).toUInt32).toInt32))])) _
      refine X199.arraylength hx (by rw [e199]; exact Ar200.1) (State.isArrayOf_alike hZ.alike Ar200.2.1) (g := (mkF m 286 (own_F18 i i1 i2 i3 i4 i5 (i &&& (3 : Int32)) b76 b145) [(.ref b76), (.int ((i.toUInt32 >>> ((2 : Int32) &&& 31).toUInt32).toInt32))])) rfl rfl (hb hby at_286) _ ?_
      rw [len_of Z200 N200]
      show Steps p.tables e below (T199.setTop (mkF m 287 (own_F18 i i1 i2 i3 i4 i5 (i &&& (3 : Int32)) b76 b145) [(.int (23 : Int32)), (.int ((i.toUInt32 >>> ((2 : Int32) &&& 31).toUInt32).toInt32))])) _
      refine XS.irem X199.here hx rfl (hb hby at_287) rfl (by decide) ?_
      show Steps p.tables e below (T199.setTop (mkF m 288 (own_F18 i i1 i2 i3 i4 i5 (i &&& (3 : Int32)) b76 b145) [(.int (((i.toUInt32 >>> ((2 : Int32) &&& 31).toUInt32).toInt32) - ((i.toUInt32 >>> ((2 : Int32) &&& 31).toUInt32).toInt32) / (23 : Int32) * (23 : Int32)))])) _
      refine XS.istore X199.here hx rfl (hb hby at_288) rfl (l' := (own_F19 i i1 i2 i3 i4 i5 (i &&& (3 : Int32)) b76 b145 (((i.toUInt32 >>> ((2 : Int32) &&& 31).toUInt32).toInt32) - ((i.toUInt32 >>> ((2 : Int32) &&& 31).toUInt32).toInt32) / (23 : Int32) * (23 : Int32)))) rfl ?_
      show Steps p.tables e below (T199.setTop (mkF m 290 (own_F19 i i1 i2 i3 i4 i5 (i &&& (3 : Int32)) b76 b145 (((i.toUInt32 >>> ((2 : Int32) &&& 31).toUInt32).toInt32) - ((i.toUInt32 >>> ((2 : Int32) &&& 31).toUInt32).toInt32) / (23 : Int32) * (23 : Int32))) [])) _
      exact k
    have m23 : (((i.toUInt32 >>> ((2 : Int32) &&& 31).toUInt32).toInt32) - ((i.toUInt32 >>> ((2 : Int32) &&& 31).toUInt32).toInt32) / (23 : Int32) * (23 : Int32)) = (0 : Int32) ∨ (((i.toUInt32 >>> ((2 : Int32) &&& 31).toUInt32).toInt32) - ((i.toUInt32 >>> ((2 : Int32) &&& 31).toUInt32).toInt32) / (23 : Int32) * (23 : Int32)) = (1 : Int32) ∨ (((i.toUInt32 >>> ((2 : Int32) &&& 31).toUInt32).toInt32) - ((i.toUInt32 >>> ((2 : Int32) &&& 31).toUInt32).toInt32) / (23 : Int32) * (23 : Int32)) = (2 : Int32) ∨ (((i.toUInt32 >>> ((2 : Int32) &&& 31).toUInt32).toInt32) - ((i.toUInt32 >>> ((2 : Int32) &&& 31).toUInt32).toInt32) / (23 : Int32) * (23 : Int32)) = (3 : Int32) ∨ (((i.toUInt32 >>> ((2 : Int32) &&& 31).toUInt32).toInt32) - ((i.toUInt32 >>> ((2 : Int32) &&& 31).toUInt32).toInt32) / (23 : Int32) * (23 : Int32)) = (4 : Int32) ∨ (((i.toUInt32 >>> ((2 : Int32) &&& 31).toUInt32).toInt32) - ((i.toUInt32 >>> ((2 : Int32) &&& 31).toUInt32).toInt32) / (23 : Int32) * (23 : Int32)) = (5 : Int32) ∨ (((i.toUInt32 >>> ((2 : Int32) &&& 31).toUInt32).toInt32) - ((i.toUInt32 >>> ((2 : Int32) &&& 31).toUInt32).toInt32) / (23 : Int32) * (23 : Int32)) = (6 : Int32) ∨ (((i.toUInt32 >>> ((2 : Int32) &&& 31).toUInt32).toInt32) - ((i.toUInt32 >>> ((2 : Int32) &&& 31).toUInt32).toInt32) / (23 : Int32) * (23 : Int32)) = (7 : Int32) ∨ (((i.toUInt32 >>> ((2 : Int32) &&& 31).toUInt32).toInt32) - ((i.toUInt32 >>> ((2 : Int32) &&& 31).toUInt32).toInt32) / (23 : Int32) * (23 : Int32)) = (8 : Int32) ∨ (((i.toUInt32 >>> ((2 : Int32) &&& 31).toUInt32).toInt32) - ((i.toUInt32 >>> ((2 : Int32) &&& 31).toUInt32).toInt32) / (23 : Int32) * (23 : Int32)) = (9 : Int32) ∨ (((i.toUInt32 >>> ((2 : Int32) &&& 31).toUInt32).toInt32) - ((i.toUInt32 >>> ((2 : Int32) &&& 31).toUInt32).toInt32) / (23 : Int32) * (23 : Int32)) = (10 : Int32) ∨ (((i.toUInt32 >>> ((2 : Int32) &&& 31).toUInt32).toInt32) - ((i.toUInt32 >>> ((2 : Int32) &&& 31).toUInt32).toInt32) / (23 : Int32) * (23 : Int32)) = (11 : Int32) ∨ (((i.toUInt32 >>> ((2 : Int32) &&& 31).toUInt32).toInt32) - ((i.toUInt32 >>> ((2 : Int32) &&& 31).toUInt32).toInt32) / (23 : Int32) * (23 : Int32)) = (12 : Int32) ∨ (((i.toUInt32 >>> ((2 : Int32) &&& 31).toUInt32).toInt32) - ((i.toUInt32 >>> ((2 : Int32) &&& 31).toUInt32).toInt32) / (23 : Int32) * (23 : Int32)) = (13 : Int32) ∨ (((i.toUInt32 >>> ((2 : Int32) &&& 31).toUInt32).toInt32) - ((i.toUInt32 >>> ((2 : Int32) &&& 31).toUInt32).toInt32) / (23 : Int32) * (23 : Int32)) = (14 : Int32) ∨ (((i.toUInt32 >>> ((2 : Int32) &&& 31).toUInt32).toInt32) - ((i.toUInt32 >>> ((2 : Int32) &&& 31).toUInt32).toInt32) / (23 : Int32) * (23 : Int32)) = (15 : Int32) ∨ (((i.toUInt32 >>> ((2 : Int32) &&& 31).toUInt32).toInt32) - ((i.toUInt32 >>> ((2 : Int32) &&& 31).toUInt32).toInt32) / (23 : Int32) * (23 : Int32)) = (16 : Int32) ∨ (((i.toUInt32 >>> ((2 : Int32) &&& 31).toUInt32).toInt32) - ((i.toUInt32 >>> ((2 : Int32) &&& 31).toUInt32).toInt32) / (23 : Int32) * (23 : Int32)) = (17 : Int32) ∨ (((i.toUInt32 >>> ((2 : Int32) &&& 31).toUInt32).toInt32) - ((i.toUInt32 >>> ((2 : Int32) &&& 31).toUInt32).toInt32) / (23 : Int32) * (23 : Int32)) = (18 : Int32) ∨ (((i.toUInt32 >>> ((2 : Int32) &&& 31).toUInt32).toInt32) - ((i.toUInt32 >>> ((2 : Int32) &&& 31).toUInt32).toInt32) / (23 : Int32) * (23 : Int32)) = (19 : Int32) ∨ (((i.toUInt32 >>> ((2 : Int32) &&& 31).toUInt32).toInt32) - ((i.toUInt32 >>> ((2 : Int32) &&& 31).toUInt32).toInt32) / (23 : Int32) * (23 : Int32)) = (20 : Int32) ∨ (((i.toUInt32 >>> ((2 : Int32) &&& 31).toUInt32).toInt32) - ((i.toUInt32 >>> ((2 : Int32) &&& 31).toUInt32).toInt32) / (23 : Int32) * (23 : Int32)) = (21 : Int32) ∨ (((i.toUInt32 >>> ((2 : Int32) &&& 31).toUInt32).toInt32) - ((i.toUInt32 >>> ((2 : Int32) &&& 31).toUInt32).toInt32) / (23 : Int32) * (23 : Int32)) = (22 : Int32) := own_23 (own_nn _)
    obtain ⟨ix, hix⟩ : ∃ v : Int32, v = (((i.toUInt32 >>> ((2 : Int32) &&& 31).toUInt32).toInt32) - ((i.toUInt32 >>> ((2 : Int32) &&& 31).toUInt32).toInt32) / (23 : Int32) * (23 : Int32)) := ⟨_, rfl⟩
    rw [← hix] at m23 w201
    obtain ⟨clN, ArN, qN, ZN, NN, HN, GN⟩ := id V_b76
    have hiN : ∀ j : Int32, ¬ j < 0 → j < (23 : Int32) → ¬ (j < 0 ∨ clN.slots.size ≤ j.toNatClampNeg) := fun j a b => inb_of ZN ⟨a, b⟩
    obtain ⟨clE, ArE, qE, ZE, NE, HE, GE⟩ := id V_b145
    have hiE : ∀ j : Int32, ¬ j < 0 → j < (23 : Int32) → ¬ (j < 0 ∨ clE.slots.size ≤ j.toNatClampNeg) := fun j a b => inb_of ZE ⟨a, b⟩
    have hg : (¬ ix < 0 ∧ ix < (23 : Int32)) ∧ ((∃ (sa : Addr) (nn : Int32) (vs : List Value) (cs : List Int32) (se : Addr), clN.slots[ix.toNatClampNeg]? = some (.ref sa) ∧ clE.slots[ix.toNatClampNeg]? = some (.ref se) ∧ own_SF Z h199 [b145, b76] sa nn vs ∧ StrChars.Road.CodA cs 0 nn vs ∧ (∀ c ∈ cs, ¬ c < 0 ∧ ¬ (65535 : Int32) < c) ∧ cs.length ≤ 4000 ∧ own_ag cs (.ref s_COUNT) (.ref s_SUM_INTEGER) (.ref s_SUM_LONG) (.ref s_SUM_DOUBLE) (.ref s_SUM_BIG_DECIMAL) (.ref s_MIN) (.ref s_MAX) (.ref s_AVG) = .ref se ∧ Exa Z Z.heap se "com/example/querent/querent/translation/Aggregation") ∨ (∃ (sa : Addr) (nn : Int32) (vs : List Value) (cs : List Int32), clN.slots[ix.toNatClampNeg]? = some (.ref sa) ∧ clE.slots[ix.toNatClampNeg]? = some .null ∧ own_SF Z h199 [b145, b76] sa nn vs ∧ StrChars.Road.CodA cs 0 nn vs ∧ (∀ c ∈ cs, ¬ c < 0 ∧ ¬ (65535 : Int32) < c) ∧ cs.length ≤ 4000 ∧ own_ag cs (.ref s_COUNT) (.ref s_SUM_INTEGER) (.ref s_SUM_LONG) (.ref s_SUM_DOUBLE) (.ref s_SUM_BIG_DECIMAL) (.ref s_MIN) (.ref s_MAX) (.ref s_AVG) = .null) ∨ (clN.slots[ix.toNatClampNeg]? = some .null ∧ clE.slots[ix.toNatClampNeg]? = some .null)) := by
      rcases m23 with hk23 | hk23 | hk23 | hk23 | hk23 | hk23 | hk23 | hk23 | hk23 | hk23 | hk23 | hk23 | hk23 | hk23 | hk23 | hk23 | hk23 | hk23 | hk23 | hk23 | hk23 | hk23 | hk23 <;> rw [hk23]
      · exact ⟨by decide, Or.inl ⟨a77, _, _, ([(99 : Int32), (111 : Int32), (117 : Int32), (110 : Int32), (116 : Int32)] : List Int32), s_COUNT, HN.at (hiN _ (by decide) (by decide)) rfl, HE.at (hiE _ (by decide) (by decide)) rfl, SL _ (List.mem_of_getElem? (i := 21) rfl), own_cod_99_111_117_110_116, own_cod_99_111_117_110_116b, (Nat.le_of_ble_eq_true rfl), own_agn_0 _ _ _ _ _ _ _ _, o_E_s_COUNT⟩⟩
      · exact ⟨by decide, Or.inl ⟨a80, _, _, ([(115 : Int32), (117 : Int32), (109 : Int32), (73 : Int32), (110 : Int32), (116 : Int32), (101 : Int32), (103 : Int32), (101 : Int32), (114 : Int32)] : List Int32), s_SUM_INTEGER, HN.at (hiN _ (by decide) (by decide)) rfl, HE.at (hiE _ (by decide) (by decide)) rfl, SL _ (List.mem_of_getElem? (i := 20) rfl), own_cod_115_117_109_73_110_116_101_103_101_114, own_cod_115_117_109_73_110_116_101_103_101_114b, (Nat.le_of_ble_eq_true rfl), own_agn_1 _ _ _ _ _ _ _ _, o_E_s_SUM_INTEGER⟩⟩
      · exact ⟨by decide, Or.inl ⟨a83, _, _, ([(115 : Int32), (117 : Int32), (109 : Int32), (76 : Int32), (111 : Int32), (110 : Int32), (103 : Int32)] : List Int32), s_SUM_LONG, HN.at (hiN _ (by decide) (by decide)) rfl, HE.at (hiE _ (by decide) (by decide)) rfl, SL _ (List.mem_of_getElem? (i := 19) rfl), own_cod_115_117_109_76_111_110_103, own_cod_115_117_109_76_111_110_103b, (Nat.le_of_ble_eq_true rfl), own_agn_2 _ _ _ _ _ _ _ _, o_E_s_SUM_LONG⟩⟩
      · exact ⟨by decide, Or.inl ⟨a86, _, _, ([(115 : Int32), (117 : Int32), (109 : Int32), (68 : Int32), (111 : Int32), (117 : Int32), (98 : Int32), (108 : Int32), (101 : Int32)] : List Int32), s_SUM_DOUBLE, HN.at (hiN _ (by decide) (by decide)) rfl, HE.at (hiE _ (by decide) (by decide)) rfl, SL _ (List.mem_of_getElem? (i := 18) rfl), own_cod_115_117_109_68_111_117_98_108_101, own_cod_115_117_109_68_111_117_98_108_101b, (Nat.le_of_ble_eq_true rfl), own_agn_3 _ _ _ _ _ _ _ _, o_E_s_SUM_DOUBLE⟩⟩
      · exact ⟨by decide, Or.inl ⟨a89, _, _, ([(115 : Int32), (117 : Int32), (109 : Int32), (66 : Int32), (105 : Int32), (103 : Int32), (68 : Int32), (101 : Int32), (99 : Int32), (105 : Int32), (109 : Int32), (97 : Int32), (108 : Int32)] : List Int32), s_SUM_BIG_DECIMAL, HN.at (hiN _ (by decide) (by decide)) rfl, HE.at (hiE _ (by decide) (by decide)) rfl, SL _ (List.mem_of_getElem? (i := 17) rfl), own_cod_115_117_109_66_105_103_68_101_99_105_109_97_108, own_cod_115_117_109_66_105_103_68_101_99_105_109_97_108b, (Nat.le_of_ble_eq_true rfl), own_agn_4 _ _ _ _ _ _ _ _, o_E_s_SUM_BIG_DECIMAL⟩⟩
      · exact ⟨by decide, Or.inl ⟨a92, _, _, ([(109 : Int32), (105 : Int32), (110 : Int32)] : List Int32), s_MIN, HN.at (hiN _ (by decide) (by decide)) rfl, HE.at (hiE _ (by decide) (by decide)) rfl, SL _ (List.mem_of_getElem? (i := 16) rfl), own_cod_109_105_110, own_cod_109_105_110b, (Nat.le_of_ble_eq_true rfl), own_agn_5 _ _ _ _ _ _ _ _, o_E_s_MIN⟩⟩
      · exact ⟨by decide, Or.inl ⟨a95, _, _, ([(109 : Int32), (97 : Int32), (120 : Int32)] : List Int32), s_MAX, HN.at (hiN _ (by decide) (by decide)) rfl, HE.at (hiE _ (by decide) (by decide)) rfl, SL _ (List.mem_of_getElem? (i := 15) rfl), own_cod_109_97_120, own_cod_109_97_120b, (Nat.le_of_ble_eq_true rfl), own_agn_6 _ _ _ _ _ _ _ _, o_E_s_MAX⟩⟩
      · exact ⟨by decide, Or.inl ⟨a98, _, _, ([(97 : Int32), (118 : Int32), (103 : Int32)] : List Int32), s_AVG, HN.at (hiN _ (by decide) (by decide)) rfl, HE.at (hiE _ (by decide) (by decide)) rfl, SL _ (List.mem_of_getElem? (i := 14) rfl), own_cod_97_118_103, own_cod_97_118_103b, (Nat.le_of_ble_eq_true rfl), own_agn_7 _ _ _ _ _ _ _ _, o_E_s_AVG⟩⟩
      · exact ⟨by decide, Or.inr (Or.inl ⟨a101, _, _, ([(67 : Int32), (79 : Int32), (85 : Int32), (78 : Int32), (84 : Int32)] : List Int32), HN.at (hiN _ (by decide) (by decide)) rfl, HE.at (hiE _ (by decide) (by decide)) rfl, SL _ (List.mem_of_getElem? (i := 13) rfl), own_cod_67_79_85_78_84, own_cod_67_79_85_78_84b, (Nat.le_of_ble_eq_true rfl), own_agn_8 _ _ _ _ _ _ _ _⟩)⟩
      · exact ⟨by decide, Or.inr (Or.inl ⟨a104, _, _, ([(67 : Int32), (111 : Int32), (117 : Int32), (110 : Int32), (116 : Int32)] : List Int32), HN.at (hiN _ (by decide) (by decide)) rfl, HE.at (hiE _ (by decide) (by decide)) rfl, SL _ (List.mem_of_getElem? (i := 12) rfl), own_cod_67_111_117_110_116, own_cod_67_111_117_110_116b, (Nat.le_of_ble_eq_true rfl), own_agn_9 _ _ _ _ _ _ _ _⟩)⟩
      · exact ⟨by decide, Or.inr (Or.inl ⟨a107, _, _, ([(115 : Int32), (117 : Int32), (109 : Int32)] : List Int32), HN.at (hiN _ (by decide) (by decide)) rfl, HE.at (hiE _ (by decide) (by decide)) rfl, SL _ (List.mem_of_getElem? (i := 11) rfl), own_cod_115_117_109, own_cod_115_117_109b, (Nat.le_of_ble_eq_true rfl), own_agn_10 _ _ _ _ _ _ _ _⟩)⟩
      · exact ⟨by decide, Or.inr (Or.inl ⟨a110, _, _, ([(115 : Int32), (117 : Int32), (109 : Int32), (105 : Int32), (110 : Int32), (116 : Int32), (101 : Int32), (103 : Int32), (101 : Int32), (114 : Int32)] : List Int32), HN.at (hiN _ (by decide) (by decide)) rfl, HE.at (hiE _ (by decide) (by decide)) rfl, SL _ (List.mem_of_getElem? (i := 10) rfl), own_cod_115_117_109_105_110_116_101_103_101_114, own_cod_115_117_109_105_110_116_101_103_101_114b, (Nat.le_of_ble_eq_true rfl), own_agn_11 _ _ _ _ _ _ _ _⟩)⟩
      · exact ⟨by decide, Or.inr (Or.inl ⟨a113, _, _, ([(115 : Int32), (117 : Int32), (109 : Int32), (76 : Int32), (111 : Int32), (110 : Int32), (103 : Int32), (32 : Int32)] : List Int32), HN.at (hiN _ (by decide) (by decide)) rfl, HE.at (hiE _ (by decide) (by decide)) rfl, SL _ (List.mem_of_getElem? (i := 9) rfl), own_cod_115_117_109_76_111_110_103_32, own_cod_115_117_109_76_111_110_103_32b, (Nat.le_of_ble_eq_true rfl), own_agn_12 _ _ _ _ _ _ _ _⟩)⟩
      · exact ⟨by decide, Or.inr (Or.inl ⟨a116, _, _, ([(115 : Int32), (117 : Int32), (109 : Int32), (100 : Int32), (111 : Int32), (117 : Int32), (98 : Int32), (108 : Int32), (101 : Int32)] : List Int32), HN.at (hiN _ (by decide) (by decide)) rfl, HE.at (hiE _ (by decide) (by decide)) rfl, SL _ (List.mem_of_getElem? (i := 8) rfl), own_cod_115_117_109_100_111_117_98_108_101, own_cod_115_117_109_100_111_117_98_108_101b, (Nat.le_of_ble_eq_true rfl), own_agn_13 _ _ _ _ _ _ _ _⟩)⟩
      · exact ⟨by decide, Or.inr (Or.inl ⟨a119, _, _, ([(83 : Int32), (117 : Int32), (109 : Int32), (66 : Int32), (105 : Int32), (103 : Int32), (68 : Int32), (101 : Int32), (99 : Int32), (105 : Int32), (109 : Int32), (97 : Int32), (108 : Int32)] : List Int32), HN.at (hiN _ (by decide) (by decide)) rfl, HE.at (hiE _ (by decide) (by decide)) rfl, SL _ (List.mem_of_getElem? (i := 7) rfl), own_cod_83_117_109_66_105_103_68_101_99_105_109_97_108, own_cod_83_117_109_66_105_103_68_101_99_105_109_97_108b, (Nat.le_of_ble_eq_true rfl), own_agn_14 _ _ _ _ _ _ _ _⟩)⟩
      · exact ⟨by decide, Or.inr (Or.inl ⟨a122, _, _, ([(115 : Int32), (117 : Int32), (109 : Int32), (66 : Int32), (105 : Int32), (103 : Int32), (68 : Int32), (101 : Int32), (99 : Int32), (105 : Int32), (109 : Int32), (97 : Int32)] : List Int32), HN.at (hiN _ (by decide) (by decide)) rfl, HE.at (hiE _ (by decide) (by decide)) rfl, SL _ (List.mem_of_getElem? (i := 6) rfl), own_cod_115_117_109_66_105_103_68_101_99_105_109_97, own_cod_115_117_109_66_105_103_68_101_99_105_109_97b, (Nat.le_of_ble_eq_true rfl), own_agn_15 _ _ _ _ _ _ _ _⟩)⟩
      · exact ⟨by decide, Or.inr (Or.inl ⟨a125, _, _, ([(109 : Int32), (105 : Int32)] : List Int32), HN.at (hiN _ (by decide) (by decide)) rfl, HE.at (hiE _ (by decide) (by decide)) rfl, SL _ (List.mem_of_getElem? (i := 5) rfl), own_cod_109_105, own_cod_109_105b, (Nat.le_of_ble_eq_true rfl), own_agn_16 _ _ _ _ _ _ _ _⟩)⟩
      · exact ⟨by decide, Or.inr (Or.inl ⟨a128, _, _, ([(109 : Int32), (97 : Int32), (120 : Int32), (120 : Int32)] : List Int32), HN.at (hiN _ (by decide) (by decide)) rfl, HE.at (hiE _ (by decide) (by decide)) rfl, SL _ (List.mem_of_getElem? (i := 4) rfl), own_cod_109_97_120_120, own_cod_109_97_120_120b, (Nat.le_of_ble_eq_true rfl), own_agn_17 _ _ _ _ _ _ _ _⟩)⟩
      · exact ⟨by decide, Or.inr (Or.inl ⟨a131, _, _, ([(65 : Int32), (86 : Int32), (71 : Int32)] : List Int32), HN.at (hiN _ (by decide) (by decide)) rfl, HE.at (hiE _ (by decide) (by decide)) rfl, SL _ (List.mem_of_getElem? (i := 3) rfl), own_cod_65_86_71, own_cod_65_86_71b, (Nat.le_of_ble_eq_true rfl), own_agn_18 _ _ _ _ _ _ _ _⟩)⟩
      · exact ⟨by decide, Or.inr (Or.inl ⟨a134, _, _, ([] : List Int32), HN.at (hiN _ (by decide) (by decide)) rfl, HE.at (hiE _ (by decide) (by decide)) rfl, SL _ (List.mem_of_getElem? (i := 2) rfl), own_cod_, own_cod_b, (Nat.le_of_ble_eq_true rfl), own_agn_19 _ _ _ _ _ _ _ _⟩)⟩
      · exact ⟨by decide, Or.inr (Or.inl ⟨a137, _, _, ([(83 : Int32), (85 : Int32), (77 : Int32), (95 : Int32), (73 : Int32), (78 : Int32), (84 : Int32), (69 : Int32), (71 : Int32), (69 : Int32), (82 : Int32)] : List Int32), HN.at (hiN _ (by decide) (by decide)) rfl, HE.at (hiE _ (by decide) (by decide)) rfl, SL _ (List.mem_of_getElem? (i := 1) rfl), own_cod_83_85_77_95_73_78_84_69_71_69_82, own_cod_83_85_77_95_73_78_84_69_71_69_82b, (Nat.le_of_ble_eq_true rfl), own_agn_20 _ _ _ _ _ _ _ _⟩)⟩
      · exact ⟨by decide, Or.inr (Or.inl ⟨a140, _, _, ([(115 : Int32), (117 : Int32), (109 : Int32), (70 : Int32), (108 : Int32), (111 : Int32), (97 : Int32), (116 : Int32)] : List Int32), HN.at (hiN _ (by decide) (by decide)) rfl, HE.at (hiE _ (by decide) (by decide)) rfl, SL _ (List.mem_of_getElem? (i := 0) rfl), own_cod_115_117_109_70_108_111_97_116, own_cod_115_117_109_70_108_111_97_116b, (Nat.le_of_ble_eq_true rfl), own_agn_21 _ _ _ _ _ _ _ _⟩)⟩
      · exact ⟨by decide, Or.inr (Or.inr ⟨HN.at (hiN _ (by decide) (by decide)) rfl, HE.at (hiE _ (by decide) (by decide)) rfl⟩)⟩
    rcases hg with ⟨⟨gx1, gx2⟩, ⟨sa, nn, vs, cs, se, hga, hgb, hsf, cod, bd, hle, hag, Ese⟩ | ⟨sa, nn, vs, cs, hga, hgb, hsf, cod, bd, hle, hag⟩ | ⟨hga, hgb⟩⟩
    · have hiq := hiN _ gx1 gx2
      obtain ⟨bq, kq, ExQ, FcQ, FvQ, AvQ, -, -⟩ := hsf
      have w202 : ∀ t, Steps p.tables e below (T199.setTop (mkF m 503 (own_F21 i i1 i2 i3 i4 i5 (i &&& (3 : Int32)) sa se b76 b145 ix) [(.ref sa)])) t → Steps p.tables e below (s₁.setTop (entryFrame m #[(.int i), (.int i1), (.int i2), (.int i3), (.int i4), (.int i5)] maxLocals)) t := fun t k => by
        refine w201 t ?_
        refine XS.aload X199.here hx rfl (hb hby at_290) rfl rfl ?_
        show Steps p.tables e below (T199.setTop (mkF m 292 (own_F19 i i1 i2 i3 i4 i5 (i &&& (3 : Int32)) b76 b145 ix) [(.ref b76)])) _
        refine XS.iload X199.here hx rfl (hb hby at_292) rfl ?_
        show Steps p.tables e below (T199.setTop (mkF m 294 (own_F19 i i1 i2 i3 i4 i5 (i &&& (3 : Int32)) b76 b145 ix) [(.int ix), (.ref b76)])) _
        refine X199.aaload hx (j := ix) (v := (.ref sa)) (by rw [e199]; exact ArN.1) (State.isArrayOf_alike hZ.alike ArN.2.1) rfl ArN.2.2 (hiN _ gx1 gx2) hga (g := (mkF m 294 (own_F19 i i1 i2 i3 i4 i5 (i &&& (3 : Int32)) b76 b145 ix) [(.int ix), (.ref b76)])) rfl rfl (hb hby at_294) _ ?_
        show Steps p.tables e below (T199.setTop (mkF m 295 (own_F19 i i1 i2 i3 i4 i5 (i &&& (3 : Int32)) b76 b145 ix) [(.ref sa)])) _
        refine XS.astore X199.here hx rfl (hb hby at_295) rfl rfl (l' := (own_F20 i i1 i2 i3 i4 i5 (i &&& (3 : Int32)) sa b76 b145 ix)) rfl ?_
        show Steps p.tables e below (T199.setTop (mkF m 297 (own_F20 i i1 i2 i3 i4 i5 (i &&& (3 : Int32)) sa b76 b145 ix) [])) _
        refine XS.aload X199.here hx rfl (hb hby at_297) rfl rfl ?_
        show Steps p.tables e below (T199.setTop (mkF m 299 (own_F20 i i1 i2 i3 i4 i5 (i &&& (3 : Int32)) sa b76 b145 ix) [(.ref b145)])) _
        refine XS.iload X199.here hx rfl (hb hby at_299) rfl ?_
        show Steps p.tables e below (T199.setTop (mkF m 301 (own_F20 i i1 i2 i3 i4 i5 (i &&& (3 : Int32)) sa b76 b145 ix) [(.int ix), (.ref b145)])) _
        refine X199.aaload hx (j := ix) (v := (.ref se)) (by rw [e199]; exact ArE.1) (State.isArrayOf_alike hZ.alike ArE.2.1) rfl ArE.2.2 (hiE _ gx1 gx2) hgb (g := (mkF m 301 (own_F20 i i1 i2 i3 i4 i5 (i &&& (3 : Int32)) sa b76 b145 ix) [(.int ix), (.ref b145)])) rfl rfl (hb hby at_301) _ ?_
        show Steps p.tables e below (T199.setTop (mkF m 302 (own_F20 i i1 i2 i3 i4 i5 (i &&& (3 : Int32)) sa b76 b145 ix) [(.ref se)])) _
        refine XS.astore X199.here hx rfl (hb hby at_302) rfl rfl (l' := (own_F21 i i1 i2 i3 i4 i5 (i &&& (3 : Int32)) sa se b76 b145 ix)) rfl ?_
        show Steps p.tables e below (T199.setTop (mkF m 304 (own_F21 i i1 i2 i3 i4 i5 (i &&& (3 : Int32)) sa se b76 b145 ix) [])) _
        refine XS.goto X199.here hx rfl (pc0 := 304) (pc' := 501) rfl (hb hby at_304) (by decide) (by decide) ?_
        show Steps p.tables e below (T199.setTop (mkF m 501 (own_F21 i i1 i2 i3 i4 i5 (i &&& (3 : Int32)) sa se b76 b145 ix) [])) _
        refine XS.aload X199.here hx rfl (hb hby at_501) rfl rfl ?_
        show Steps p.tables e below (T199.setTop (mkF m 503 (own_F21 i i1 i2 i3 i4 i5 (i &&& (3 : Int32)) sa se b76 b145 ix) [(.ref sa)])) _
        exact k
      obtain ⟨_, _, ⟨T203, L203, k203, n203⟩, -, X203, sn203, gr203, ⟨Lc203, hQ203, l203, y203, z203, R203⟩, st203⟩ := callSS X199 hx (y := (⟨"com/example/querent/querent/translation/Aggregation", "of", "(Ljava/lang/String;)Ljava/util/Optional;"⟩ : MethodName)) hown (mvT hZ (hw _ (List.mem_of_getElem? (i := 52) rfl))) (mvT hZ (hw _ (List.mem_of_getElem? (i := 53) rfl))) (mvT hZ (hw _ (List.mem_of_getElem? (i := 35) rfl))) (mvT hZ (hw _ (List.mem_of_getElem? (i := 54) rfl))) (by decide) (backOfSH (W := 0) (rm1 l Z a0 hw [] sa bq kq cs nn vs kv zc s_VALUES s_COUNT s_SUM_INTEGER s_SUM_LONG s_SUM_DOUBLE s_SUM_BIG_DECIMAL s_MIN s_MAX s_AVG s_EMPTY h199 n0 O S_s_VALUES S_s_COUNT S_s_SUM_INTEGER S_s_SUM_LONG S_s_SUM_DOUBLE S_s_SUM_BIG_DECIMAL S_s_MIN S_s_MAX S_s_AVG S_s_EMPTY ExQ FvQ FcQ AvQ cod bd hle o_E_s_VALUES o_V_s_VALUES o_E_s_EMPTY o_F_o_s_EMPTY o_E_s_COUNT o_F_ordinal_s_COUNT o_E_s_SUM_INTEGER o_F_ordinal_s_SUM_INTEGER o_E_s_SUM_LONG o_F_ordinal_s_SUM_LONG o_E_s_SUM_DOUBLE o_F_ordinal_s_SUM_DOUBLE o_E_s_SUM_BIG_DECIMAL o_F_ordinal_s_SUM_BIG_DECIMAL o_E_s_MIN o_F_ordinal_s_MIN o_E_s_MAX o_F_ordinal_s_MAX o_E_s_AVG o_F_ordinal_s_AVG SC hzc) hZ (hw _ (List.mem_of_getElem? (i := 54) rfl)) (hw _ (List.mem_of_getElem? (i := 35) rfl)) (by decide) (by decide) hEL C.1) (g := (mkF m 503 (own_F21 i i1 i2 i3 i4 i5 (i &&& (3 : Int32)) sa se b76 b145 ix) [(.ref sa)])) rfl (by rw [hml]; rfl) (argsL := [(.ref sa)]) (rest := []) (lenOf pd__40Ljava_47lang_47String_59_41Ljava_47util_47Optional_59 rfl) rfl (by show 2 * 0 + _ ≤ _; exact Nat.le_of_eq rfl) (hb hby at_503) (fun _ _ => ⟨rfl, e199, (by decide : 46 + 18 ≤ _), (by decide : 718 + 253 ≤ _)⟩)
      dsimp only [Pt.U, Pt.locs, Pt.cells, Pt.slots] at X203 l203 y203 z203 st203 hQ203 sn203 gr203 R203
      have X203 := own_un X203 l203 y203 z203
      obtain ⟨X203, hS, hZ, hown⟩ := rebS hS (by rw [e199]; exact hk) X203 sn203 gr203 hZ hown
      obtain ⟨z_203, rfl, N203q, K203, E_z_c203, F_o_z_c203⟩ := hQ203
      have N203 := Fr.app N199 N203q
      have R := R203
      have C := C.trans R
      have hk : T203.heap.size ≤ T203.heap.size := Nat.le_refl _
      have E_s_COUNT := E_s_COUNT.keep K203
      have E_s_SUM_INTEGER := E_s_SUM_INTEGER.keep K203
      have E_s_SUM_LONG := E_s_SUM_LONG.keep K203
      have E_s_SUM_DOUBLE := E_s_SUM_DOUBLE.keep K203
      have E_s_SUM_BIG_DECIMAL := E_s_SUM_BIG_DECIMAL.keep K203
      have E_s_MIN := E_s_MIN.keep K203
      have E_s_MAX := E_s_MAX.keep K203
      have E_s_AVG := E_s_AVG.keep K203
      have ExQ := ExQ.keep K203
      have FcQ := FcQ.keep K203 nin0
      have FvQ := FvQ.keep K203 nin0
      have AvQ := AvQ.keep K203 nin0
      have O := O.keep K203 all0
      rw [hag] at F_o_z_c203
      obtain ⟨cq204, kq204, q204a, q204b, q204c⟩ := isOf hZ rfl E_z_c203
      obtain ⟨_, _, ⟨T204, L204, k204, n204⟩, -, X204, ⟨Lc204, hQ204, l204, y204, z204⟩, st204⟩ := X203.virtualBack hx (y := (⟨"java/util/Optional", "orElse", "(Ljava/lang/Object;)Ljava/lang/Object;"⟩ : MethodName)) (z := (⟨"java/util/Optional", "orElse", "(Ljava/lang/Object;)Ljava/lang/Object;"⟩ : MethodName)) hown (mvT hZ (hw _ (List.mem_of_getElem? (i := 109) rfl))) (mvT hZ (hw _ (List.mem_of_getElem? (i := 110) rfl))) (notFace_of_selects (args := #[]) (mvT hZ (hw _ (List.mem_of_getElem? (i := 112) rfl)))) (mvT hZ (hw _ (List.mem_of_getElem? (i := 112) rfl))) (mvT hZ (hw _ (List.mem_of_getElem? (i := 111) rfl))) (by decide) (backOf (W := 0) (rm10_y l Z a0 hw [] z_203 se T203.heap n0 O F_o_z_c203) hZ (hw _ (List.mem_of_getElem? (i := 113) rfl)) (hw _ (List.mem_of_getElem? (i := 92) rfl)) (by decide) (by decide)) q204a q204c (g := (mkF m 507 (own_F21 i i1 i2 i3 i4 i5 (i &&& (3 : Int32)) sa se b76 b145 ix) [.null, (.ref z_203)])) rfl (by rw [hml]; rfl) (Steps.refl _) (argsL := [.null]) (rest := []) (lenOf pd__40Ljava_47lang_47Object_59_41Ljava_47lang_47Object_59 rfl) rfl (by show 2 * 0 + _ ≤ _; exact Nat.le_of_eq rfl) (hb hby at_507) (fun _ _ => ⟨rfl, rfl, (by decide : 64 + 0 ≤ _), (by decide : 971 + 0 ≤ _)⟩)
      dsimp only [Pt.U, Pt.locs, Pt.cells, Pt.slots] at X204 l204 y204 z204 st204 hQ204
      have X204 := own_un X204 l204 y204 z204
      obtain ⟨rfl, N204q, eh204⟩ := hQ204
      have N204 := Fr.app N203 N204q
      have E_se := Ese.ext O.2
      obtain ⟨T205, X205, e205, st205⟩ := castY X204 hx hZ hown (hw _ (List.mem_of_getElem? (i := 32) rfl)) eh204 (Ins.self E_se) (g := (mkF m 510 (own_F21 i i1 i2 i3 i4 i5 (i &&& (3 : Int32)) sa se b76 b145 ix) [(.ref se)])) rfl rfl (hb hby at_510)
      have w206 : ∀ t, Steps p.tables e below (T205.setTop (mkF m 527 (own_F21 i i1 i2 i3 i4 i5 (i &&& (3 : Int32)) sa se se b145 ix) [(.int (1 : Int32))])) t → Steps p.tables e below (s₁.setTop (entryFrame m #[(.int i), (.int i1), (.int i2), (.int i3), (.int i4), (.int i5)] maxLocals)) t := fun t k => by
        refine w202 t ?_
        refine st203.trans ?_
        show Steps p.tables e below (T203.setTop (mkF m 506 (own_F21 i i1 i2 i3 i4 i5 (i &&& (3 : Int32)) sa se b76 b145 ix) [(.ref z_203)])) _
        refine XS.aconstNull X203.here hx rfl (hb hby at_506) ?_
        show Steps p.tables e below (T203.setTop (mkF m 507 (own_F21 i i1 i2 i3 i4 i5 (i &&& (3 : Int32)) sa se b76 b145 ix) [.null, (.ref z_203)])) _
        refine st204.trans ?_
        show Steps p.tables e below (T204.setTop (mkF m 510 (own_F21 i i1 i2 i3 i4 i5 (i &&& (3 : Int32)) sa se b76 b145 ix) [(.ref se)])) _
        refine st205 _ ?_
        show Steps p.tables e below (T205.setTop (mkF m 513 (own_F21 i i1 i2 i3 i4 i5 (i &&& (3 : Int32)) sa se b76 b145 ix) [(.ref se)])) _
        refine XS.astore X205.here hx rfl (hb hby at_513) rfl rfl (l' := (own_F21 i i1 i2 i3 i4 i5 (i &&& (3 : Int32)) sa se se b145 ix)) rfl ?_
        show Steps p.tables e below (T205.setTop (mkF m 515 (own_F21 i i1 i2 i3 i4 i5 (i &&& (3 : Int32)) sa se se b145 ix) [])) _
        refine XS.aload X205.here hx rfl (hb hby at_515) rfl rfl ?_
        show Steps p.tables e below (T205.setTop (mkF m 517 (own_F21 i i1 i2 i3 i4 i5 (i &&& (3 : Int32)) sa se se b145 ix) [(.ref se)])) _
        refine XS.aload X205.here hx rfl (hb hby at_517) rfl rfl ?_
        show Steps p.tables e below (T205.setTop (mkF m 519 (own_F21 i i1 i2 i3 i4 i5 (i &&& (3 : Int32)) sa se se b145 ix) [(.ref se), (.ref se)])) _
        refine Jvm.RoadKit.acmp (g := (mkF m 519 (own_F21 i i1 i2 i3 i4 i5 (i &&& (3 : Int32)) sa se se b145 ix) [(.ref se), (.ref se)])) X205 hx rfl rfl rfl (pc0 := 519) (pc' := 522) (same := true) rfl (hb hby at_519) rfl (decide_eq_true rfl) (by decide) (by decide) ?_
        show Steps p.tables e below (T205.setTop (mkF m 522 (own_F21 i i1 i2 i3 i4 i5 (i &&& (3 : Int32)) sa se se b145 ix) [])) _
        refine XS.iconst X205.here hx rfl (hb hby at_522) ?_
        show Steps p.tables e below (T205.setTop (mkF m 523 (own_F21 i i1 i2 i3 i4 i5 (i &&& (3 : Int32)) sa se se b145 ix) [(.int (1 : Int32))])) _
        refine XS.goto X205.here hx rfl (pc0 := 523) (pc' := 527) rfl (hb hby at_523) (by decide) (by decide) ?_
        show Steps p.tables e below (T205.setTop (mkF m 527 (own_F21 i i1 i2 i3 i4 i5 (i &&& (3 : Int32)) sa se se b145 ix) [(.int (1 : Int32))])) _
        exact k
      obtain ⟨fs, hr, hrun, hended, hE⟩ := Stand.leaveW (s := s) (vm₁ := T203.vm) X205 hS (by rw [e205]; exact hk) (v := some (.int (1 : Int32))) (fun h => by rw [Bd.returns] at h; cases h)
      refine ⟨_, _, w206 _ ?_, hrun, hended, _, _, rfl, ?_, ?_, own_mono hE (by decide) (by decide)⟩
      · exact retN X205 hx (t := .boolean) Bd.returns (by simp) (hb hby at_527) hr
      · show Q0 Z i i1 i2 i3 i4 i5 kv zc s_VALUES s_COUNT s_SUM_INTEGER s_SUM_LONG s_SUM_DOUBLE s_SUM_BIG_DECIMAL s_MIN s_MAX s_AVG s_EMPTY h0 n0 _ T205.heap _
        rw [e205]
        exact ⟨rfl, N204⟩
      · rw [hh]; show CHr Z consts_1 s.vm h0 T205.vm T205.heap; rw [e205]; exact C.trans (CHv.at X205 hZ hEL C.1)
    · have hiq := hiN _ gx1 gx2
      obtain ⟨bq, kq, ExQ, FcQ, FvQ, AvQ, -, -⟩ := hsf
      have w207 : ∀ t, Steps p.tables e below (T199.setTop (mkF m 503 (own_F22 i i1 i2 i3 i4 i5 (i &&& (3 : Int32)) sa b76 b145 ix) [(.ref sa)])) t → Steps p.tables e below (s₁.setTop (entryFrame m #[(.int i), (.int i1), (.int i2), (.int i3), (.int i4), (.int i5)] maxLocals)) t := fun t k => by
        refine w201 t ?_
        refine XS.aload X199.here hx rfl (hb hby at_290) rfl rfl ?_
        show Steps p.tables e below (T199.setTop (mkF m 292 (own_F19 i i1 i2 i3 i4 i5 (i &&& (3 : Int32)) b76 b145 ix) [(.ref b76)])) _
        refine XS.iload X199.here hx rfl (hb hby at_292) rfl ?_
        show Steps p.tables e below (T199.setTop (mkF m 294 (own_F19 i i1 i2 i3 i4 i5 (i &&& (3 : Int32)) b76 b145 ix) [(.int ix), (.ref b76)])) _
        refine X199.aaload hx (j := ix) (v := (.ref sa)) (by rw [e199]; exact ArN.1) (State.isArrayOf_alike hZ.alike ArN.2.1) rfl ArN.2.2 (hiN _ gx1 gx2) hga (g := (mkF m 294 (own_F19 i i1 i2 i3 i4 i5 (i &&& (3 : Int32)) b76 b145 ix) [(.int ix), (.ref b76)])) rfl rfl (hb hby at_294) _ ?_
        show Steps p.tables e below (T199.setTop (mkF m 295 (own_F19 i i1 i2 i3 i4 i5 (i &&& (3 : Int32)) b76 b145 ix) [(.ref sa)])) _
        refine XS.astore X199.here hx rfl (hb hby at_295) rfl rfl (l' := (own_F20 i i1 i2 i3 i4 i5 (i &&& (3 : Int32)) sa b76 b145 ix)) rfl ?_
        show Steps p.tables e below (T199.setTop (mkF m 297 (own_F20 i i1 i2 i3 i4 i5 (i &&& (3 : Int32)) sa b76 b145 ix) [])) _
        refine XS.aload X199.here hx rfl (hb hby at_297) rfl rfl ?_
        show Steps p.tables e below (T199.setTop (mkF m 299 (own_F20 i i1 i2 i3 i4 i5 (i &&& (3 : Int32)) sa b76 b145 ix) [(.ref b145)])) _
        refine XS.iload X199.here hx rfl (hb hby at_299) rfl ?_
        show Steps p.tables e below (T199.setTop (mkF m 301 (own_F20 i i1 i2 i3 i4 i5 (i &&& (3 : Int32)) sa b76 b145 ix) [(.int ix), (.ref b145)])) _
        refine X199.aaload hx (j := ix) (v := .null) (by rw [e199]; exact ArE.1) (State.isArrayOf_alike hZ.alike ArE.2.1) rfl ArE.2.2 (hiE _ gx1 gx2) hgb (g := (mkF m 301 (own_F20 i i1 i2 i3 i4 i5 (i &&& (3 : Int32)) sa b76 b145 ix) [(.int ix), (.ref b145)])) rfl rfl (hb hby at_301) _ ?_
        show Steps p.tables e below (T199.setTop (mkF m 302 (own_F20 i i1 i2 i3 i4 i5 (i &&& (3 : Int32)) sa b76 b145 ix) [.null])) _
        refine XS.astore X199.here hx rfl (hb hby at_302) rfl rfl (l' := (own_F22 i i1 i2 i3 i4 i5 (i &&& (3 : Int32)) sa b76 b145 ix)) rfl ?_
        show Steps p.tables e below (T199.setTop (mkF m 304 (own_F22 i i1 i2 i3 i4 i5 (i &&& (3 : Int32)) sa b76 b145 ix) [])) _
        refine XS.goto X199.here hx rfl (pc0 := 304) (pc' := 501) rfl (hb hby at_304) (by decide) (by decide) ?_
        show Steps p.tables e below (T199.setTop (mkF m 501 (own_F22 i i1 i2 i3 i4 i5 (i &&& (3 : Int32)) sa b76 b145 ix) [])) _
        refine XS.aload X199.here hx rfl (hb hby at_501) rfl rfl ?_
        show Steps p.tables e below (T199.setTop (mkF m 503 (own_F22 i i1 i2 i3 i4 i5 (i &&& (3 : Int32)) sa b76 b145 ix) [(.ref sa)])) _
        exact k
      obtain ⟨_, _, ⟨T208, L208, k208, n208⟩, -, X208, sn208, gr208, ⟨Lc208, hQ208, l208, y208, z208, R208⟩, st208⟩ := callSS X199 hx (y := (⟨"com/example/querent/querent/translation/Aggregation", "of", "(Ljava/lang/String;)Ljava/util/Optional;"⟩ : MethodName)) hown (mvT hZ (hw _ (List.mem_of_getElem? (i := 52) rfl))) (mvT hZ (hw _ (List.mem_of_getElem? (i := 53) rfl))) (mvT hZ (hw _ (List.mem_of_getElem? (i := 35) rfl))) (mvT hZ (hw _ (List.mem_of_getElem? (i := 54) rfl))) (by decide) (backOfSH (W := 0) (rm1 l Z a0 hw [] sa bq kq cs nn vs kv zc s_VALUES s_COUNT s_SUM_INTEGER s_SUM_LONG s_SUM_DOUBLE s_SUM_BIG_DECIMAL s_MIN s_MAX s_AVG s_EMPTY h199 n0 O S_s_VALUES S_s_COUNT S_s_SUM_INTEGER S_s_SUM_LONG S_s_SUM_DOUBLE S_s_SUM_BIG_DECIMAL S_s_MIN S_s_MAX S_s_AVG S_s_EMPTY ExQ FvQ FcQ AvQ cod bd hle o_E_s_VALUES o_V_s_VALUES o_E_s_EMPTY o_F_o_s_EMPTY o_E_s_COUNT o_F_ordinal_s_COUNT o_E_s_SUM_INTEGER o_F_ordinal_s_SUM_INTEGER o_E_s_SUM_LONG o_F_ordinal_s_SUM_LONG o_E_s_SUM_DOUBLE o_F_ordinal_s_SUM_DOUBLE o_E_s_SUM_BIG_DECIMAL o_F_ordinal_s_SUM_BIG_DECIMAL o_E_s_MIN o_F_ordinal_s_MIN o_E_s_MAX o_F_ordinal_s_MAX o_E_s_AVG o_F_ordinal_s_AVG SC hzc) hZ (hw _ (List.mem_of_getElem? (i := 54) rfl)) (hw _ (List.mem_of_getElem? (i := 35) rfl)) (by decide) (by decide) hEL C.1) (g := (mkF m 503 (own_F22 i i1 i2 i3 i4 i5 (i &&& (3 : Int32)) sa b76 b145 ix) [(.ref sa)])) rfl (by rw [hml]; rfl) (argsL := [(.ref sa)]) (rest := []) (lenOf pd__40Ljava_47lang_47String_59_41Ljava_47util_47Optional_59 rfl) rfl (by show 2 * 0 + _ ≤ _; exact Nat.le_of_eq rfl) (hb hby at_503) (fun _ _ => ⟨rfl, e199, (by decide : 46 + 18 ≤ _), (by decide : 718 + 253 ≤ _)⟩)
      dsimp only [Pt.U, Pt.locs, Pt.cells, Pt.slots] at X208 l208 y208 z208 st208 hQ208 sn208 gr208 R208
      have X208 := own_un X208 l208 y208 z208
      obtain ⟨X208, hS, hZ, hown⟩ := rebS hS (by rw [e199]; exact hk) X208 sn208 gr208 hZ hown
      obtain ⟨z_208, rfl, N208q, K208, E_z_c208, F_o_z_c208⟩ := hQ208
      have N208 := Fr.app N199 N208q
      have R := R208
      have C := C.trans R
      have hk : T208.heap.size ≤ T208.heap.size := Nat.le_refl _
      have E_s_COUNT := E_s_COUNT.keep K208
      have E_s_SUM_INTEGER := E_s_SUM_INTEGER.keep K208
      have E_s_SUM_LONG := E_s_SUM_LONG.keep K208
      have E_s_SUM_DOUBLE := E_s_SUM_DOUBLE.keep K208
      have E_s_SUM_BIG_DECIMAL := E_s_SUM_BIG_DECIMAL.keep K208
      have E_s_MIN := E_s_MIN.keep K208
      have E_s_MAX := E_s_MAX.keep K208
      have E_s_AVG := E_s_AVG.keep K208
      have ExQ := ExQ.keep K208
      have FcQ := FcQ.keep K208 nin0
      have FvQ := FvQ.keep K208 nin0
      have AvQ := AvQ.keep K208 nin0
      have O := O.keep K208 all0
      rw [hag] at F_o_z_c208
      obtain ⟨cq209, kq209, q209a, q209b, q209c⟩ := isOf hZ rfl E_z_c208
      obtain ⟨_, _, ⟨T209, L209, k209, n209⟩, -, X209, ⟨Lc209, hQ209, l209, y209, z209⟩, st209⟩ := X208.virtualBack hx (y := (⟨"java/util/Optional", "orElse", "(Ljava/lang/Object;)Ljava/lang/Object;"⟩ : MethodName)) (z := (⟨"java/util/Optional", "orElse", "(Ljava/lang/Object;)Ljava/lang/Object;"⟩ : MethodName)) hown (mvT hZ (hw _ (List.mem_of_getElem? (i := 109) rfl))) (mvT hZ (hw _ (List.mem_of_getElem? (i := 110) rfl))) (notFace_of_selects (args := #[]) (mvT hZ (hw _ (List.mem_of_getElem? (i := 112) rfl)))) (mvT hZ (hw _ (List.mem_of_getElem? (i := 112) rfl))) (mvT hZ (hw _ (List.mem_of_getElem? (i := 111) rfl))) (by decide) (backOf (W := 0) (rm10_n l Z a0 hw [] z_208 T208.heap n0 O F_o_z_c208) hZ (hw _ (List.mem_of_getElem? (i := 113) rfl)) (hw _ (List.mem_of_getElem? (i := 92) rfl)) (by decide) (by decide)) q209a q209c (g := (mkF m 507 (own_F22 i i1 i2 i3 i4 i5 (i &&& (3 : Int32)) sa b76 b145 ix) [.null, (.ref z_208)])) rfl (by rw [hml]; rfl) (Steps.refl _) (argsL := [.null]) (rest := []) (lenOf pd__40Ljava_47lang_47Object_59_41Ljava_47lang_47Object_59 rfl) rfl (by show 2 * 0 + _ ≤ _; exact Nat.le_of_eq rfl) (hb hby at_507) (fun _ _ => ⟨rfl, rfl, (by decide : 64 + 0 ≤ _), (by decide : 971 + 0 ≤ _)⟩)
      dsimp only [Pt.U, Pt.locs, Pt.cells, Pt.slots] at X209 l209 y209 z209 st209 hQ209
      have X209 := own_un X209 l209 y209 z209
      obtain ⟨rfl, N209q, eh209⟩ := hQ209
      have N209 := Fr.app N208 N209q
      have w210 : ∀ t, Steps p.tables e below (T209.setTop (mkF m 527 (own_F23 i i1 i2 i3 i4 i5 (i &&& (3 : Int32)) sa b145 ix) [(.int (1 : Int32))])) t → Steps p.tables e below (s₁.setTop (entryFrame m #[(.int i), (.int i1), (.int i2), (.int i3), (.int i4), (.int i5)] maxLocals)) t := fun t k => by
        refine w207 t ?_
        refine st208.trans ?_
        show Steps p.tables e below (T208.setTop (mkF m 506 (own_F22 i i1 i2 i3 i4 i5 (i &&& (3 : Int32)) sa b76 b145 ix) [(.ref z_208)])) _
        refine XS.aconstNull X208.here hx rfl (hb hby at_506) ?_
        show Steps p.tables e below (T208.setTop (mkF m 507 (own_F22 i i1 i2 i3 i4 i5 (i &&& (3 : Int32)) sa b76 b145 ix) [.null, (.ref z_208)])) _
        refine st209.trans ?_
        show Steps p.tables e below (T209.setTop (mkF m 510 (own_F22 i i1 i2 i3 i4 i5 (i &&& (3 : Int32)) sa b76 b145 ix) [.null])) _
        refine X209.checkcastNull hx (g := (mkF m 510 (own_F22 i i1 i2 i3 i4 i5 (i &&& (3 : Int32)) sa b76 b145 ix) [.null])) rfl rfl (hb hby at_510) _ ?_
        show Steps p.tables e below (T209.setTop (mkF m 513 (own_F22 i i1 i2 i3 i4 i5 (i &&& (3 : Int32)) sa b76 b145 ix) [.null])) _
        refine XS.astore X209.here hx rfl (hb hby at_513) rfl rfl (l' := (own_F23 i i1 i2 i3 i4 i5 (i &&& (3 : Int32)) sa b145 ix)) rfl ?_
        show Steps p.tables e below (T209.setTop (mkF m 515 (own_F23 i i1 i2 i3 i4 i5 (i &&& (3 : Int32)) sa b145 ix) [])) _
        refine XS.aload X209.here hx rfl (hb hby at_515) rfl rfl ?_
        show Steps p.tables e below (T209.setTop (mkF m 517 (own_F23 i i1 i2 i3 i4 i5 (i &&& (3 : Int32)) sa b145 ix) [.null])) _
        refine XS.aload X209.here hx rfl (hb hby at_517) rfl rfl ?_
        show Steps p.tables e below (T209.setTop (mkF m 519 (own_F23 i i1 i2 i3 i4 i5 (i &&& (3 : Int32)) sa b145 ix) [.null, .null])) _
        refine Jvm.RoadKit.acmp (g := (mkF m 519 (own_F23 i i1 i2 i3 i4 i5 (i &&& (3 : Int32)) sa b145 ix) [.null, .null])) X209 hx rfl rfl rfl (pc0 := 519) (pc' := 522) (same := true) rfl (hb hby at_519) rfl (decide_eq_true rfl) (by decide) (by decide) ?_
        show Steps p.tables e below (T209.setTop (mkF m 522 (own_F23 i i1 i2 i3 i4 i5 (i &&& (3 : Int32)) sa b145 ix) [])) _
        refine XS.iconst X209.here hx rfl (hb hby at_522) ?_
        show Steps p.tables e below (T209.setTop (mkF m 523 (own_F23 i i1 i2 i3 i4 i5 (i &&& (3 : Int32)) sa b145 ix) [(.int (1 : Int32))])) _
        refine XS.goto X209.here hx rfl (pc0 := 523) (pc' := 527) rfl (hb hby at_523) (by decide) (by decide) ?_
        show Steps p.tables e below (T209.setTop (mkF m 527 (own_F23 i i1 i2 i3 i4 i5 (i &&& (3 : Int32)) sa b145 ix) [(.int (1 : Int32))])) _
        exact k
      obtain ⟨fs, hr, hrun, hended, hE⟩ := Stand.leaveW (s := s) (vm₁ := T208.vm) X209 hS (by rw [eh209]; exact hk) (v := some (.int (1 : Int32))) (fun h => by rw [Bd.returns] at h; cases h)
      refine ⟨_, _, w210 _ ?_, hrun, hended, _, _, rfl, ?_, ?_, own_mono hE (by decide) (by decide)⟩
      · exact retN X209 hx (t := .boolean) Bd.returns (by simp) (hb hby at_527) hr
      · show Q0 Z i i1 i2 i3 i4 i5 kv zc s_VALUES s_COUNT s_SUM_INTEGER s_SUM_LONG s_SUM_DOUBLE s_SUM_BIG_DECIMAL s_MIN s_MAX s_AVG s_EMPTY h0 n0 _ T209.heap _
        rw [eh209]
        exact ⟨rfl, N209⟩
      · rw [hh]; show CHr Z consts_1 s.vm h0 T209.vm T209.heap; rw [eh209]; exact C.trans (CHv.at X209 hZ hEL C.1)
    · have hiq := hiN _ gx1 gx2
      have w211 : ∀ t, Steps p.tables e below (T199.setTop (mkF m 503 (own_F25 i i1 i2 i3 i4 i5 (i &&& (3 : Int32)) b76 b145 ix) [.null])) t → Steps p.tables e below (s₁.setTop (entryFrame m #[(.int i), (.int i1), (.int i2), (.int i3), (.int i4), (.int i5)] maxLocals)) t := fun t k => by
        refine w201 t ?_
        refine XS.aload X199.here hx rfl (hb hby at_290) rfl rfl ?_
        show Steps p.tables e below (T199.setTop (mkF m 292 (own_F19 i i1 i2 i3 i4 i5 (i &&& (3 : Int32)) b76 b145 ix) [(.ref b76)])) _
        refine XS.iload X199.here hx rfl (hb hby at_292) rfl ?_
        show Steps p.tables e below (T199.setTop (mkF m 294 (own_F19 i i1 i2 i3 i4 i5 (i &&& (3 : Int32)) b76 b145 ix) [(.int ix), (.ref b76)])) _
        refine X199.aaload hx (j := ix) (v := .null) (by rw [e199]; exact ArN.1) (State.isArrayOf_alike hZ.alike ArN.2.1) rfl ArN.2.2 (hiN _ gx1 gx2) hga (g := (mkF m 294 (own_F19 i i1 i2 i3 i4 i5 (i &&& (3 : Int32)) b76 b145 ix) [(.int ix), (.ref b76)])) rfl rfl (hb hby at_294) _ ?_
        show Steps p.tables e below (T199.setTop (mkF m 295 (own_F19 i i1 i2 i3 i4 i5 (i &&& (3 : Int32)) b76 b145 ix) [.null])) _
        refine XS.astore X199.here hx rfl (hb hby at_295) rfl rfl (l' := (own_F24 i i1 i2 i3 i4 i5 (i &&& (3 : Int32)) b76 b145 ix)) rfl ?_
        show Steps p.tables e below (T199.setTop (mkF m 297 (own_F24 i i1 i2 i3 i4 i5 (i &&& (3 : Int32)) b76 b145 ix) [])) _
        refine XS.aload X199.here hx rfl (hb hby at_297) rfl rfl ?_
        show Steps p.tables e below (T199.setTop (mkF m 299 (own_F24 i i1 i2 i3 i4 i5 (i &&& (3 : Int32)) b76 b145 ix) [(.ref b145)])) _
        refine XS.iload X199.here hx rfl (hb hby at_299) rfl ?_
        show Steps p.tables e below (T199.setTop (mkF m 301 (own_F24 i i1 i2 i3 i4 i5 (i &&& (3 : Int32)) b76 b145 ix) [(.int ix), (.ref b145)])) _
        refine X199.aaload hx (j := ix) (v := .null) (by rw [e199]; exact ArE.1) (State.isArrayOf_alike hZ.alike ArE.2.1) rfl ArE.2.2 (hiE _ gx1 gx2) hgb (g := (mkF m 301 (own_F24 i i1 i2 i3 i4 i5 (i &&& (3 : Int32)) b76 b145 ix) [(.int ix), (.ref b145)])) rfl rfl (hb hby at_301) _ ?_
        show Steps p.tables e below (T199.setTop (mkF m 302 (own_F24 i i1 i2 i3 i4 i5 (i &&& (3 : Int32)) b76 b145 ix) [.null])) _
        refine XS.astore X199.here hx rfl (hb hby at_302) rfl rfl (l' := (own_F25 i i1 i2 i3 i4 i5 (i &&& (3 : Int32)) b76 b145 ix)) rfl ?_
        show Steps p.tables e below (T199.setTop (mkF m 304 (own_F25 i i1 i2 i3 i4 i5 (i &&& (3 : Int32)) b76 b145 ix) [])) _
        refine XS.goto X199.here hx rfl (pc0 := 304) (pc' := 501) rfl (hb hby at_304) (by decide) (by decide) ?_
        show Steps p.tables e below (T199.setTop (mkF m 501 (own_F25 i i1 i2 i3 i4 i5 (i &&& (3 : Int32)) b76 b145 ix) [])) _
        refine XS.aload X199.here hx rfl (hb hby at_501) rfl rfl ?_
        show Steps p.tables e below (T199.setTop (mkF m 503 (own_F25 i i1 i2 i3 i4 i5 (i &&& (3 : Int32)) b76 b145 ix) [.null])) _
        exact k
      obtain ⟨_, _, ⟨T212, L212, k212, n212⟩, -, X212, sn212, gr212, ⟨Lc212, hQ212, l212, y212, z212, R212⟩, st212⟩ := callSS X199 hx (y := (⟨"com/example/querent/querent/translation/Aggregation", "of", "(Ljava/lang/String;)Ljava/util/Optional;"⟩ : MethodName)) hown (mvT hZ (hw _ (List.mem_of_getElem? (i := 52) rfl))) (mvT hZ (hw _ (List.mem_of_getElem? (i := 53) rfl))) (mvT hZ (hw _ (List.mem_of_getElem? (i := 35) rfl))) (mvT hZ (hw _ (List.mem_of_getElem? (i := 54) rfl))) (by decide) (backOfSH (W := 0) (rm1_null l Z a0 hw [] kv s_VALUES s_COUNT s_SUM_INTEGER s_SUM_LONG s_SUM_DOUBLE s_SUM_BIG_DECIMAL s_MIN s_MAX s_AVG s_EMPTY h199 n0 O S_s_VALUES S_s_COUNT S_s_SUM_INTEGER S_s_SUM_LONG S_s_SUM_DOUBLE S_s_SUM_BIG_DECIMAL S_s_MIN S_s_MAX S_s_AVG S_s_EMPTY o_E_s_VALUES o_V_s_VALUES o_E_s_EMPTY o_F_o_s_EMPTY o_E_s_COUNT o_F_ordinal_s_COUNT o_E_s_SUM_INTEGER o_F_ordinal_s_SUM_INTEGER o_E_s_SUM_LONG o_F_ordinal_s_SUM_LONG o_E_s_SUM_DOUBLE o_F_ordinal_s_SUM_DOUBLE o_E_s_SUM_BIG_DECIMAL o_F_ordinal_s_SUM_BIG_DECIMAL o_E_s_MIN o_F_ordinal_s_MIN o_E_s_MAX o_F_ordinal_s_MAX o_E_s_AVG o_F_ordinal_s_AVG) hZ (hw _ (List.mem_of_getElem? (i := 54) rfl)) (hw _ (List.mem_of_getElem? (i := 35) rfl)) (by decide) (by decide) hEL C.1) (g := (mkF m 503 (own_F25 i i1 i2 i3 i4 i5 (i &&& (3 : Int32)) b76 b145 ix) [.null])) rfl (by rw [hml]; rfl) (argsL := [.null]) (rest := []) (lenOf pd__40Ljava_47lang_47String_59_41Ljava_47util_47Optional_59 rfl) rfl (by show 2 * 0 + _ ≤ _; exact Nat.le_of_eq rfl) (hb hby at_503) (fun _ _ => ⟨rfl, e199, (by decide : 46 + 17 ≤ _), (by decide : 718 + 252 ≤ _)⟩)
      dsimp only [Pt.U, Pt.locs, Pt.cells, Pt.slots] at X212 l212 y212 z212 st212 hQ212 sn212 gr212 R212
      have X212 := own_un X212 l212 y212 z212
      obtain ⟨X212, hS, hZ, hown⟩ := rebS hS (by rw [e199]; exact hk) X212 sn212 gr212 hZ hown
      obtain ⟨z_212, rfl, N212q, K212, E_z_c212, F_o_z_c212⟩ := hQ212
      have N212 := Fr.app N199 N212q
      have R := R212
      have C := C.trans R
      have hk : T212.heap.size ≤ T212.heap.size := Nat.le_refl _
      have E_s_COUNT := E_s_COUNT.keep K212
      have E_s_SUM_INTEGER := E_s_SUM_INTEGER.keep K212
      have E_s_SUM_LONG := E_s_SUM_LONG.keep K212
      have E_s_SUM_DOUBLE := E_s_SUM_DOUBLE.keep K212
      have E_s_SUM_BIG_DECIMAL := E_s_SUM_BIG_DECIMAL.keep K212
      have E_s_MIN := E_s_MIN.keep K212
      have E_s_MAX := E_s_MAX.keep K212
      have E_s_AVG := E_s_AVG.keep K212
      have O := O.keep K212 all0
      obtain ⟨cq213, kq213, q213a, q213b, q213c⟩ := isOf hZ rfl E_z_c212
      obtain ⟨_, _, ⟨T213, L213, k213, n213⟩, -, X213, ⟨Lc213, hQ213, l213, y213, z213⟩, st213⟩ := X212.virtualBack hx (y := (⟨"java/util/Optional", "orElse", "(Ljava/lang/Object;)Ljava/lang/Object;"⟩ : MethodName)) (z := (⟨"java/util/Optional", "orElse", "(Ljava/lang/Object;)Ljava/lang/Object;"⟩ : MethodName)) hown (mvT hZ (hw _ (List.mem_of_getElem? (i := 109) rfl))) (mvT hZ (hw _ (List.mem_of_getElem? (i := 110) rfl))) (notFace_of_selects (args := #[]) (mvT hZ (hw _ (List.mem_of_getElem? (i := 112) rfl)))) (mvT hZ (hw _ (List.mem_of_getElem? (i := 112) rfl))) (mvT hZ (hw _ (List.mem_of_getElem? (i := 111) rfl))) (by decide) (backOf (W := 0) (rm10_n l Z a0 hw [] z_212 T212.heap n0 O F_o_z_c212) hZ (hw _ (List.mem_of_getElem? (i := 113) rfl)) (hw _ (List.mem_of_getElem? (i := 92) rfl)) (by decide) (by decide)) q213a q213c (g := (mkF m 507 (own_F25 i i1 i2 i3 i4 i5 (i &&& (3 : Int32)) b76 b145 ix) [.null, (.ref z_212)])) rfl (by rw [hml]; rfl) (Steps.refl _) (argsL := [.null]) (rest := []) (lenOf pd__40Ljava_47lang_47Object_59_41Ljava_47lang_47Object_59 rfl) rfl (by show 2 * 0 + _ ≤ _; exact Nat.le_of_eq rfl) (hb hby at_507) (fun _ _ => ⟨rfl, rfl, (by decide : 63 + 0 ≤ _), (by decide : 970 + 0 ≤ _)⟩)
      dsimp only [Pt.U, Pt.locs, Pt.cells, Pt.slots] at X213 l213 y213 z213 st213 hQ213
      have X213 := own_un X213 l213 y213 z213
      obtain ⟨rfl, N213q, eh213⟩ := hQ213
      have N213 := Fr.app N212 N213q
      have w214 : ∀ t, Steps p.tables e below (T213.setTop (mkF m 527 (own_F26 i i1 i2 i3 i4 i5 (i &&& (3 : Int32)) b145 ix) [(.int (1 : Int32))])) t → Steps p.tables e below (s₁.setTop (entryFrame m #[(.int i), (.int i1), (.int i2), (.int i3), (.int i4), (.int i5)] maxLocals)) t := fun t k => by
        refine w211 t ?_
        refine st212.trans ?_
        show Steps p.tables e below (T212.setTop (mkF m 506 (own_F25 i i1 i2 i3 i4 i5 (i &&& (3 : Int32)) b76 b145 ix) [(.ref z_212)])) _
        refine XS.aconstNull X212.here hx rfl (hb hby at_506) ?_
        show Steps p.tables e below (T212.setTop (mkF m 507 (own_F25 i i1 i2 i3 i4 i5 (i &&& (3 : Int32)) b76 b145 ix) [.null, (.ref z_212)])) _
        refine st213.trans ?_
        show Steps p.tables e below (T213.setTop (mkF m 510 (own_F25 i i1 i2 i3 i4 i5 (i &&& (3 : Int32)) b76 b145 ix) [.null])) _
        refine X213.checkcastNull hx (g := (mkF m 510 (own_F25 i i1 i2 i3 i4 i5 (i &&& (3 : Int32)) b76 b145 ix) [.null])) rfl rfl (hb hby at_510) _ ?_
        show Steps p.tables e below (T213.setTop (mkF m 513 (own_F25 i i1 i2 i3 i4 i5 (i &&& (3 : Int32)) b76 b145 ix) [.null])) _
        refine XS.astore X213.here hx rfl (hb hby at_513) rfl rfl (l' := (own_F26 i i1 i2 i3 i4 i5 (i &&& (3 : Int32)) b145 ix)) rfl ?_
        show Steps p.tables e below (T213.setTop (mkF m 515 (own_F26 i i1 i2 i3 i4 i5 (i &&& (3 : Int32)) b145 ix) [])) _
        refine XS.aload X213.here hx rfl (hb hby at_515) rfl rfl ?_
        show Steps p.tables e below (T213.setTop (mkF m 517 (own_F26 i i1 i2 i3 i4 i5 (i &&& (3 : Int32)) b145 ix) [.null])) _
        refine XS.aload X213.here hx rfl (hb hby at_517) rfl rfl ?_
        show Steps p.tables e below (T213.setTop (mkF m 519 (own_F26 i i1 i2 i3 i4 i5 (i &&& (3 : Int32)) b145 ix) [.null, .null])) _
        refine Jvm.RoadKit.acmp (g := (mkF m 519 (own_F26 i i1 i2 i3 i4 i5 (i &&& (3 : Int32)) b145 ix) [.null, .null])) X213 hx rfl rfl rfl (pc0 := 519) (pc' := 522) (same := true) rfl (hb hby at_519) rfl (decide_eq_true rfl) (by decide) (by decide) ?_
        show Steps p.tables e below (T213.setTop (mkF m 522 (own_F26 i i1 i2 i3 i4 i5 (i &&& (3 : Int32)) b145 ix) [])) _
        refine XS.iconst X213.here hx rfl (hb hby at_522) ?_
        show Steps p.tables e below (T213.setTop (mkF m 523 (own_F26 i i1 i2 i3 i4 i5 (i &&& (3 : Int32)) b145 ix) [(.int (1 : Int32))])) _
        refine XS.goto X213.here hx rfl (pc0 := 523) (pc' := 527) rfl (hb hby at_523) (by decide) (by decide) ?_
        show Steps p.tables e below (T213.setTop (mkF m 527 (own_F26 i i1 i2 i3 i4 i5 (i &&& (3 : Int32)) b145 ix) [(.int (1 : Int32))])) _
        exact k
      obtain ⟨fs, hr, hrun, hended, hE⟩ := Stand.leaveW (s := s) (vm₁ := T212.vm) X213 hS (by rw [eh213]; exact hk) (v := some (.int (1 : Int32))) (fun h => by rw [Bd.returns] at h; cases h)
      refine ⟨_, _, w214 _ ?_, hrun, hended, _, _, rfl, ?_, ?_, own_mono hE (by decide) (by decide)⟩
      · exact retN X213 hx (t := .boolean) Bd.returns (by simp) (hb hby at_527) hr
      · show Q0 Z i i1 i2 i3 i4 i5 kv zc s_VALUES s_COUNT s_SUM_INTEGER s_SUM_LONG s_SUM_DOUBLE s_SUM_BIG_DECIMAL s_MIN s_MAX s_AVG s_EMPTY h0 n0 _ T213.heap _
        rw [eh213]
        exact ⟨rfl, N213⟩
      · rw [hh]; show CHr Z consts_1 s.vm h0 T213.vm T213.heap; rw [eh213]; exact C.trans (CHv.at X213 hZ hEL C.1)
set_option maxRecDepth 65536 in
set_option maxHeartbeats 40000000 in
theorem comes_1 {Post : Tables → Env → Array Value → State → Outcome → State → Prop} (hpost : ∀ tb e args s v u, (limb_1_1.after args s (.returned v) u = true ∧ limb_1_2.after args s (.returned v) u = true ∧ True) → ReturnedEndW s (.returned v) u (Jvm.fieldLocs frame_1_writes args s ++ Jvm.arrayLocs frame_1_arrays args s ++ Jvm.staticLocs frame_1_statics s) 80 31040 → Post tb e args s (.returned v) u) :
    ArmFor flags0 classFile x code maxLocals ret World_1 tables_1 room_1 Calls_1 rest_1 Pre_1 Post := by
  intro l hfl _ _ p e ha hc hk s m args below hf hA hF happ hP
  obtain ⟨hcalls, hrest, hpre⟩ := hP
  obtain ⟨-, -, -, hnamed, -, -, -, hat⟩ := (Spec.applies_iff hf).mp happ
  obtain ⟨hg, hn⟩ := and_e (Cond.before_iff.mp (show (Jvm.Cond.and given_1 narrow_1).before args s = true from hpre))
  obtain ⟨g1, g2⟩ := and_e hg
  obtain ⟨g3, g4⟩ := and_e g2
  obtain ⟨g5, g6⟩ := and_e g4
  obtain ⟨g7, g8⟩ := and_e g6
  obtain ⟨g9, g10⟩ := and_e g8
  obtain ⟨g11, g12⟩ := and_e g10
  obtain ⟨g13, g14⟩ := and_e hn
  obtain ⟨g15, g16⟩ := and_e g14
  obtain ⟨g17, g18⟩ := and_e g16
  obtain ⟨g19, g20⟩ := and_e g18
  obtain ⟨g21, g22⟩ := and_e g20
  obtain ⟨g23, g24⟩ := and_e g22
  obtain ⟨g25, g26⟩ := and_e g24
  obtain ⟨g27, g28⟩ := and_e g26
  obtain ⟨g29, g30⟩ := and_e g28
  obtain ⟨g31, g32⟩ := and_e g30
  obtain ⟨g33, g34⟩ := and_e g32
  obtain ⟨g35, g36⟩ := and_e g34
  obtain ⟨g37, g38⟩ := and_e g36
  obtain ⟨g39, g40⟩ := and_e g38
  obtain ⟨g41, g42⟩ := and_e g40
  obtain ⟨g43, g44⟩ := and_e g42
  obtain ⟨g45, g46⟩ := and_e g44
  obtain ⟨g47, g48⟩ := and_e g46
  obtain ⟨g49, g50⟩ := and_e g48
  obtain ⟨g51, g52⟩ := and_e g50
  obtain ⟨g53, g54⟩ := and_e g52
  obtain ⟨g55, g56⟩ := and_e g54
  obtain ⟨g57, g58⟩ := and_e g56
  obtain ⟨g59, g60⟩ := and_e g58
  obtain ⟨g61, g62⟩ := and_e g60
  obtain ⟨g63, g64⟩ := and_e g62
  obtain ⟨w0, w1, w2, w3, w4, w5, rfl⟩ : ∃ w0 w1 w2 w3 w4 w5 : Value, args = #[w0, w1, w2, w3, w4, w5] := by
    have hs : args.size = 6 := by simpa [Cond.value, given_1] using g1
    obtain ⟨L⟩ := args
    match L, hs with
    | [w0, w1, w2, w3, w4, w5], _ => exact ⟨w0, w1, w2, w3, w4, w5, rfl⟩
  have hw := fun d (hd : d ∈ tables_1) => atoms_spec (ws := Jvm.Cond.code x code maxLocals ret :: tables_1) hat d (List.mem_cons_of_mem _ hd)
  have hfit : Fit s := fun {y c} hc i hi => by
    obtain ⟨ha, rfl⟩ := Array.getElem?_eq_some_iff.mp hc
    have q := List.all_eq_true.mp ((Array.all_eq_true_iff_forall_mem.mp hF) _ (Array.getElem_mem ha)) i (List.mem_range.mpr hi)
    simpa [Array.getElem?_eq_getElem hi] using q
  obtain ⟨hsets, hown0⟩ := atoms_of _ (rest_1_c_eq ▸ (show rest_1_c.before _ s = true from hrest))
  have hr0 := Cond.before_iff.mp hown0
  obtain ⟨i0, ei0⟩ := is_v g3
  obtain rfl : w0 = (.int i0) := Option.some.inj ei0
  obtain ⟨i1, ei1⟩ := is_v g5
  obtain rfl : w1 = (.int i1) := Option.some.inj ei1
  obtain ⟨i2, ei2⟩ := is_v g7
  obtain rfl : w2 = (.int i2) := Option.some.inj ei2
  obtain ⟨i3, ei3⟩ := is_v g9
  obtain rfl : w3 = (.int i3) := Option.some.inj ei3
  obtain ⟨i4, ei4⟩ := is_v g11
  obtain rfl : w4 = (.int i4) := Option.some.inj ei4
  obtain ⟨i5, ei5⟩ := is_v g12
  obtain rfl : w5 = (.int i5) := Option.some.inj ei5
  obtain ⟨zc, evc⟩ := is_v (Cond.before_iff.mp (hsets _ (List.mem_of_getElem? (i := 1) rfl)))
  have SC : Sta s s.heap "java/lang/String" "COMPACT_STRINGS" "Z" (.int zc) := Sta.start evc (Or.inl (hsets _ (List.mem_of_getElem? (i := 0) rfl)))
  have hzc : ¬ zc = 0 := gotF (Cond.eq_ints evc (Term.int_eval 0)) (not_v (Cond.before_iff.mp (hsets _ (List.mem_of_getElem? (i := 2) rfl))))
  obtain ⟨s_EMPTY, ev_E⟩ := exa_v (Cond.before_iff.mp (hsets _ (List.mem_of_getElem? (i := 11) rfl)))
  have o_E_s_EMPTY := Exa.start ev_E (Cond.before_iff.mp (hsets _ (List.mem_of_getElem? (i := 11) rfl)))
  have S_s_EMPTY : Sta s s.heap "java/util/Optional" "EMPTY" "Ljava/util/Optional;" (.ref s_EMPTY) := Sta.start ev_E (Or.inl (hsets _ (List.mem_of_getElem? (i := 10) rfl)))
  have o_F_o_s_EMPTY : Fld s s.heap s_EMPTY "java/util/Optional" "value" "Ljava/lang/Object;" .null := Fld.start (own_fld ev_E null_at (Cond.before_iff.mp (hsets _ (List.mem_of_getElem? (i := 12) rfl))))
  obtain ⟨s_COUNT, ev_s_COUNT⟩ := exa_v g13
  have S_s_COUNT : Sta s s.heap "com/example/querent/querent/translation/Aggregation" "COUNT" "Lcom/example/querent/querent/translation/Aggregation;" (.ref s_COUNT) := Sta.start ev_s_COUNT (Or.inr ⟨(hw _ (List.mem_of_getElem? (i := 35) rfl)), (hw _ (List.mem_of_getElem? (i := 36) rfl))⟩)
  have o_E_s_COUNT : Exa s s.heap s_COUNT "com/example/querent/querent/translation/Aggregation" := Exa.start ev_s_COUNT g13
  obtain ⟨s_SUM_INTEGER, ev_s_SUM_INTEGER⟩ := exa_v g15
  have S_s_SUM_INTEGER : Sta s s.heap "com/example/querent/querent/translation/Aggregation" "SUM_INTEGER" "Lcom/example/querent/querent/translation/Aggregation;" (.ref s_SUM_INTEGER) := Sta.start ev_s_SUM_INTEGER (Or.inr ⟨(hw _ (List.mem_of_getElem? (i := 35) rfl)), (hw _ (List.mem_of_getElem? (i := 39) rfl))⟩)
  have o_E_s_SUM_INTEGER : Exa s s.heap s_SUM_INTEGER "com/example/querent/querent/translation/Aggregation" := Exa.start ev_s_SUM_INTEGER g15
  obtain ⟨s_SUM_LONG, ev_s_SUM_LONG⟩ := exa_v g17
  have S_s_SUM_LONG : Sta s s.heap "com/example/querent/querent/translation/Aggregation" "SUM_LONG" "Lcom/example/querent/querent/translation/Aggregation;" (.ref s_SUM_LONG) := Sta.start ev_s_SUM_LONG (Or.inr ⟨(hw _ (List.mem_of_getElem? (i := 35) rfl)), (hw _ (List.mem_of_getElem? (i := 41) rfl))⟩)
  have o_E_s_SUM_LONG : Exa s s.heap s_SUM_LONG "com/example/querent/querent/translation/Aggregation" := Exa.start ev_s_SUM_LONG g17
  obtain ⟨s_SUM_DOUBLE, ev_s_SUM_DOUBLE⟩ := exa_v g19
  have S_s_SUM_DOUBLE : Sta s s.heap "com/example/querent/querent/translation/Aggregation" "SUM_DOUBLE" "Lcom/example/querent/querent/translation/Aggregation;" (.ref s_SUM_DOUBLE) := Sta.start ev_s_SUM_DOUBLE (Or.inr ⟨(hw _ (List.mem_of_getElem? (i := 35) rfl)), (hw _ (List.mem_of_getElem? (i := 43) rfl))⟩)
  have o_E_s_SUM_DOUBLE : Exa s s.heap s_SUM_DOUBLE "com/example/querent/querent/translation/Aggregation" := Exa.start ev_s_SUM_DOUBLE g19
  obtain ⟨s_SUM_BIG_DECIMAL, ev_s_SUM_BIG_DECIMAL⟩ := exa_v g21
  have S_s_SUM_BIG_DECIMAL : Sta s s.heap "com/example/querent/querent/translation/Aggregation" "SUM_BIG_DECIMAL" "Lcom/example/querent/querent/translation/Aggregation;" (.ref s_SUM_BIG_DECIMAL) := Sta.start ev_s_SUM_BIG_DECIMAL (Or.inr ⟨(hw _ (List.mem_of_getElem? (i := 35) rfl)), (hw _ (List.mem_of_getElem? (i := 45) rfl))⟩)
  have o_E_s_SUM_BIG_DECIMAL : Exa s s.heap s_SUM_BIG_DECIMAL "com/example/querent/querent/translation/Aggregation" := Exa.start ev_s_SUM_BIG_DECIMAL g21
  obtain ⟨s_MIN, ev_s_MIN⟩ := exa_v g23
  have S_s_MIN : Sta s s.heap "com/example/querent/querent/translation/Aggregation" "MIN" "Lcom/example/querent/querent/translation/Aggregation;" (.ref s_MIN) := Sta.start ev_s_MIN (Or.inr ⟨(hw _ (List.mem_of_getElem? (i := 35) rfl)), (hw _ (List.mem_of_getElem? (i := 47) rfl))⟩)
  have o_E_s_MIN : Exa s s.heap s_MIN "com/example/querent/querent/translation/Aggregation" := Exa.start ev_s_MIN g23
  obtain ⟨s_MAX, ev_s_MAX⟩ := exa_v g25
  have S_s_MAX : Sta s s.heap "com/example/querent/querent/translation/Aggregation" "MAX" "Lcom/example/querent/querent/translation/Aggregation;" (.ref s_MAX) := Sta.start ev_s_MAX (Or.inr ⟨(hw _ (List.mem_of_getElem? (i := 35) rfl)), (hw _ (List.mem_of_getElem? (i := 49) rfl))⟩)
  have o_E_s_MAX : Exa s s.heap s_MAX "com/example/querent/querent/translation/Aggregation" := Exa.start ev_s_MAX g25
  obtain ⟨s_AVG, ev_s_AVG⟩ := exa_v g27
  have S_s_AVG : Sta s s.heap "com/example/querent/querent/translation/Aggregation" "AVG" "Lcom/example/querent/querent/translation/Aggregation;" (.ref s_AVG) := Sta.start ev_s_AVG (Or.inr ⟨(hw _ (List.mem_of_getElem? (i := 35) rfl)), (hw _ (List.mem_of_getElem? (i := 51) rfl))⟩)
  have o_E_s_AVG : Exa s s.heap s_AVG "com/example/querent/querent/translation/Aggregation" := Exa.start ev_s_AVG g27
  obtain ⟨s_VALUES, ev_s_VALUES⟩ := arr_v g29
  have S_s_VALUES : Sta s s.heap "com/example/querent/querent/translation/Aggregation" "$VALUES" "[Lcom/example/querent/querent/translation/Aggregation;" (.ref s_VALUES) := Sta.start ev_s_VALUES (Or.inr ⟨(hw _ (List.mem_of_getElem? (i := 35) rfl)), (hw _ (List.mem_of_getElem? (i := 59) rfl))⟩)
  obtain ⟨cl_s_VALUES, A_s_VALUES⟩ := Arr.start ev_s_VALUES g29
  have o_E_s_VALUES : Exa s s.heap s_VALUES "[Lcom/example/querent/querent/translation/Aggregation;" := Exa.start ev_s_VALUES g31
  obtain ⟨u_s_VALUES, t_s_VALUES⟩ := Jvm.Free.IntBox.length_fwd (Cond.before_iff.mpr g33) ev_s_VALUES A_s_VALUES.1 A_s_VALUES.2.1 A_s_VALUES.2.2
  have o_F_ordinal_s_COUNT : Fld s s.heap s_COUNT "java/lang/Enum" "ordinal" "I" (.int (0 : Int32)) := Fld.start ((fld_at ev_s_COUNT).symm.trans (own_eqv (Term.int_eval (0)) g51))
  have o_F_ordinal_s_SUM_INTEGER : Fld s s.heap s_SUM_INTEGER "java/lang/Enum" "ordinal" "I" (.int (1 : Int32)) := Fld.start ((fld_at ev_s_SUM_INTEGER).symm.trans (own_eqv (Term.int_eval (1)) g53))
  have o_F_ordinal_s_SUM_LONG : Fld s s.heap s_SUM_LONG "java/lang/Enum" "ordinal" "I" (.int (2 : Int32)) := Fld.start ((fld_at ev_s_SUM_LONG).symm.trans (own_eqv (Term.int_eval (2)) g55))
  have o_F_ordinal_s_SUM_DOUBLE : Fld s s.heap s_SUM_DOUBLE "java/lang/Enum" "ordinal" "I" (.int (3 : Int32)) := Fld.start ((fld_at ev_s_SUM_DOUBLE).symm.trans (own_eqv (Term.int_eval (3)) g57))
  have o_F_ordinal_s_SUM_BIG_DECIMAL : Fld s s.heap s_SUM_BIG_DECIMAL "java/lang/Enum" "ordinal" "I" (.int (4 : Int32)) := Fld.start ((fld_at ev_s_SUM_BIG_DECIMAL).symm.trans (own_eqv (Term.int_eval (4)) g59))
  have o_F_ordinal_s_MIN : Fld s s.heap s_MIN "java/lang/Enum" "ordinal" "I" (.int (5 : Int32)) := Fld.start ((fld_at ev_s_MIN).symm.trans (own_eqv (Term.int_eval (5)) g61))
  have o_F_ordinal_s_MAX : Fld s s.heap s_MAX "java/lang/Enum" "ordinal" "I" (.int (6 : Int32)) := Fld.start ((fld_at ev_s_MAX).symm.trans (own_eqv (Term.int_eval (6)) g63))
  have o_F_ordinal_s_AVG : Fld s s.heap s_AVG "java/lang/Enum" "ordinal" "I" (.int (7 : Int32)) := Fld.start ((fld_at ev_s_AVG).symm.trans (own_eqv (Term.int_eval (7)) g64))
  have el_s_VALUES_0 : cl_s_VALUES.slots[0]? = some (.ref s_COUNT) := (elem_in (own_eqv ev_s_COUNT g35) ev_s_VALUES (Term.int_eval (0)) A_s_VALUES.1).2
  have el_s_VALUES_1 : cl_s_VALUES.slots[1]? = some (.ref s_SUM_INTEGER) := (elem_in (own_eqv ev_s_SUM_INTEGER g37) ev_s_VALUES (Term.int_eval (1)) A_s_VALUES.1).2
  have el_s_VALUES_2 : cl_s_VALUES.slots[2]? = some (.ref s_SUM_LONG) := (elem_in (own_eqv ev_s_SUM_LONG g39) ev_s_VALUES (Term.int_eval (2)) A_s_VALUES.1).2
  have el_s_VALUES_3 : cl_s_VALUES.slots[3]? = some (.ref s_SUM_DOUBLE) := (elem_in (own_eqv ev_s_SUM_DOUBLE g41) ev_s_VALUES (Term.int_eval (3)) A_s_VALUES.1).2
  have el_s_VALUES_4 : cl_s_VALUES.slots[4]? = some (.ref s_SUM_BIG_DECIMAL) := (elem_in (own_eqv ev_s_SUM_BIG_DECIMAL g43) ev_s_VALUES (Term.int_eval (4)) A_s_VALUES.1).2
  have el_s_VALUES_5 : cl_s_VALUES.slots[5]? = some (.ref s_MIN) := (elem_in (own_eqv ev_s_MIN g45) ev_s_VALUES (Term.int_eval (5)) A_s_VALUES.1).2
  have el_s_VALUES_6 : cl_s_VALUES.slots[6]? = some (.ref s_MAX) := (elem_in (own_eqv ev_s_MAX g47) ev_s_VALUES (Term.int_eval (6)) A_s_VALUES.1).2
  have el_s_VALUES_7 : cl_s_VALUES.slots[7]? = some (.ref s_AVG) := (elem_in (own_eqv ev_s_AVG g49) ev_s_VALUES (Term.int_eval (7)) A_s_VALUES.1).2
  obtain ⟨kv, hk_s_VALUES⟩ : ∃ k, k = cl_s_VALUES.cls := ⟨_, rfl⟩
  have o_V_s_VALUES : Arv s s.heap s_VALUES kv (Jvm.ClassFile.FieldType.object "com/example/querent/querent/translation/Aggregation") (8 : Int32) [(.ref s_COUNT), (.ref s_SUM_INTEGER), (.ref s_SUM_LONG), (.ref s_SUM_DOUBLE), (.ref s_SUM_BIG_DECIMAL), (.ref s_MIN), (.ref s_MAX), (.ref s_AVG)] .null := by rw [hk_s_VALUES]; exact Arv.start hfit A_s_VALUES u_s_VALUES t_s_VALUES (by decide) rfl ⟨el_s_VALUES_0, el_s_VALUES_1, el_s_VALUES_2, el_s_VALUES_3, el_s_VALUES_4, el_s_VALUES_5, el_s_VALUES_6, el_s_VALUES_7, trivial⟩
  have H0 : CHv s consts_1 s.vm s.heap := CHv.start (own_EW hw) hcalls.1 (hsets _ (List.mem_of_getElem? (i := 2) rfl)) (hw _ (List.mem_of_getElem? (i := 5) rfl)) (hw _ (List.mem_of_getElem? (i := 4) rfl))
  obtain ⟨n, o, h1, h2, h3, _, L, rfl, ⟨rfl, N⟩, -, hq⟩ := rm0 l s _ hw tables_1 i0 i1 i2 i3 i4 i5 kv zc s_VALUES s_COUNT s_SUM_INTEGER s_SUM_LONG s_SUM_DOUBLE s_SUM_BIG_DECIMAL s_MIN s_MAX s_AVG s_EMPTY s.heap s.heap.size (Old.start s) S_s_VALUES S_s_COUNT S_s_SUM_INTEGER S_s_SUM_LONG S_s_SUM_DOUBLE S_s_SUM_BIG_DECIMAL S_s_MIN S_s_MAX S_s_AVG S_s_EMPTY o_E_s_VALUES o_V_s_VALUES o_E_s_EMPTY o_F_o_s_EMPTY o_E_s_COUNT o_F_ordinal_s_COUNT o_E_s_SUM_INTEGER o_F_ordinal_s_SUM_INTEGER o_E_s_SUM_LONG o_F_ordinal_s_SUM_LONG o_E_s_SUM_DOUBLE o_F_ordinal_s_SUM_DOUBLE o_E_s_SUM_BIG_DECIMAL o_F_ordinal_s_SUM_BIG_DECIMAL o_E_s_MIN o_F_ordinal_s_MIN o_E_s_MAX o_F_ordinal_s_MAX o_E_s_AVG o_F_ordinal_s_AVG SC hzc p e ha hc hk s m _ below hf ((Spec.applies_iff_loose hf).mp happ).1 ⟨rfl, State.Warmed39.refl s, rfl, H0⟩ trivial
  refine ⟨n, _, h1, h2, h3, hpost _ _ _ _ _ _ ⟨Cond.after_iff.mpr rfl, Cond.after_iff.mpr (eq_i res_at (Term.int_eval (1)) rfl), trivial⟩ ⟨hq.1, hq.2.1, hq.2.2.1, (hq.2.2.2.sift fun y hy => Or.inr (N y hy)).mono (by decide) (by decide)⟩⟩
theorem main_1_1 : Claimed_1_1 := comes_1 fun _ _ _ _ _ _ h hF => ⟨h.1, hF⟩
theorem main_1_2 : Claimed_1_2 := comes_1 fun _ _ _ _ _ _ h hF => ⟨h.2.1, hF⟩
end Jvm.Pilot.@@N@@
namespace Jvm.Pilot.@@N@@
open Jvm Jvm.ClassFile Sem Op Lib Jvm.Free Jvm.Stand Jvm.Pilot.@@N@@.Jvm.D
/-! MADE BY PROGRAM (witnessworld.py) out of the Statement's table words and the real class files: 25 classes; the members and pool entries that the words name. The judged class is class 1, her method 1. -/
namespace start1
open Jvm.ClassFile
def u (s : String) : CpInfo := .utf8 (stringToUtf16 s)
/-- a pool by its gaps: so many unusable entries, then the entry; so many at the end -/
def gap : Nat → List CpInfo → List CpInfo
  | 0, r => r
  | n + 1, r => .unusable :: gap n r
def poolList (es : List (Nat × CpInfo)) (last : Nat) : List CpInfo := es.foldr (fun e r => gap e.1 (e.2 :: r)) (gap last [])
def pool (es : List (Nat × CpInfo)) (last : Nat) : Array CpInfo := ⟨poolList es last⟩
def fileOf (pool : Array CpInfo) (this : Nat) (attrs : Array Attribute := #[]) (ms : Array MethodInfo := #[]) (fl : Nat := 33) (sup : Nat := 0) (ifs : Array Nat := #[]) (fds : Array FieldInfo := #[]) : ClassFile where
  minorVersion := 0
  majorVersion := 65
  constantPool := pool
  accessFlags := fl
  thisClass := this
  superClass := sup
  interfaces := ifs
  fields := fds
  methods := ms
  attributes := attrs
def plain (name : String) (sup : Option ClassId) : Class where
  name := name
  kind := .ordinary
  loader := none
  accessFlags := 33
  super := sup
  interfaces := #[]
  cf := none
  fields := #[]
  methods := #[]
  instanceTypes := #[]
  staticTypes := #[]
  resolved := #[]
  callSites := []
  init := .initialized
  statics := none
  mirror := none

def pool0 : Array CpInfo := pool [(5, u "<init>"), (0, u "()V"), (1, .class_ 10), (1, u "java/lang/Object"), (85, u "clone"), (0, u "()Ljava/lang/Object;")] 26

def k0c0 : Code := { maxStack := 0, maxLocals := 1, code := object_method_1_code, exceptionTable := #[], attributes := #[] }
def k0m0 : Method := { name := "<init>", desc := "()V", sig := { parameters := [], returnType := none }, accessFlags := 1, code := some k0c0 }
def k0m1 : Method := { name := "clone", desc := "()Ljava/lang/Object;", sig := { parameters := [], returnType := some (.object "java/lang/Object") }, accessFlags := 260, code := none }
/-- java/lang/Object -/
def k0 : Class := { plain "java/lang/Object" none with
  accessFlags := 33
  interfaces := #[]
  cf := some (fileOf pool0 8 #[] #[{ accessFlags := 1, nameIndex := 5, descriptorIndex := 6, attributes := #[] }, { accessFlags := 260, nameIndex := 96, descriptorIndex := 97, attributes := #[] }] 33 0 #[] #[])
  fields := #[]
  methods := #[k0m0, k0m1]
  instanceTypes := #[]
  staticTypes := #[]
  resolved := Array.replicate 124 none
  statics := none }

def pool1 : Array CpInfo := pool [(2, .class_ 4), (1, u "java/lang/Object"), (0, u "<init>"), (0, u "()V"), (0, .class_ 8), (0, u "java/lang/String"), (0, .string 10), (0, u "count"), (0, .string 12), (0, u "sumInteger"), (0, .string 14), (0, u "sumLong"), (0, .string 16), (0, u "sumDouble"), (0, .string 18), (0, u "sumBigDecimal"), (0, .string 20), (0, u "min"), (0, .string 22), (0, u "max"), (0, .string 24), (0, u "avg"), (0, .string 26), (0, u "COUNT"), (0, .string 28), (0, u "Count"), (0, .string 30), (0, u "sum"), (0, .string 32), (0, u "suminteger"), (0, .string 34), (0, u "sumLong "), (0, .string 36), (0, u "sumdouble"), (0, .string 38), (0, u "SumBigDecimal"), (0, .string 40), (0, u "sumBigDecima"), (0, .string 42), (0, u "mi"), (0, .string 44), (0, u "maxx"), (0, .string 46), (0, u "AVG"), (0, .string 48), (0, u ""), (0, .string 50), (0, u "SUM_INTEGER"), (0, .string 52), (0, u "sumFloat"), (0, .class_ 54), (0, u "com/example/querent/querent/translation/Aggregation"), (0, .fieldref 53 56), (0, .nameAndType 26 57), (0, u "Lcom/example/querent/querent/translation/Aggregation;"), (0, .fieldref 53 59), (0, .nameAndType 50 57), (0, .fieldref 53 61), (0, .nameAndType 62 57), (0, u "SUM_LONG"), (0, .fieldref 53 64), (0, .nameAndType 65 57), (0, u "SUM_DOUBLE"), (0, .fieldref 53 67), (0, .nameAndType 68 57), (0, u "SUM_BIG_DECIMAL"), (0, .fieldref 53 70), (0, .nameAndType 71 57), (0, u "MIN"), (0, .fieldref 53 73), (0, .nameAndType 74 57), (0, u "MAX"), (0, .fieldref 53 76), (0, .nameAndType 46 57), (0, .methodref 7 78), (0, .nameAndType 5 79), (0, u "([C)V"), (0, .methodref 81 82), (0, .class_ 83), (0, .nameAndType 84 85), (0, u "com/example/querent/querent/translation/AggregationOfPinLaw"), (0, u "three"), (0, u "(CCC)Lcom/example/querent/querent/translation/Aggregation;"), (0, .methodref 53 87), (0, .nameAndType 88 89), (0, u "of"), (0, u "(Ljava/lang/String;)Ljava/util/Optional;"), (0, .methodref 91 92), (0, .class_ 93), (0, .nameAndType 94 95), (0, u "java/util/Optional"), (0, u "orElse"), (0, u "(Ljava/lang/Object;)Ljava/lang/Object;"), (2, u "law"), (0, u "(IIIIII)Z")] 3

def k1m0 : Method := { name := "<init>", desc := "()V", sig := { parameters := [], returnType := none }, accessFlags := 1, code := none }
def k1c1 : Code := { maxStack := 6, maxLocals := 14, code := code, exceptionTable := #[], attributes := #[] }
def k1m1 : Method := { name := "law", desc := "(IIIIII)Z", sig := { parameters := [.int, .int, .int, .int, .int, .int], returnType := some .boolean }, accessFlags := 9, code := some k1c1 }
def k1c2 : Code := { maxStack := 2, maxLocals := 3, code := method_3_code, exceptionTable := #[], attributes := #[] }
def k1m2 : Method := { name := "three", desc := "(CCC)Lcom/example/querent/querent/translation/Aggregation;", sig := { parameters := [.char, .char, .char], returnType := some (.object "com/example/querent/querent/translation/Aggregation") }, accessFlags := 10, code := some k1c2 }
/-- com/example/querent/querent/translation/AggregationOfPinLaw -/
def k1 : Class := { plain "com/example/querent/querent/translation/AggregationOfPinLaw" (some 0) with
  accessFlags := 49
  interfaces := #[]
  cf := some (fileOf pool1 81 #[] #[{ accessFlags := 1, nameIndex := 5, descriptorIndex := 6, attributes := #[] }, { accessFlags := 9, nameIndex := 98, descriptorIndex := 99, attributes := #[] }, { accessFlags := 10, nameIndex := 84, descriptorIndex := 85, attributes := #[] }] 49 2 #[] #[])
  fields := #[]
  methods := #[k1m0, k1m1, k1m2]
  instanceTypes := #[]
  staticTypes := #[]
  resolved := Array.replicate 103 none
  statics := none }

def pool2 : Array CpInfo := pool [(1, .class_ 2), (0, u "java/io/Serializable"), (0, .class_ 4), (0, u "java/lang/Object")] 2

/-- java/io/Serializable -/
def k2 : Class := { plain "java/io/Serializable" (some 0) with
  accessFlags := 1537
  interfaces := #[]
  cf := some (fileOf pool2 1 #[] #[] 1537 3 #[] #[])
  fields := #[]
  methods := #[]
  instanceTypes := #[]
  staticTypes := #[]
  resolved := Array.replicate 7 none
  statics := none }

def pool3 : Array CpInfo := pool [(1, .class_ 2), (0, u "java/lang/Comparable"), (0, .class_ 4), (0, u "java/lang/Object")] 7

/-- java/lang/Comparable -/
def k3 : Class := { plain "java/lang/Comparable" (some 0) with
  accessFlags := 1537
  interfaces := #[]
  cf := some (fileOf pool3 1 #[] #[] 1537 3 #[] #[])
  fields := #[]
  methods := #[]
  instanceTypes := #[]
  staticTypes := #[]
  resolved := Array.replicate 12 none
  statics := none }

def pool4 : Array CpInfo := pool [(2, .class_ 4), (1, u "java/lang/CharSequence"), (42, .class_ 48), (0, u "java/lang/CharSequence$1CodePointIterator"), (10, .class_ 60), (0, u "java/lang/CharSequence$1CharIterator"), (5, .class_ 67), (0, u "java/lang/Object")] 63

/-- java/lang/CharSequence -/
def k4 : Class := { plain "java/lang/CharSequence" (some 0) with
  accessFlags := 1537
  interfaces := #[]
  cf := some (fileOf pool4 2 #[.nestMembers #[47, 59]] #[] 1537 66 #[] #[])
  fields := #[]
  methods := #[]
  instanceTypes := #[]
  staticTypes := #[]
  resolved := Array.replicate 131 none
  statics := none }

def pool5 : Array CpInfo := pool [(1, .class_ 2), (0, u "java/lang/constant/Constable"), (0, .class_ 4), (0, u "java/lang/Object")] 6

/-- java/lang/constant/Constable -/
def k5 : Class := { plain "java/lang/constant/Constable" (some 0) with
  accessFlags := 1537
  interfaces := #[]
  cf := some (fileOf pool5 1 #[] #[] 1537 3 #[] #[])
  fields := #[]
  methods := #[]
  instanceTypes := #[]
  staticTypes := #[]
  resolved := Array.replicate 11 none
  statics := none }

def pool6 : Array CpInfo := pool [(1, .class_ 2), (0, u "java/lang/constant/ConstantDesc"), (0, .class_ 4), (0, u "java/lang/Object")] 32

/-- java/lang/constant/ConstantDesc -/
def k6 : Class := { plain "java/lang/constant/ConstantDesc" (some 0) with
  accessFlags := 1537
  interfaces := #[]
  cf := some (fileOf pool6 1 #[] #[] 1537 3 #[] #[])
  fields := #[]
  methods := #[]
  instanceTypes := #[]
  staticTypes := #[]
  resolved := Array.replicate 37 none
  statics := none }

def pool7 : Array CpInfo := pool [(1, .methodref 2 3), (0, .class_ 4), (0, .nameAndType 5 6), (0, u "java/lang/Object"), (0, u "<init>"), (0, u "()V"), (2, .fieldref 10 11), (0, .class_ 12), (0, .nameAndType 13 14), (0, u "java/lang/String"), (0, u "value"), (0, u "[B"), (0, .fieldref 10 16), (0, .nameAndType 17 18), (0, u "coder"), (0, u "B"), (2, u "hash"), (0, u "I"), (2, u "hashIsZero"), (0, u "Z"), (0, .methodref 10 28), (0, .nameAndType 5 29), (0, u "([CIILjava/lang/Void;)V"), (8, .fieldref 10 39), (0, .nameAndType 40 26), (0, u "COMPACT_STRINGS"), (1, .class_ 44), (1, u "java/lang/StringUTF16"), (0, u "compress"), (1, .methodref 42 48), (0, .nameAndType 49 50), (0, u "coderFromArrayLen"), (0, u "([BI)B"), (56, .class_ 109), (1, u "java/lang/StringLatin1"), (67, .methodref 42 178), (0, .nameAndType 45 179), (0, u "([CII)[B"), (361, .methodref 107 542), (0, .nameAndType 543 544), (0, u "equals"), (0, u "([B[B)Z"), (28, u "(Ljava/lang/Object;)Z"), (1, .class_ 576), (0, u "java/lang/CharSequence"), (22, u "CASE_INSENSITIVE_ORDER"), (0, u "Ljava/util/Comparator;"), (409, u "([C)V"), (90, u "serialPersistentFields"), (0, u "[Ljava/io/ObjectStreamField;"), (0, .class_ 1104), (0, u "java/lang/String$CaseInsensitiveComparator"), (1, .class_ 1107), (0, u "java/io/Serializable"), (0, .class_ 1109), (0, u "java/lang/Comparable"), (0, .class_ 1111), (0, u "java/lang/constant/Constable"), (0, .class_ 1113), (0, u "java/lang/constant/ConstantDesc"), (2, u "serialVersionUID"), (0, u "J"), (3, u "REPL"), (0, u "C"), (2, u "LATIN1"), (1, u "UTF16")] 323

def k7m0 : Method := { name := "<init>", desc := "()V", sig := { parameters := [], returnType := none }, accessFlags := 1, code := none }
def k7c1 : Code := { maxStack := 5, maxLocals := 2, code := jdk_42_method_3_code, exceptionTable := #[], attributes := #[] }
def k7m1 : Method := { name := "<init>", desc := "([C)V", sig := { parameters := [(.array .char)], returnType := none }, accessFlags := 1, code := some k7c1 }
def k7c2 : Code := { maxStack := 2, maxLocals := 3, code := jdk_42_method_66_code, exceptionTable := #[], attributes := #[] }
def k7m2 : Method := { name := "equals", desc := "(Ljava/lang/Object;)Z", sig := { parameters := [(.object "java/lang/Object")], returnType := some .boolean }, accessFlags := 1, code := some k7c2 }
def k7c3 : Code := { maxStack := 4, maxLocals := 6, code := jdk_42_method_149_code, exceptionTable := #[], attributes := #[] }
def k7m3 : Method := { name := "<init>", desc := "([CIILjava/lang/Void;)V", sig := { parameters := [(.array .char), .int, .int, (.object "java/lang/Void")], returnType := none }, accessFlags := 2, code := some k7c3 }
/-- java/lang/String -/
def k7 : Class := { plain "java/lang/String" (some 0) with
  accessFlags := 49
  interfaces := #[2, 3, 4, 5, 6]
  cf := some (fileOf pool7 10 #[.nestMembers #[1103]] #[{ accessFlags := 1, nameIndex := 5, descriptorIndex := 6, attributes := #[] }, { accessFlags := 1, nameIndex := 5, descriptorIndex := 1010, attributes := #[] }, { accessFlags := 1, nameIndex := 543, descriptorIndex := 573, attributes := #[] }, { accessFlags := 2, nameIndex := 5, descriptorIndex := 29, attributes := #[] }] 49 2 #[1106, 1108, 575, 1110, 1112] #[{ accessFlags := 18, nameIndex := 13, descriptorIndex := 14, attributes := #[] }, { accessFlags := 18, nameIndex := 17, descriptorIndex := 18, attributes := #[] }, { accessFlags := 2, nameIndex := 21, descriptorIndex := 22, attributes := #[] }, { accessFlags := 2, nameIndex := 25, descriptorIndex := 26, attributes := #[] }, { accessFlags := 26, nameIndex := 1116, descriptorIndex := 1117, attributes := #[] }, { accessFlags := 24, nameIndex := 40, descriptorIndex := 26, attributes := #[] }, { accessFlags := 26, nameIndex := 1101, descriptorIndex := 1102, attributes := #[] }, { accessFlags := 26, nameIndex := 1121, descriptorIndex := 1122, attributes := #[] }, { accessFlags := 25, nameIndex := 599, descriptorIndex := 600, attributes := #[] }, { accessFlags := 24, nameIndex := 1125, descriptorIndex := 18, attributes := #[] }, { accessFlags := 24, nameIndex := 1127, descriptorIndex := 18, attributes := #[] }])
  fields := #[{ name := "value", type := (.array .byte), accessFlags := 18, slot := 0, constantValue := 0 }, { name := "coder", type := .byte, accessFlags := 18, slot := 1, constantValue := 0 }, { name := "hash", type := .int, accessFlags := 2, slot := 2, constantValue := 0 }, { name := "hashIsZero", type := .boolean, accessFlags := 2, slot := 3, constantValue := 0 }, { name := "serialVersionUID", type := .long, accessFlags := 26, slot := 0, constantValue := 0 }, { name := "COMPACT_STRINGS", type := .boolean, accessFlags := 24, slot := 1, constantValue := 0 }, { name := "serialPersistentFields", type := (.array (.object "java/io/ObjectStreamField")), accessFlags := 26, slot := 2, constantValue := 0 }, { name := "REPL", type := .char, accessFlags := 26, slot := 3, constantValue := 0 }, { name := "CASE_INSENSITIVE_ORDER", type := (.object "java/util/Comparator"), accessFlags := 25, slot := 4, constantValue := 0 }, { name := "LATIN1", type := .byte, accessFlags := 24, slot := 5, constantValue := 0 }, { name := "UTF16", type := .byte, accessFlags := 24, slot := 6, constantValue := 0 }]
  methods := #[k7m0, k7m1, k7m2, k7m3]
  instanceTypes := #[(.array .byte), .byte, .int, .boolean]
  staticTypes := #[.long, .boolean, (.array (.object "java/io/ObjectStreamField")), .char, (.object "java/util/Comparator"), .byte, .byte]
  resolved := Array.replicate 1451 none
  statics := some 0 }

def pool8 : Array CpInfo := pool [(2, .class_ 4), (1, u "java/lang/Enum"), (0, u "name"), (0, u "Ljava/lang/String;"), (0, .fieldref 2 8), (0, .nameAndType 9 10), (0, u "ordinal"), (0, u "I"), (1, .class_ 14), (1, u "java/lang/Object"), (4, u "hash"), (86, .class_ 108), (1, u "java/lang/Enum$EnumDesc"), (2, .class_ 112), (0, u "java/lang/constant/Constable"), (0, .class_ 114), (0, u "java/lang/Comparable"), (0, .class_ 116), (0, u "java/io/Serializable"), (9, u "()I")] 77

def k8c0 : Code := { maxStack := 1, maxLocals := 1, code := jdk_37_method_2_code, exceptionTable := #[], attributes := #[] }
def k8m0 : Method := { name := "ordinal", desc := "()I", sig := { parameters := [], returnType := some .int }, accessFlags := 17, code := some k8c0 }
/-- java/lang/Enum -/
def k8 : Class := { plain "java/lang/Enum" (some 0) with
  accessFlags := 1057
  interfaces := #[5, 3, 2]
  cf := some (fileOf pool8 2 #[.nestMembers #[106]] #[{ accessFlags := 17, nameIndex := 9, descriptorIndex := 126, attributes := #[] }] 1057 12 #[111, 113, 115] #[{ accessFlags := 18, nameIndex := 5, descriptorIndex := 6, attributes := #[] }, { accessFlags := 18, nameIndex := 9, descriptorIndex := 10, attributes := #[] }, { accessFlags := 2, nameIndex := 19, descriptorIndex := 10, attributes := #[] }])
  fields := #[{ name := "name", type := (.object "java/lang/String"), accessFlags := 18, slot := 0, constantValue := 0 }, { name := "ordinal", type := .int, accessFlags := 18, slot := 1, constantValue := 0 }, { name := "hash", type := .int, accessFlags := 2, slot := 2, constantValue := 0 }]
  methods := #[k8m0]
  instanceTypes := #[(.object "java/lang/String"), .int, .int]
  staticTypes := #[]
  resolved := Array.replicate 204 none
  statics := none }

def pool9 : Array CpInfo := pool [(1, .class_ 2), (0, u "com/example/querent/querent/translation/Aggregation"), (2, u "COUNT"), (0, u "Lcom/example/querent/querent/translation/Aggregation;"), (2, u "SUM_INTEGER"), (2, u "SUM_LONG"), (2, u "SUM_DOUBLE"), (2, u "SUM_BIG_DECIMAL"), (2, u "MIN"), (2, u "MAX"), (2, u "AVG"), (0, .fieldref 1 29), (0, .nameAndType 30 31), (0, u "$VALUES"), (0, u "[Lcom/example/querent/querent/translation/Aggregation;"), (0, .methodref 33 34), (0, .class_ 31), (0, .nameAndType 35 36), (0, u "clone"), (0, u "()Ljava/lang/Object;"), (1, .class_ 40), (1, u "java/lang/Enum"), (6, .methodref 1 48), (0, .nameAndType 49 50), (0, u "values"), (0, u "()[Lcom/example/querent/querent/translation/Aggregation;"), (0, .methodref 1 52), (0, .nameAndType 53 54), (0, u "operation"), (0, u "()Ljava/lang/String;"), (0, .methodref 56 57), (0, .class_ 58), (0, .nameAndType 59 60), (0, u "java/lang/String"), (0, u "equals"), (0, u "(Ljava/lang/Object;)Z"), (0, .methodref 62 63), (0, .class_ 64), (0, .nameAndType 65 66), (0, u "java/util/Optional"), (0, u "of"), (0, u "(Ljava/lang/Object;)Ljava/util/Optional;"), (0, .methodref 62 68), (0, .nameAndType 69 70), (0, u "empty"), (0, u "()Ljava/util/Optional;"), (0, .methodref 1 72), (0, .nameAndType 73 74), (0, u "ordinal"), (0, u "()I"), (5, .string 81), (0, u "count"), (0, .string 83), (0, u "sumInteger"), (0, .string 85), (0, u "sumLong"), (0, .string 87), (0, u "sumDouble"), (0, .string 89), (0, u "sumBigDecimal"), (0, .string 91), (0, u "min"), (0, .string 93), (0, u "max"), (0, .string 95), (0, u "avg"), (56, u "(Ljava/lang/String;)Ljava/util/Optional;")] 39

def k9c0 : Code := { maxStack := 1, maxLocals := 0, code := prog_1_method_1_code, exceptionTable := #[], attributes := #[] }
def k9m0 : Method := { name := "values", desc := "()[Lcom/example/querent/querent/translation/Aggregation;", sig := { parameters := [], returnType := some (.array (.object "com/example/querent/querent/translation/Aggregation")) }, accessFlags := 9, code := some k9c0 }
def k9c1 : Code := { maxStack := 2, maxLocals := 5, code := prog_1_method_4_code, exceptionTable := #[], attributes := #[] }
def k9m1 : Method := { name := "of", desc := "(Ljava/lang/String;)Ljava/util/Optional;", sig := { parameters := [(.object "java/lang/String")], returnType := some (.object "java/util/Optional") }, accessFlags := 8, code := some k9c1 }
def k9c2 : Code := { maxStack := 4, maxLocals := 1, code := prog_1_method_5_code, exceptionTable := #[], attributes := #[] }
def k9m2 : Method := { name := "operation", desc := "()Ljava/lang/String;", sig := { parameters := [], returnType := some (.object "java/lang/String") }, accessFlags := 1, code := some k9c2 }
/-- com/example/querent/querent/translation/Aggregation -/
def k9 : Class := { plain "com/example/querent/querent/translation/Aggregation" (some 8) with
  accessFlags := 16433
  interfaces := #[]
  cf := some (fileOf pool9 1 #[] #[{ accessFlags := 9, nameIndex := 49, descriptorIndex := 50, attributes := #[] }, { accessFlags := 8, nameIndex := 65, descriptorIndex := 152, attributes := #[] }, { accessFlags := 1, nameIndex := 53, descriptorIndex := 54, attributes := #[] }] 16433 38 #[] #[{ accessFlags := 16409, nameIndex := 5, descriptorIndex := 6, attributes := #[] }, { accessFlags := 16409, nameIndex := 9, descriptorIndex := 6, attributes := #[] }, { accessFlags := 16409, nameIndex := 12, descriptorIndex := 6, attributes := #[] }, { accessFlags := 16409, nameIndex := 15, descriptorIndex := 6, attributes := #[] }, { accessFlags := 16409, nameIndex := 18, descriptorIndex := 6, attributes := #[] }, { accessFlags := 16409, nameIndex := 21, descriptorIndex := 6, attributes := #[] }, { accessFlags := 16409, nameIndex := 24, descriptorIndex := 6, attributes := #[] }, { accessFlags := 16409, nameIndex := 27, descriptorIndex := 6, attributes := #[] }, { accessFlags := 4122, nameIndex := 30, descriptorIndex := 31, attributes := #[] }])
  fields := #[{ name := "COUNT", type := (.object "com/example/querent/querent/translation/Aggregation"), accessFlags := 16409, slot := 0, constantValue := 0 }, { name := "SUM_INTEGER", type := (.object "com/example/querent/querent/translation/Aggregation"), accessFlags := 16409, slot := 1, constantValue := 0 }, { name := "SUM_LONG", type := (.object "com/example/querent/querent/translation/Aggregation"), accessFlags := 16409, slot := 2, constantValue := 0 }, { name := "SUM_DOUBLE", type := (.object "com/example/querent/querent/translation/Aggregation"), accessFlags := 16409, slot := 3, constantValue := 0 }, { name := "SUM_BIG_DECIMAL", type := (.object "com/example/querent/querent/translation/Aggregation"), accessFlags := 16409, slot := 4, constantValue := 0 }, { name := "MIN", type := (.object "com/example/querent/querent/translation/Aggregation"), accessFlags := 16409, slot := 5, constantValue := 0 }, { name := "MAX", type := (.object "com/example/querent/querent/translation/Aggregation"), accessFlags := 16409, slot := 6, constantValue := 0 }, { name := "AVG", type := (.object "com/example/querent/querent/translation/Aggregation"), accessFlags := 16409, slot := 7, constantValue := 0 }, { name := "$VALUES", type := (.array (.object "com/example/querent/querent/translation/Aggregation")), accessFlags := 4122, slot := 8, constantValue := 0 }]
  methods := #[k9m0, k9m1, k9m2]
  instanceTypes := #[(.object "java/lang/String"), .int, .int]
  staticTypes := #[(.object "com/example/querent/querent/translation/Aggregation"), (.object "com/example/querent/querent/translation/Aggregation"), (.object "com/example/querent/querent/translation/Aggregation"), (.object "com/example/querent/querent/translation/Aggregation"), (.object "com/example/querent/querent/translation/Aggregation"), (.object "com/example/querent/querent/translation/Aggregation"), (.object "com/example/querent/querent/translation/Aggregation"), (.object "com/example/querent/querent/translation/Aggregation"), (.array (.object "com/example/querent/querent/translation/Aggregation"))]
  resolved := Array.replicate 192 none
  statics := some 1 }

def pool10 : Array CpInfo := pool [(1, .class_ 2), (0, u "java/lang/Cloneable"), (0, .class_ 4), (0, u "java/lang/Object")] 2

/-- java/lang/Cloneable -/
def k10 : Class := { plain "java/lang/Cloneable" (some 0) with
  accessFlags := 1537
  interfaces := #[]
  cf := some (fileOf pool10 1 #[] #[] 1537 3 #[] #[])
  fields := #[]
  methods := #[]
  instanceTypes := #[]
  staticTypes := #[]
  resolved := Array.replicate 7 none
  statics := none }

def pool11 : Array CpInfo := pool [(1, .fieldref 2 3), (0, .class_ 4), (0, .nameAndType 5 6), (0, u "java/util/Optional"), (0, u "EMPTY"), (0, u "Ljava/util/Optional;"), (0, .methodref 8 9), (0, .class_ 10), (0, .nameAndType 11 12), (0, u "java/lang/Object"), (0, u "<init>"), (0, u "()V"), (0, .fieldref 2 14), (0, .nameAndType 15 16), (0, u "value"), (0, u "Ljava/lang/Object;"), (0, .methodref 18 19), (0, .class_ 20), (0, .nameAndType 21 22), (0, u "java/util/Objects"), (0, u "requireNonNull"), (0, u "(Ljava/lang/Object;)Ljava/lang/Object;"), (0, .methodref 2 24), (0, .nameAndType 11 25), (0, u "(Ljava/lang/Object;)V"), (29, u "empty"), (0, u "()Ljava/util/Optional;"), (8, u "(Ljava/lang/Object;)Ljava/util/Optional;"), (16, u "of"), (82, u "orElse")] 21

def k11c0 : Code := { maxStack := 1, maxLocals := 1, code := jdk_32_method_1_code, exceptionTable := #[], attributes := #[] }
def k11m0 : Method := { name := "empty", desc := "()Ljava/util/Optional;", sig := { parameters := [], returnType := some (.object "java/util/Optional") }, accessFlags := 9, code := some k11c0 }
def k11c1 : Code := { maxStack := 2, maxLocals := 2, code := jdk_32_method_2_code, exceptionTable := #[], attributes := #[] }
def k11m1 : Method := { name := "<init>", desc := "(Ljava/lang/Object;)V", sig := { parameters := [(.object "java/lang/Object")], returnType := none }, accessFlags := 2, code := some k11c1 }
def k11c2 : Code := { maxStack := 3, maxLocals := 1, code := jdk_32_method_3_code, exceptionTable := #[], attributes := #[] }
def k11m2 : Method := { name := "of", desc := "(Ljava/lang/Object;)Ljava/util/Optional;", sig := { parameters := [(.object "java/lang/Object")], returnType := some (.object "java/util/Optional") }, accessFlags := 9, code := some k11c2 }
def k11c3 : Code := { maxStack := 1, maxLocals := 2, code := jdk_32_method_15_code, exceptionTable := #[], attributes := #[] }
def k11m3 : Method := { name := "orElse", desc := "(Ljava/lang/Object;)Ljava/lang/Object;", sig := { parameters := [(.object "java/lang/Object")], returnType := some (.object "java/lang/Object") }, accessFlags := 1, code := some k11c3 }
/-- java/util/Optional -/
def k11 : Class := { plain "java/util/Optional" (some 0) with
  accessFlags := 49
  interfaces := #[]
  cf := some (fileOf pool11 2 #[] #[{ accessFlags := 9, nameIndex := 55, descriptorIndex := 56, attributes := #[] }, { accessFlags := 2, nameIndex := 11, descriptorIndex := 25, attributes := #[] }, { accessFlags := 9, nameIndex := 82, descriptorIndex := 65, attributes := #[] }, { accessFlags := 1, nameIndex := 165, descriptorIndex := 22, attributes := #[] }] 49 8 #[] #[{ accessFlags := 26, nameIndex := 5, descriptorIndex := 6, attributes := #[] }, { accessFlags := 18, nameIndex := 15, descriptorIndex := 16, attributes := #[] }])
  fields := #[{ name := "EMPTY", type := (.object "java/util/Optional"), accessFlags := 26, slot := 0, constantValue := 0 }, { name := "value", type := (.object "java/lang/Object"), accessFlags := 18, slot := 0, constantValue := 0 }]
  methods := #[k11m0, k11m1, k11m2, k11m3]
  instanceTypes := #[(.object "java/lang/Object")]
  staticTypes := #[(.object "java/util/Optional")]
  resolved := Array.replicate 187 none
  statics := some 2 }

def pool12 : Array CpInfo := pool [(2, .class_ 4), (1, u "java/lang/Object"), (0, u "<init>"), (0, u "()V"), (35, .class_ 44), (1, u "java/util/Objects"), (0, u "requireNonNull"), (0, u "(Ljava/lang/Object;)Ljava/lang/Object;")] 137

def k12m0 : Method := { name := "<init>", desc := "()V", sig := { parameters := [], returnType := none }, accessFlags := 2, code := none }
def k12c1 : Code := { maxStack := 2, maxLocals := 1, code := jdk_31_method_10_code, exceptionTable := #[], attributes := #[] }
def k12m1 : Method := { name := "requireNonNull", desc := "(Ljava/lang/Object;)Ljava/lang/Object;", sig := { parameters := [(.object "java/lang/Object")], returnType := some (.object "java/lang/Object") }, accessFlags := 9, code := some k12c1 }
/-- java/util/Objects -/
def k12 : Class := { plain "java/util/Objects" (some 0) with
  accessFlags := 49
  interfaces := #[]
  cf := some (fileOf pool12 42 #[] #[{ accessFlags := 2, nameIndex := 5, descriptorIndex := 6, attributes := #[] }, { accessFlags := 9, nameIndex := 45, descriptorIndex := 46, attributes := #[] }] 49 2 #[] #[])
  fields := #[]
  methods := #[k12m0, k12m1]
  instanceTypes := #[]
  staticTypes := #[]
  resolved := Array.replicate 184 none
  statics := none }

def pool13 : Array CpInfo := pool [(4, .class_ 6), (1, u "java/lang/Object"), (0, u "<init>"), (0, u "()V"), (5, .class_ 16), (1, u "java/lang/StringLatin1"), (104, u "$assertionsDisabled"), (0, u "Z"), (98, .class_ 223), (1, u "java/lang/StringLatin1$LinesSpliterator"), (57, u "equals"), (0, u "([B[B)Z"), (107, .class_ 391), (0, u "java/lang/StringLatin1$CharsSpliterator")] 3

def k13m0 : Method := { name := "<init>", desc := "()V", sig := { parameters := [], returnType := none }, accessFlags := 0, code := none }
def k13c1 : Code := { maxStack := 3, maxLocals := 3, code := jdk_43_method_13_code, exceptionTable := #[], attributes := #[] }
def k13m1 : Method := { name := "equals", desc := "([B[B)Z", sig := { parameters := [(.array .byte), (.array .byte)], returnType := some .boolean }, accessFlags := 9, code := some k13c1 }
/-- java/lang/StringLatin1 -/
def k13 : Class := { plain "java/lang/StringLatin1" (some 0) with
  accessFlags := 48
  interfaces := #[]
  cf := some (fileOf pool13 14 #[.nestMembers #[390, 221]] #[{ accessFlags := 0, nameIndex := 7, descriptorIndex := 8, attributes := #[] }, { accessFlags := 9, nameIndex := 281, descriptorIndex := 282, attributes := #[] }] 48 4 #[] #[{ accessFlags := 4120, nameIndex := 121, descriptorIndex := 122, attributes := #[] }])
  fields := #[{ name := "$assertionsDisabled", type := .boolean, accessFlags := 4120, slot := 0, constantValue := 0 }]
  methods := #[k13m0, k13m1]
  instanceTypes := #[]
  staticTypes := #[.boolean]
  resolved := Array.replicate 395 none
  statics := none }

def pool14 : Array CpInfo := pool [(6, .class_ 8), (1, u "java/lang/Object"), (0, u "<init>"), (0, u "()V"), (1, .class_ 14), (1, u "java/lang/StringUTF16"), (31, u "$assertionsDisabled"), (0, u "Z"), (13, u "HI_BYTE_SHIFT"), (0, u "I"), (2, u "LO_BYTE_SHIFT"), (49, .methodref 12 116), (0, .nameAndType 117 118), (0, u "compress"), (0, u "([CI[BII)I"), (3, u "([CII)[B"), (138, u "coderFromArrayLen"), (0, u "([BI)B"), (106, .class_ 371), (1, u "java/lang/StringUTF16$LinesSpliterator"), (58, u "MAX_LENGTH"), (196, .class_ 628), (0, u "java/lang/StringUTF16$CodePointsSpliterator"), (0, .class_ 630), (0, u "java/lang/StringUTF16$CharsSpliterator")] 4

def k14m0 : Method := { name := "<init>", desc := "()V", sig := { parameters := [], returnType := none }, accessFlags := 0, code := none }
def k14c1 : Code := { maxStack := 2, maxLocals := 2, code := jdk_52_method_15_code, exceptionTable := #[], attributes := #[] }
def k14m1 : Method := { name := "coderFromArrayLen", desc := "([BI)B", sig := { parameters := [(.array .byte), .int], returnType := some .byte }, accessFlags := 8, code := some k14c1 }
def k14c2 : Code := { maxStack := 5, maxLocals := 6, code := jdk_52_method_16_code, exceptionTable := #[], attributes := #[] }
def k14m2 : Method := { name := "compress", desc := "([CII)[B", sig := { parameters := [(.array .char), .int, .int], returnType := some (.array .byte) }, accessFlags := 9, code := some k14c2 }
def k14c3 : Code := { maxStack := 3, maxLocals := 7, code := jdk_52_method_21_code, exceptionTable := #[], attributes := #[] }
def k14m3 : Method := { name := "compress", desc := "([CI[BII)I", sig := { parameters := [(.array .char), .int, (.array .byte), .int, .int], returnType := some .int }, accessFlags := 9, code := some k14c3 }
/-- java/lang/StringUTF16 -/
def k14 : Class := { plain "java/lang/StringUTF16" (some 0) with
  accessFlags := 48
  interfaces := #[]
  cf := some (fileOf pool14 12 #[.nestMembers #[627, 629, 369]] #[{ accessFlags := 0, nameIndex := 9, descriptorIndex := 10, attributes := #[] }, { accessFlags := 8, nameIndex := 261, descriptorIndex := 262, attributes := #[] }, { accessFlags := 9, nameIndex := 117, descriptorIndex := 122, attributes := #[] }, { accessFlags := 9, nameIndex := 117, descriptorIndex := 118, attributes := #[] }] 48 6 #[] #[{ accessFlags := 26, nameIndex := 61, descriptorIndex := 62, attributes := #[] }, { accessFlags := 26, nameIndex := 65, descriptorIndex := 62, attributes := #[] }, { accessFlags := 24, nameIndex := 430, descriptorIndex := 62, attributes := #[] }, { accessFlags := 4120, nameIndex := 46, descriptorIndex := 47, attributes := #[] }])
  fields := #[{ name := "HI_BYTE_SHIFT", type := .int, accessFlags := 26, slot := 0, constantValue := 0 }, { name := "LO_BYTE_SHIFT", type := .int, accessFlags := 26, slot := 1, constantValue := 0 }, { name := "MAX_LENGTH", type := .int, accessFlags := 24, slot := 2, constantValue := 0 }, { name := "$assertionsDisabled", type := .boolean, accessFlags := 4120, slot := 3, constantValue := 0 }]
  methods := #[k14m0, k14m1, k14m2, k14m3]
  instanceTypes := #[]
  staticTypes := #[.int, .int, .int, .boolean]
  resolved := Array.replicate 635 none
  statics := none }

def pool15 : Array CpInfo := pool [(2, .class_ 4), (1, u "java/lang/Object"), (0, u "<init>"), (0, u "()V"), (17, .class_ 26), (1, u "jdk/internal/util/Preconditions"), (28, .class_ 56), (0, u "jdk/internal/util/Preconditions$4"), (57, .class_ 115), (0, u "jdk/internal/util/Preconditions$1"), (7, u "SIOOBE_FORMATTER"), (0, u "Ljava/util/function/BiFunction;"), (0, .class_ 126), (0, u "jdk/internal/util/Preconditions$2"), (3, u "AIOOBE_FORMATTER"), (0, .class_ 132), (0, u "jdk/internal/util/Preconditions$3"), (3, u "IOOBE_FORMATTER")] 57

def k15m0 : Method := { name := "<init>", desc := "()V", sig := { parameters := [], returnType := none }, accessFlags := 1, code := none }
/-- jdk/internal/util/Preconditions -/
def k15 : Class := { plain "jdk/internal/util/Preconditions" (some 0) with
  accessFlags := 33
  interfaces := #[]
  cf := some (fileOf pool15 24 #[.nestMembers #[55, 131, 125, 114]] #[{ accessFlags := 1, nameIndex := 5, descriptorIndex := 6, attributes := #[] }] 33 2 #[] #[{ accessFlags := 25, nameIndex := 123, descriptorIndex := 124, attributes := #[] }, { accessFlags := 25, nameIndex := 130, descriptorIndex := 124, attributes := #[] }, { accessFlags := 25, nameIndex := 136, descriptorIndex := 124, attributes := #[] }])
  fields := #[{ name := "SIOOBE_FORMATTER", type := (.object "java/util/function/BiFunction"), accessFlags := 25, slot := 0, constantValue := 0 }, { name := "AIOOBE_FORMATTER", type := (.object "java/util/function/BiFunction"), accessFlags := 25, slot := 1, constantValue := 0 }, { name := "IOOBE_FORMATTER", type := (.object "java/util/function/BiFunction"), accessFlags := 25, slot := 2, constantValue := 0 }]
  methods := #[k15m0]
  instanceTypes := #[]
  staticTypes := #[(.object "java/util/function/BiFunction"), (.object "java/util/function/BiFunction"), (.object "java/util/function/BiFunction")]
  resolved := Array.replicate 194 none
  statics := some 3 }

def pool16 : Array CpInfo := pool [(9, u "<init>"), (6, .class_ 18), (1, u "java/lang/Object"), (0, u "()V"), (1, .class_ 23), (1, u "jdk/internal/util/ArraysSupport"), (0, u "LOG2_ARRAY_LONG_INDEX_SCALE"), (0, u "I"), (2, u "U"), (0, u "Ljdk/internal/misc/Unsafe;"), (8, u "BIG_ENDIAN"), (0, u "Z"), (8, u "LOG2_BYTE_BIT_SIZE"), (4, u "LOG2_ARRAY_INT_INDEX_SCALE"), (54, u "JLA"), (0, u "Ljdk/internal/access/JavaLangAccess;"), (11, u "LOG2_ARRAY_BOOLEAN_INDEX_SCALE"), (9, u "LOG2_ARRAY_BYTE_INDEX_SCALE"), (5, u "LOG2_ARRAY_CHAR_INDEX_SCALE"), (5, u "LOG2_ARRAY_SHORT_INDEX_SCALE"), (18, u "LOG2_ARRAY_FLOAT_INDEX_SCALE"), (24, u "LOG2_ARRAY_DOUBLE_INDEX_SCALE"), (89, u "T_BOOLEAN"), (2, u "T_CHAR"), (1, u "T_FLOAT"), (1, u "T_DOUBLE"), (1, u "T_BYTE"), (1, u "T_SHORT"), (1, u "T_INT"), (1, u "T_LONG"), (1, u "SOFT_MAX_ARRAY_LENGTH")] 83

def k16m0 : Method := { name := "<init>", desc := "()V", sig := { parameters := [], returnType := none }, accessFlags := 2, code := none }
/-- jdk/internal/util/ArraysSupport -/
def k16 : Class := { plain "jdk/internal/util/ArraysSupport" (some 0) with
  accessFlags := 33
  interfaces := #[]
  cf := some (fileOf pool16 21 #[] #[{ accessFlags := 2, nameIndex := 9, descriptorIndex := 19, attributes := #[] }] 33 16 #[] #[{ accessFlags := 24, nameIndex := 28, descriptorIndex := 29, attributes := #[] }, { accessFlags := 26, nameIndex := 38, descriptorIndex := 39, attributes := #[] }, { accessFlags := 25, nameIndex := 121, descriptorIndex := 25, attributes := #[] }, { accessFlags := 25, nameIndex := 131, descriptorIndex := 25, attributes := #[] }, { accessFlags := 25, nameIndex := 137, descriptorIndex := 25, attributes := #[] }, { accessFlags := 25, nameIndex := 143, descriptorIndex := 25, attributes := #[] }, { accessFlags := 25, nameIndex := 53, descriptorIndex := 25, attributes := #[] }, { accessFlags := 25, nameIndex := 24, descriptorIndex := 25, attributes := #[] }, { accessFlags := 25, nameIndex := 162, descriptorIndex := 25, attributes := #[] }, { accessFlags := 25, nameIndex := 187, descriptorIndex := 25, attributes := #[] }, { accessFlags := 26, nameIndex := 48, descriptorIndex := 25, attributes := #[] }, { accessFlags := 25, nameIndex := 277, descriptorIndex := 25, attributes := #[] }, { accessFlags := 25, nameIndex := 280, descriptorIndex := 25, attributes := #[] }, { accessFlags := 25, nameIndex := 282, descriptorIndex := 25, attributes := #[] }, { accessFlags := 25, nameIndex := 284, descriptorIndex := 25, attributes := #[] }, { accessFlags := 25, nameIndex := 286, descriptorIndex := 25, attributes := #[] }, { accessFlags := 25, nameIndex := 288, descriptorIndex := 25, attributes := #[] }, { accessFlags := 25, nameIndex := 290, descriptorIndex := 25, attributes := #[] }, { accessFlags := 25, nameIndex := 292, descriptorIndex := 25, attributes := #[] }, { accessFlags := 26, nameIndex := 108, descriptorIndex := 109, attributes := #[] }, { accessFlags := 25, nameIndex := 294, descriptorIndex := 25, attributes := #[] }])
  fields := #[{ name := "U", type := (.object "jdk/internal/misc/Unsafe"), accessFlags := 24, slot := 0, constantValue := 0 }, { name := "BIG_ENDIAN", type := .boolean, accessFlags := 26, slot := 1, constantValue := 0 }, { name := "LOG2_ARRAY_BOOLEAN_INDEX_SCALE", type := .int, accessFlags := 25, slot := 2, constantValue := 0 }, { name := "LOG2_ARRAY_BYTE_INDEX_SCALE", type := .int, accessFlags := 25, slot := 3, constantValue := 0 }, { name := "LOG2_ARRAY_CHAR_INDEX_SCALE", type := .int, accessFlags := 25, slot := 4, constantValue := 0 }, { name := "LOG2_ARRAY_SHORT_INDEX_SCALE", type := .int, accessFlags := 25, slot := 5, constantValue := 0 }, { name := "LOG2_ARRAY_INT_INDEX_SCALE", type := .int, accessFlags := 25, slot := 6, constantValue := 0 }, { name := "LOG2_ARRAY_LONG_INDEX_SCALE", type := .int, accessFlags := 25, slot := 7, constantValue := 0 }, { name := "LOG2_ARRAY_FLOAT_INDEX_SCALE", type := .int, accessFlags := 25, slot := 8, constantValue := 0 }, { name := "LOG2_ARRAY_DOUBLE_INDEX_SCALE", type := .int, accessFlags := 25, slot := 9, constantValue := 0 }, { name := "LOG2_BYTE_BIT_SIZE", type := .int, accessFlags := 26, slot := 10, constantValue := 0 }, { name := "T_BOOLEAN", type := .int, accessFlags := 25, slot := 11, constantValue := 0 }, { name := "T_CHAR", type := .int, accessFlags := 25, slot := 12, constantValue := 0 }, { name := "T_FLOAT", type := .int, accessFlags := 25, slot := 13, constantValue := 0 }, { name := "T_DOUBLE", type := .int, accessFlags := 25, slot := 14, constantValue := 0 }, { name := "T_BYTE", type := .int, accessFlags := 25, slot := 15, constantValue := 0 }, { name := "T_SHORT", type := .int, accessFlags := 25, slot := 16, constantValue := 0 }, { name := "T_INT", type := .int, accessFlags := 25, slot := 17, constantValue := 0 }, { name := "T_LONG", type := .int, accessFlags := 25, slot := 18, constantValue := 0 }, { name := "JLA", type := (.object "jdk/internal/access/JavaLangAccess"), accessFlags := 26, slot := 19, constantValue := 0 }, { name := "SOFT_MAX_ARRAY_LENGTH", type := .int, accessFlags := 25, slot := 20, constantValue := 0 }]
  methods := #[k16m0]
  instanceTypes := #[]
  staticTypes := #[(.object "jdk/internal/misc/Unsafe"), .boolean, .int, .int, .int, .int, .int, .int, .int, .int, .int, .int, .int, .int, .int, .int, .int, .int, .int, (.object "jdk/internal/access/JavaLangAccess"), .int]
  resolved := Array.replicate 378 none
  statics := none }

/-- the primitive byte -/
def k17 : Class := { plain "byte" none with kind := .primitive 'B', accessFlags := 0x411 }
/-- [B -/
def k18 : Class := { plain "[B" (some 0) with kind := .array 17 .byte, interfaces := #[10, 2], accessFlags := 1041 }

/-- the primitive char -/
def k19 : Class := { plain "char" none with kind := .primitive 'C', accessFlags := 0x411 }
/-- [C -/
def k20 : Class := { plain "[C" (some 0) with kind := .array 19 .char, interfaces := #[10, 2], accessFlags := 1041 }

/-- the primitive int -/
def k21 : Class := { plain "int" none with kind := .primitive 'I', accessFlags := 0x411 }
/-- [I -/
def k22 : Class := { plain "[I" (some 0) with kind := .array 21 .int, interfaces := #[10, 2], accessFlags := 1041 }

/-- [Lcom/example/querent/querent/translation/Aggregation; -/
def k23 : Class := { plain "[Lcom/example/querent/querent/translation/Aggregation;" (some 0) with kind := .array 9 (.object "com/example/querent/querent/translation/Aggregation"), interfaces := #[10, 2], accessFlags := 1041 }

/-- [Ljava/lang/String; -/
def k24 : Class := { plain "[Ljava/lang/String;" (some 0) with kind := .array 7 (.object "java/lang/String"), interfaces := #[10, 2], accessFlags := 1041 }

def heap : Heap := #[{ cls := 7, slots := #[.long 0, .int 1, .null, .int 0, .null, .int 0, .int 0], vm := .statics 7 },
  { cls := 9, slots := #[.ref 5, .ref 6, .ref 7, .ref 8, .ref 9, .ref 10, .ref 11, .ref 12, .ref 4], vm := .statics 9 },
  { cls := 11, slots := #[.ref 13], vm := .statics 11 },
  { cls := 15, slots := #[.null, .null, .null], vm := .statics 15 },
  { cls := 23, slots := #[.ref 5, .ref 6, .ref 7, .ref 8, .ref 9, .ref 10, .ref 11, .ref 12], vm := .none },
  { cls := 9, slots := #[.null, .int 0, .int 0], vm := .none },
  { cls := 9, slots := #[.null, .int 1, .int 0], vm := .none },
  { cls := 9, slots := #[.null, .int 2, .int 0], vm := .none },
  { cls := 9, slots := #[.null, .int 3, .int 0], vm := .none },
  { cls := 9, slots := #[.null, .int 4, .int 0], vm := .none },
  { cls := 9, slots := #[.null, .int 5, .int 0], vm := .none },
  { cls := 9, slots := #[.null, .int 6, .int 0], vm := .none },
  { cls := 9, slots := #[.null, .int 7, .int 0], vm := .none },
  { cls := 11, slots := #[.null], vm := .none }]
def classes : Array Class := #[k0, k1, k2, k3, k4, k5, k6, k7, k8, k9, k10, k11, k12, k13, k14, k15, k16, k17, k18, k19, k20, k21, k22, k23, k24]
def interned : List (Array UInt16 × Addr) := []
def slotsUsed : Nat := 53
def theMethod : MethodId := ⟨1, 1⟩
def args0 : Array Value := #[.int 0, .int 0, .int 0, .int 0, .int 0, .int 0]
def aboutOver (below : List Frame) : State where
  vm := { classes := classes, interned := interned.toArray }
  heap := heap
  slotsUsed := slotsUsed
  threads := #[{ frames := .invoking theMethod args0 :: below }]
def below0 : List Frame := [.native { method := ⟨0, 0⟩, args := #[] }]
def about1 : State := aboutOver below0
def p0 : Program := .bare "" "" ""
def e0 : Env := launch0.env 0 0 0
theorem w_frames : about1.frames = Frame.invoking theMethod args0 :: below0 := rfl
set_option maxRecDepth 65536 in
theorem w_args : argsFit about1.vm theMethod args0 = true := by decide +kernel
set_option maxRecDepth 65536 in
theorem w_heap : heapFits about1 = true := by decide +kernel
set_option maxRecDepth 65536 in
theorem w_runnable : about1.curStatus? = some .runnable := by decide +kernel
set_option maxRecDepth 65536 in
theorem w_alone : about1.alone = true := by decide +kernel
set_option maxRecDepth 65536 in
theorem w_named : about1.methodNamed? x = some theMethod := by decide +kernel
set_option maxRecDepth 65536 in
theorem w_hears : about1.hears theMethod below0 = true := by decide +kernel
set_option maxRecDepth 65536 in
theorem w_ripe : about1.ripe theMethod args0 below0 = true := by decide +kernel
theorem w_running : about1.status = .running := rfl
set_option maxRecDepth 65536 in
theorem w_room : about1.hasRoom e0.platform room_1 = true :=
  launch0.hasRoom_least _ room_1 (by decide +kernel) (by decide +kernel) (by decide +kernel) (by decide +kernel) (by decide +kernel) (by decide +kernel)
theorem allAtoms_all (ts : List Jvm.Cond) (a : Array Jvm.Value) (st : Jvm.State) : (allAtoms ts).before a st = ts.all (fun c => c.before a st) := by
  induction ts with
  | nil => rfl
  | cons c t ih =>
    show (Jvm.Cond.and c (allAtoms t)).before a st = _
    rw [Jvm.Cond.before_and, ih, List.all_cons]
def words1 : List Jvm.Cond := Jvm.Cond.code x code maxLocals ret :: tables_1
/-- a 'code' word, met by the world's own term for the bytes: nothing is compared byte by byte -/
theorem code_word {y : MethodName} {bytes : ByteArray} {mx : Nat} {rt : Option FieldType} {a : Array Value} {s : State} {m : MethodId} {meth : Method} {c : Code} (h1 : s.methodNamed? y = some m) (h2 : s.vm.method? m = some meth) (h3 : meth.code = some c) (h4 : c.code = bytes)
    (h5 : (c.maxLocals == mx && c.exceptionTable.isEmpty && decide (c.maxStack ≤ mostOperands) && decide (meth.sig.returnType = rt) && !meth.locks && decide (parseMethodDescriptor y.desc = some meth.sig)) = true) : (Jvm.Cond.code y bytes mx rt).before a s = true := by
  simp only [Bool.and_eq_true, beq_iff_eq, Bool.not_eq_true', decide_eq_true_eq] at h5
  obtain ⟨⟨⟨⟨⟨g1, g2⟩, g3⟩, g4⟩, g5⟩, g6⟩ := h5
  simp [Cond.before, Cond.holds, Cond.value, h1, h2, h3, h4, g1, g2, g3, g4, g5, g6]
def isCode : Jvm.Cond → Bool
  | .code _ _ _ _ => true
  | _ => false
theorem all_split {L : List Jvm.Cond} {P : Jvm.Cond → Bool} (h1 : L.all (fun c => isCode c || P c) = true) (h2 : ∀ c ∈ L.filter isCode, P c = true) : L.all P = true := by
  refine List.all_eq_true.mpr fun c hc => ?_
  have h := List.all_eq_true.mp h1 c hc
  rcases Bool.eq_false_or_eq_true (isCode c) with hi | hi
  · exact h2 c (List.mem_filter.mpr ⟨hc, hi⟩)
  · simpa [hi] using h
set_option maxRecDepth 65536 in
theorem w_c0 : (Jvm.Cond.code x code maxLocals ret).before args0 about1 = true := code_word (m := ⟨1, 1⟩) (meth := k1m1) (c := k1c1) (by decide +kernel) rfl rfl rfl (by decide +kernel)
set_option maxRecDepth 65536 in
theorem w_c1 : (Jvm.Cond.code ({ cls := "com/example/querent/querent/translation/Aggregation", name := "of", desc := "(Ljava/lang/String;)Ljava/util/Optional;" } : Jvm.MethodName) prog_1_method_4_code (5 : Nat) (Option.some (Jvm.ClassFile.FieldType.object "java/util/Optional"))).before args0 about1 = true := code_word (m := ⟨9, 1⟩) (meth := k9m1) (c := k9c1) (by decide +kernel) rfl rfl rfl (by decide +kernel)
set_option maxRecDepth 65536 in
theorem w_c2 : (Jvm.Cond.code ({ cls := "com/example/querent/querent/translation/Aggregation", name := "values", desc := "()[Lcom/example/querent/querent/translation/Aggregation;" } : Jvm.MethodName) prog_1_method_1_code (0 : Nat) (Option.some (Jvm.ClassFile.FieldType.array (Jvm.ClassFile.FieldType.object "com/example/querent/querent/translation/Aggregation")))).before args0 about1 = true := code_word (m := ⟨9, 0⟩) (meth := k9m0) (c := k9c0) (by decide +kernel) rfl rfl rfl (by decide +kernel)
set_option maxRecDepth 65536 in
theorem w_c3 : (Jvm.Cond.code ({ cls := "com/example/querent/querent/translation/Aggregation", name := "operation", desc := "()Ljava/lang/String;" } : Jvm.MethodName) prog_1_method_5_code (1 : Nat) (Option.some (Jvm.ClassFile.FieldType.object "java/lang/String"))).before args0 about1 = true := code_word (m := ⟨9, 2⟩) (meth := k9m2) (c := k9c2) (by decide +kernel) rfl rfl rfl (by decide +kernel)
set_option maxRecDepth 65536 in
theorem w_c4 : (Jvm.Cond.code ({ cls := "java/lang/Enum", name := "ordinal", desc := "()I" } : Jvm.MethodName) jdk_37_method_2_code (1 : Nat) (Option.some Jvm.ClassFile.FieldType.int)).before args0 about1 = true := code_word (m := ⟨8, 0⟩) (meth := k8m0) (c := k8c0) (by decide +kernel) rfl rfl rfl (by decide +kernel)
set_option maxRecDepth 65536 in
theorem w_c5 : (Jvm.Cond.code ({ cls := "java/lang/String", name := "equals", desc := "(Ljava/lang/Object;)Z" } : Jvm.MethodName) jdk_42_method_66_code (3 : Nat) (Option.some Jvm.ClassFile.FieldType.boolean)).before args0 about1 = true := code_word (m := ⟨7, 2⟩) (meth := k7m2) (c := k7c2) (by decide +kernel) rfl rfl rfl (by decide +kernel)
set_option maxRecDepth 65536 in
theorem w_c6 : (Jvm.Cond.code ({ cls := "java/util/Optional", name := "of", desc := "(Ljava/lang/Object;)Ljava/util/Optional;" } : Jvm.MethodName) jdk_32_method_3_code (1 : Nat) (Option.some (Jvm.ClassFile.FieldType.object "java/util/Optional"))).before args0 about1 = true := code_word (m := ⟨11, 2⟩) (meth := k11m2) (c := k11c2) (by decide +kernel) rfl rfl rfl (by decide +kernel)
set_option maxRecDepth 65536 in
theorem w_c7 : (Jvm.Cond.code ({ cls := "java/util/Objects", name := "requireNonNull", desc := "(Ljava/lang/Object;)Ljava/lang/Object;" } : Jvm.MethodName) jdk_31_method_10_code (1 : Nat) (Option.some (Jvm.ClassFile.FieldType.object "java/lang/Object"))).before args0 about1 = true := code_word (m := ⟨12, 1⟩) (meth := k12m1) (c := k12c1) (by decide +kernel) rfl rfl rfl (by decide +kernel)
set_option maxRecDepth 65536 in
theorem w_c8 : (Jvm.Cond.code ({ cls := "java/util/Optional", name := "<init>", desc := "(Ljava/lang/Object;)V" } : Jvm.MethodName) jdk_32_method_2_code (2 : Nat) (Option.none : Option Jvm.ClassFile.FieldType)).before args0 about1 = true := code_word (m := ⟨11, 1⟩) (meth := k11m1) (c := k11c1) (by decide +kernel) rfl rfl rfl (by decide +kernel)
set_option maxRecDepth 65536 in
theorem w_c9 : (Jvm.Cond.code ({ cls := "java/lang/Object", name := "<init>", desc := "()V" } : Jvm.MethodName) object_method_1_code (1 : Nat) (Option.none : Option Jvm.ClassFile.FieldType)).before args0 about1 = true := code_word (m := ⟨0, 0⟩) (meth := k0m0) (c := k0c0) (by decide +kernel) rfl rfl rfl (by decide +kernel)
set_option maxRecDepth 65536 in
theorem w_c10 : (Jvm.Cond.code ({ cls := "java/util/Optional", name := "orElse", desc := "(Ljava/lang/Object;)Ljava/lang/Object;" } : Jvm.MethodName) jdk_32_method_15_code (2 : Nat) (Option.some (Jvm.ClassFile.FieldType.object "java/lang/Object"))).before args0 about1 = true := code_word (m := ⟨11, 3⟩) (meth := k11m3) (c := k11c3) (by decide +kernel) rfl rfl rfl (by decide +kernel)
set_option maxRecDepth 65536 in
theorem w_c11 : (Jvm.Cond.code ({ cls := "java/lang/StringLatin1", name := "equals", desc := "([B[B)Z" } : Jvm.MethodName) jdk_43_method_13_code (3 : Nat) (Option.some Jvm.ClassFile.FieldType.boolean)).before args0 about1 = true := code_word (m := ⟨13, 1⟩) (meth := k13m1) (c := k13c1) (by decide +kernel) rfl rfl rfl (by decide +kernel)
set_option maxRecDepth 65536 in
theorem w_c12 : (Jvm.Cond.code ({ cls := "java/util/Optional", name := "empty", desc := "()Ljava/util/Optional;" } : Jvm.MethodName) jdk_32_method_1_code (1 : Nat) (Option.some (Jvm.ClassFile.FieldType.object "java/util/Optional"))).before args0 about1 = true := code_word (m := ⟨11, 0⟩) (meth := k11m0) (c := k11c0) (by decide +kernel) rfl rfl rfl (by decide +kernel)
set_option maxRecDepth 65536 in
theorem w_c13 : (Jvm.Cond.code ({ cls := "java/lang/String", name := "<init>", desc := "([C)V" } : Jvm.MethodName) jdk_42_method_3_code (2 : Nat) (Option.none : Option Jvm.ClassFile.FieldType)).before args0 about1 = true := code_word (m := ⟨7, 1⟩) (meth := k7m1) (c := k7c1) (by decide +kernel) rfl rfl rfl (by decide +kernel)
set_option maxRecDepth 65536 in
theorem w_c14 : (Jvm.Cond.code ({ cls := "java/lang/String", name := "<init>", desc := "([CIILjava/lang/Void;)V" } : Jvm.MethodName) jdk_42_method_149_code (6 : Nat) (Option.none : Option Jvm.ClassFile.FieldType)).before args0 about1 = true := code_word (m := ⟨7, 3⟩) (meth := k7m3) (c := k7c3) (by decide +kernel) rfl rfl rfl (by decide +kernel)
set_option maxRecDepth 65536 in
theorem w_c15 : (Jvm.Cond.code ({ cls := "java/lang/StringUTF16", name := "compress", desc := "([CII)[B" } : Jvm.MethodName) jdk_52_method_16_code (6 : Nat) (Option.some (Jvm.ClassFile.FieldType.array Jvm.ClassFile.FieldType.byte))).before args0 about1 = true := code_word (m := ⟨14, 2⟩) (meth := k14m2) (c := k14c2) (by decide +kernel) rfl rfl rfl (by decide +kernel)
set_option maxRecDepth 65536 in
theorem w_c16 : (Jvm.Cond.code ({ cls := "java/lang/StringUTF16", name := "compress", desc := "([CI[BII)I" } : Jvm.MethodName) jdk_52_method_21_code (7 : Nat) (Option.some Jvm.ClassFile.FieldType.int)).before args0 about1 = true := code_word (m := ⟨14, 3⟩) (meth := k14m3) (c := k14c3) (by decide +kernel) rfl rfl rfl (by decide +kernel)
set_option maxRecDepth 65536 in
theorem w_c17 : (Jvm.Cond.code ({ cls := "java/lang/StringUTF16", name := "coderFromArrayLen", desc := "([BI)B" } : Jvm.MethodName) jdk_52_method_15_code (2 : Nat) (Option.some Jvm.ClassFile.FieldType.byte)).before args0 about1 = true := code_word (m := ⟨14, 1⟩) (meth := k14m1) (c := k14c1) (by decide +kernel) rfl rfl rfl (by decide +kernel)
set_option maxRecDepth 65536 in
theorem w_c18 : (Jvm.Cond.code ({ cls := "com/example/querent/querent/translation/AggregationOfPinLaw", name := "three", desc := "(CCC)Lcom/example/querent/querent/translation/Aggregation;" } : Jvm.MethodName) method_3_code (3 : Nat) (Option.some (Jvm.ClassFile.FieldType.object "com/example/querent/querent/translation/Aggregation"))).before args0 about1 = true := code_word (m := ⟨1, 2⟩) (meth := k1m2) (c := k1c2) (by decide +kernel) rfl rfl rfl (by decide +kernel)
def codes1 : List Jvm.Cond := [Jvm.Cond.code x code maxLocals ret, Jvm.Cond.code ({ cls := "com/example/querent/querent/translation/Aggregation", name := "of", desc := "(Ljava/lang/String;)Ljava/util/Optional;" } : Jvm.MethodName) prog_1_method_4_code (5 : Nat) (Option.some (Jvm.ClassFile.FieldType.object "java/util/Optional")), Jvm.Cond.code ({ cls := "com/example/querent/querent/translation/Aggregation", name := "values", desc := "()[Lcom/example/querent/querent/translation/Aggregation;" } : Jvm.MethodName) prog_1_method_1_code (0 : Nat) (Option.some (Jvm.ClassFile.FieldType.array (Jvm.ClassFile.FieldType.object "com/example/querent/querent/translation/Aggregation"))), Jvm.Cond.code ({ cls := "com/example/querent/querent/translation/Aggregation", name := "operation", desc := "()Ljava/lang/String;" } : Jvm.MethodName) prog_1_method_5_code (1 : Nat) (Option.some (Jvm.ClassFile.FieldType.object "java/lang/String")), Jvm.Cond.code ({ cls := "java/lang/Enum", name := "ordinal", desc := "()I" } : Jvm.MethodName) jdk_37_method_2_code (1 : Nat) (Option.some Jvm.ClassFile.FieldType.int), Jvm.Cond.code ({ cls := "java/lang/String", name := "equals", desc := "(Ljava/lang/Object;)Z" } : Jvm.MethodName) jdk_42_method_66_code (3 : Nat) (Option.some Jvm.ClassFile.FieldType.boolean), Jvm.Cond.code ({ cls := "java/util/Optional", name := "of", desc := "(Ljava/lang/Object;)Ljava/util/Optional;" } : Jvm.MethodName) jdk_32_method_3_code (1 : Nat) (Option.some (Jvm.ClassFile.FieldType.object "java/util/Optional")), Jvm.Cond.code ({ cls := "java/util/Objects", name := "requireNonNull", desc := "(Ljava/lang/Object;)Ljava/lang/Object;" } : Jvm.MethodName) jdk_31_method_10_code (1 : Nat) (Option.some (Jvm.ClassFile.FieldType.object "java/lang/Object")), Jvm.Cond.code ({ cls := "java/util/Optional", name := "<init>", desc := "(Ljava/lang/Object;)V" } : Jvm.MethodName) jdk_32_method_2_code (2 : Nat) (Option.none : Option Jvm.ClassFile.FieldType), Jvm.Cond.code ({ cls := "java/lang/Object", name := "<init>", desc := "()V" } : Jvm.MethodName) object_method_1_code (1 : Nat) (Option.none : Option Jvm.ClassFile.FieldType), Jvm.Cond.code ({ cls := "java/util/Optional", name := "orElse", desc := "(Ljava/lang/Object;)Ljava/lang/Object;" } : Jvm.MethodName) jdk_32_method_15_code (2 : Nat) (Option.some (Jvm.ClassFile.FieldType.object "java/lang/Object")), Jvm.Cond.code ({ cls := "java/lang/StringLatin1", name := "equals", desc := "([B[B)Z" } : Jvm.MethodName) jdk_43_method_13_code (3 : Nat) (Option.some Jvm.ClassFile.FieldType.boolean), Jvm.Cond.code ({ cls := "java/util/Optional", name := "empty", desc := "()Ljava/util/Optional;" } : Jvm.MethodName) jdk_32_method_1_code (1 : Nat) (Option.some (Jvm.ClassFile.FieldType.object "java/util/Optional")), Jvm.Cond.code ({ cls := "java/lang/String", name := "<init>", desc := "([C)V" } : Jvm.MethodName) jdk_42_method_3_code (2 : Nat) (Option.none : Option Jvm.ClassFile.FieldType), Jvm.Cond.code ({ cls := "java/lang/String", name := "<init>", desc := "([CIILjava/lang/Void;)V" } : Jvm.MethodName) jdk_42_method_149_code (6 : Nat) (Option.none : Option Jvm.ClassFile.FieldType), Jvm.Cond.code ({ cls := "java/lang/StringUTF16", name := "compress", desc := "([CII)[B" } : Jvm.MethodName) jdk_52_method_16_code (6 : Nat) (Option.some (Jvm.ClassFile.FieldType.array Jvm.ClassFile.FieldType.byte)), Jvm.Cond.code ({ cls := "java/lang/StringUTF16", name := "compress", desc := "([CI[BII)I" } : Jvm.MethodName) jdk_52_method_21_code (7 : Nat) (Option.some Jvm.ClassFile.FieldType.int), Jvm.Cond.code ({ cls := "java/lang/StringUTF16", name := "coderFromArrayLen", desc := "([BI)B" } : Jvm.MethodName) jdk_52_method_15_code (2 : Nat) (Option.some Jvm.ClassFile.FieldType.byte), Jvm.Cond.code ({ cls := "com/example/querent/querent/translation/AggregationOfPinLaw", name := "three", desc := "(CCC)Lcom/example/querent/querent/translation/Aggregation;" } : Jvm.MethodName) method_3_code (3 : Nat) (Option.some (Jvm.ClassFile.FieldType.object "com/example/querent/querent/translation/Aggregation"))]
set_option maxRecDepth 65536 in
theorem codes_eq : words1.filter isCode = codes1 := rfl
theorem w_codes : ∀ c ∈ words1.filter isCode, c.before args0 about1 = true := by
  rw [codes_eq]
  intro c hc
  simp only [codes1, List.mem_cons, List.not_mem_nil, or_false] at hc
  rcases hc with rfl | rfl | rfl | rfl | rfl | rfl | rfl | rfl | rfl | rfl | rfl | rfl | rfl | rfl | rfl | rfl | rfl | rfl | rfl
  · exact w_c0
  · exact w_c1
  · exact w_c2
  · exact w_c3
  · exact w_c4
  · exact w_c5
  · exact w_c6
  · exact w_c7
  · exact w_c8
  · exact w_c9
  · exact w_c10
  · exact w_c11
  · exact w_c12
  · exact w_c13
  · exact w_c14
  · exact w_c15
  · exact w_c16
  · exact w_c17
  · exact w_c18
set_option maxRecDepth 65536 in
theorem w_t1 : (words1.take 24).all (fun c => isCode c || c.before args0 about1) = true := by decide +kernel
set_option maxRecDepth 65536 in
theorem w_t2 : ((words1.drop 24).take 24).all (fun c => isCode c || c.before args0 about1) = true := by decide +kernel
set_option maxRecDepth 65536 in
theorem w_t3 : (((words1.drop 24).drop 24).take 24).all (fun c => isCode c || c.before args0 about1) = true := by decide +kernel
set_option maxRecDepth 65536 in
theorem w_t4 : ((((words1.drop 24).drop 24).drop 24).take 24).all (fun c => isCode c || c.before args0 about1) = true := by decide +kernel
set_option maxRecDepth 65536 in
theorem w_t5 : (((((words1.drop 24).drop 24).drop 24).drop 24).take 24).all (fun c => isCode c || c.before args0 about1) = true := by decide +kernel
set_option maxRecDepth 65536 in
theorem w_t6 : ((((((words1.drop 24).drop 24).drop 24).drop 24).drop 24).take 24).all (fun c => isCode c || c.before args0 about1) = true := by decide +kernel
set_option maxRecDepth 65536 in
theorem w_t7 : ((((((words1.drop 24).drop 24).drop 24).drop 24).drop 24).drop 24).all (fun c => isCode c || c.before args0 about1) = true := by decide +kernel
theorem w_tables : (allAtoms (Jvm.Cond.code x code maxLocals ret :: tables_1)).before args0 about1 = true := by
  rw [allAtoms_all]
  show words1.all (fun c => c.before args0 about1) = true
  refine all_split ?_ w_codes
  rw [← List.take_append_drop 24 words1, List.all_append, w_t1, ← List.take_append_drop 24 (words1.drop 24), List.all_append, w_t2, ← List.take_append_drop 24 ((words1.drop 24).drop 24), List.all_append, w_t3, ← List.take_append_drop 24 (((words1.drop 24).drop 24).drop 24), List.all_append, w_t4, ← List.take_append_drop 24 ((((words1.drop 24).drop 24).drop 24).drop 24), List.all_append, w_t5, ← List.take_append_drop 24 (((((words1.drop 24).drop 24).drop 24).drop 24).drop 24), List.all_append, w_t6, w_t7]
  rfl
set_option maxRecDepth 65536 in
theorem w_rest : rest_1_c.before args0 about1 = true := by decide +kernel
set_option maxRecDepth 65536 in
theorem w_case : (Jvm.Cond.and given_1 narrow_1).before args0 about1 = true := by decide +kernel
set_option maxRecDepth 65536 in
theorem w_consts : constsHeld consts_1 about1 := Jvm.Lit.constsHeldB_iff.mp (by decide +kernel)
theorem w_applies : (headSpec (Jvm.Cond.code x code maxLocals ret :: tables_1) room_1).applies x e0.platform about1 = true :=
  (Spec.applies_iff w_frames).mpr ⟨w_running, w_runnable, w_alone, w_named, w_hears, w_ripe, w_room, w_tables⟩
theorem atStart : AtStart classFile x code maxLocals ret World_1 tables_1 room_1 Calls_1 rest_1 Pre_1 launch0 p0 e0 about1 theMethod args0 below0 :=
  ⟨lists_1, trivial, launch0.admits_env _ _ _, launch0.least_env, fairChoices_fair.cas, fairChoices_fair.clock, w_frames, w_args, w_heap, w_applies, ⟨w_consts, trivial⟩, w_rest, w_case⟩
end start1
theorem witness_1 : WitnessClaimed_1 := ⟨start1.p0, start1.e0, start1.about1, start1.theMethod, start1.args0, start1.below0, start1.atStart⟩
end Jvm.Pilot.@@N@@
